import Derived.Test.Qxb6613772aFan
namespace Go.Proofs.Qxb6613772a
open Go.RowKit
set_option linter.unusedVariables false

/-! ### Chunks -/
def pk (m : List Int) : List Int := hiB m.length :: loB m.length :: m
def pack : List (List Int) → List Int
  | [] => []
  | m :: r => pk m ++ pack r
theorem pack_append (A B : List (List Int)) : pack (A ++ B) = pack A ++ pack B := by
  induction A with
  | nil => rfl
  | cons m r ih => simp [pack, ih]
theorem pack_snoc (A : List (List Int)) (m : List Int) : pack (A ++ [m]) = pack A ++ pk m := by rw [pack_append]; simp [pack]
theorem len_pk (m : List Int) : (pk m).length = m.length + 2 := rfl
theorem len_pack (A : List (List Int)) : (pack A).length = total A + 2 * A.length := by
  induction A with
  | nil => rfl
  | cons m r ih => simp only [pack, List.length_append, len_pk, ih, total, List.length_cons]; omega
/-- Where the first j end, the message number j begins. -/
theorem pack_at (A : List (List Int)) (j : Nat) (h : j < A.length) : pack A = pack (A.take j) ++ pk A[j] ++ pack (A.drop (j + 1)) := by
  have e : A = A.take j ++ ([A[j]] ++ A.drop (j + 1)) := by
    rw [List.singleton_append, ← List.drop_eq_getElem_cons h, List.take_append_drop]
  have e2 := congrArg pack e
  rw [pack_append, pack_append] at e2
  rw [e2]
  simp [pack]
theorem pack_lt (A : List (List Int)) (j : Nat) (h : j < A.length) : (pack (A.take j)).length < (pack A).length := by
  rw [pack_at A j h]
  simp [len_pk]
  omega

structure Chunk where
  g : Nat
  cap : Nat
  ms : List (List Int)
def Chunk.v (c : Chunk) : Value := .slice (some ⟨c.g, 0, none⟩) (pack c.ms).length c.cap
def msgs (cs : List Chunk) : List (List Int) := cs.flatMap Chunk.ms
def ptrV (p : Nat) : Value := .pointer (some ⟨p, 0, none⟩)

/-- The Fanout in block F: all chunks that were ever made are cs; the first 'base' are taken out. All of its blocks lie from B on. -/
structure FAt (w : World) (B F : Nat) (cs : List Chunk) (base put : Nat) (cv : Value) (go : Option Nat) (pv : Value) (gp : Option Nat) (ps : List Nat) : Prop where
  row : w.heap[F]? = some (.cells #[.nilFunc, cv, .int .u64 base, .int .u64 put, pv] 62 (0, 0))
  own : Own w 29 cv go ((cs.drop base).map Chunk.v)
  chunks : ∀ c ∈ cs, Row w c.g c.cap (pack c.ms) ∧ B ≤ c.g
  apart : (cs.map Chunk.g).Nodup
  base_le : base ≤ cs.length
  places : Lies w gp pv (ps.map ptrV)
  bF : B ≤ F
  bgo : ∀ k, go = some k → B ≤ k
  bgp : ∀ k, gp = some k → B ≤ k ∧ k < w.heap.size ∧ k ≠ F ∧ some k ≠ go ∧ k ∉ cs.map Chunk.g
theorem FAt.ltF {w : World} {B F : Nat} {cs : List Chunk} {base put : Nat} {cv : Value} {go : Option Nat} {pv : Value} {gp : Option Nat} {ps : List Nat} (h : FAt w B F cs base put cv go pv gp ps) : F < w.heap.size := (Array.getElem?_eq_some_iff.1 h.row).1
/-- The place in block P: it has taken i messages; the next is the number j of the chunk number c, or lies behind that chunk. -/
def msOf (cs : List Chunk) (c : Nat) : List (List Int) := ((cs[c]?).map Chunk.ms).getD []
structure PlAt (w : World) (F P : Nat) (cs : List Chunk) (tt : Int) (i c j : Nat) : Prop where
  row : w.heap[P]? = some (.cells #[ptrV F, .int .i64 tt, .func (.func 32) #[] #[], .int .u64 i, .int .u64 c, .int .i64 (pack ((msOf cs c).take j)).length] 70 (0, 0))
  num : i = (msgs (cs.take c)).length + j
  le : j ≤ (msOf cs c).length
  lt : c < cs.length ∨ (cs = [] ∧ c = 0)

theorem nilFunc_ne (w : World) : (binOp .neq 58 .nilFunc .nilFunc).run Try.prog w = .ok (.bool false) w := by
  kernel_rfl

set_option maxHeartbeats 400000 in
theorem len41 (w : World) (F P : Nat) (tt : Int) (i put c : Nat) (off : Int) (x0 x1 x2 x4 : Value) (hi : i ≤ put) (hput : put ≤ 1048576) (hP : w.heap[P]? = some (.cells #[ptrV F, .int .i64 tt, .func (.func 32) #[] #[], .int .u64 i, .int .u64 c, .int .i64 off] 70 (0, 0)))
    (hF : w.heap[F]? = some (.cells #[x0, x1, x2, .int .u64 put, x4] 62 (0, 0))) :
    Calls Try.prog 41 #[.pointer (some ⟨P, 0, none⟩)] w fun e w' => e = .returned (.int .i64 ((put - i : Nat) : Int)) ∧ Below w.heap.size w w' := by
  have c0 : w.cell? ⟨P, 0, none⟩ = some (.pointer (some ⟨F, 0, none⟩)) := cell_of_row _ _ _ _ _ _ hP
  have c3 : w.cell? ⟨P, 3, none⟩ = some (.int .u64 i) := cell_of_row _ _ _ _ _ _ hP
  have d3 : w.cell? ⟨F, 3, none⟩ = some (.int .u64 put) := cell_of_row _ _ _ _ _ _ hF
  clear hP hF
  have hs : ((put - i : Nat) : Int) = (put : Int) - (i : Int) := by omega
  rw [hs]
  go_enter Try.func41, Try.ntmps41
  go_wp2
  go_quiet (fail)
  go_wp2
  go_ret
  exact ⟨rfl, below_drewN (Below.refl _ _) _⟩

theorem len26 (w : World) (F P : Nat) (tt : Int) (i put c : Nat) (off : Int) (x0 x1 x2 x4 : Value) (hi : i ≤ put) (hput : put ≤ 1048576) (hP : w.heap[P]? = some (.cells #[ptrV F, .int .i64 tt, .func (.func 32) #[] #[], .int .u64 i, .int .u64 c, .int .i64 off] 70 (0, 0)))
    (hF : w.heap[F]? = some (.cells #[x0, x1, x2, .int .u64 put, x4] 62 (0, 0))) :
    Calls Try.prog 26 #[.pointer (some ⟨P, 0, none⟩)] w fun e w' => e = .returned (.int .i64 ((put - i : Nat) : Int)) ∧ Below w.heap.size w w' := by
  go_enter Try.func26, Try.ntmps26
  go_wp2_with (go_at_call 41; refine (len41 w F P tt i put c off x0 x1 x2 x4 hi hput hP hF).mono ?_; rintro e w2 ⟨rfl, hb⟩)
  go_ret
  exact ⟨rfl, hb⟩

end Go.Proofs.Qxb6613772a
