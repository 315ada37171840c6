import Derived.Test.Qxb6613772aFan2
namespace Go.Proofs.Qxb6613772a
open Go.RowKit
set_option linter.unusedVariables false

/-- The place's block as the walk reads it. -/
def plCells (F : Nat) (tt : Int) (i c : Nat) (off : Nat) : Array Value := #[ptrV F, .int .i64 tt, .func (.func 32) #[] #[], .int .u64 i, .int .u64 c, .int .i64 off]

/-- What advance leaves: the message's header (of an empty one: wherever), the place moved on. -/
def AdvPost (w : World) (F P : Nat) (tt : Int) (i c g : Nat) (A m : List Int) (e : Ending) (w' : World) : Prop :=
  ∃ k, (m = [] ∨ k = A.length + 2) ∧ e = .returned (.slice (some ⟨g, k, none⟩) m.length m.length) ∧ w'.heap[P]? = some (.cells (plCells F tt (i + 1) c (A.length + 2 + m.length)) 70 (0, 0)) ∧ w.grownBy w' (some P)
theorem pl_set {w wc : World} {F P : Nat} {tt : Int} {i c a n : Nat} (hb : Below w.heap.size w wc) (hP : wc.heap[P]? = some (.cells (plCells F tt i c a) 70 (0, 0))) :
    ((wc.setCell ⟨P, 5, none⟩ (.int .i64 ((a : Int) + 2 + (n : Int)))).setCell ⟨P, 3, none⟩ (.int .u64 ((i : Int) + 1))).heap[P]? = some (.cells (plCells F tt (i + 1) c (a + 2 + n)) 70 (0, 0)) ∧ w.grownBy ((wc.setCell ⟨P, 5, none⟩ (.int .i64 ((a : Int) + 2 + (n : Int)))).setCell ⟨P, 3, none⟩ (.int .u64 ((i : Int) + 1))) (some P) := by
  have h1 : (wc.setCell ⟨P, 5, none⟩ (.int .i64 ((a : Int) + 2 + (n : Int)))).heap[P]? = _ := heap_setCell_same wc P 5 _ _ _ hP
  have h2 : ((wc.setCell ⟨P, 5, none⟩ (.int .i64 ((a : Int) + 2 + (n : Int)))).setCell ⟨P, 3, none⟩ (.int .u64 ((i : Int) + 1))).heap[P]? = _ := heap_setCell_same _ P 3 _ _ _ h1
  refine ⟨h2.trans ?_, ⟨hb.os, hb.tape, hb.output, by have := hb.size; simpa [World.setCell] using this, fun k hk hne => ?_⟩⟩
  · simp [plCells]
  · rw [heap_setCell_other _ _ _ _ (fun e => hne (by rw [e])), heap_setCell_other _ _ _ _ (fun e => hne (by rw [e])), hb.block k hk]

set_option maxHeartbeats 1000000 in
set_option maxRecDepth 100000 in
/-- The message lies in the chunk at hand. -/
theorem adv1 (w : World) (F P : Nat) (tt : Int) (i c base put G o len capv : Nat) (x0 x4 : Value) (g cap : Nat) (A m C : List Int)
    (hP : w.heap[P]? = some (.cells (plCells F tt i c A.length) 70 (0, 0)))
    (hF : w.heap[F]? = some (.cells #[x0, .slice (some ⟨G, o, none⟩) len capv, .int .u64 base, .int .u64 put, x4] 62 (0, 0)))
    (hbc : base ≤ c) (hcl : c - base < len) (hc : w.cell? ⟨G, o + (c - base), none⟩ = some (.slice (some ⟨g, 0, none⟩) (A ++ pk m ++ C).length cap)) (hrow : Row w g cap (A ++ pk m ++ C))
    (hm : m.length < 65536) (hi : i ≤ 1048576) (hcs : c ≤ 1048576) (hcap : cap ≤ 4294967296) :
    Calls Try.prog 44 #[.pointer (some ⟨P, 0, none⟩)] w fun e w' => AdvPost w F P tt i c g A m e w' := by
  have c0 : w.cell? ⟨P, 0, none⟩ = some (.pointer (some ⟨F, 0, none⟩)) := cell_of_row _ _ _ _ _ _ hP
  have c3 : w.cell? ⟨P, 3, none⟩ = some (.int .u64 i) := cell_of_row _ _ _ _ _ _ hP
  have c4 : w.cell? ⟨P, 4, none⟩ = some (.int .u64 c) := cell_of_row _ _ _ _ _ _ hP
  have c5 : w.cell? ⟨P, 5, none⟩ = some (.int .i64 A.length) := cell_of_row _ _ _ _ _ _ hP
  have d1 : w.cell? ⟨F, 1, none⟩ = some (.slice (some ⟨G, o, none⟩) len capv) := cell_of_row _ _ _ _ _ _ hF
  have d2 : w.cell? ⟨F, 2, none⟩ = some (.int .u64 base) := cell_of_row _ _ _ _ _ _ hF
  have hle := hrow.le
  have hlen : (A ++ pk m ++ C).length = A.length + (m.length + 2) + C.length := by simp [len_pk]; omega
  rw [hlen] at hc hle
  have hidx : (c : Int) - (base : Int) = ((c - base : Nat) : Int) := by omega
  have HP := hid hP
  have HF := hid hF
  have HL := hid hlen
  clear hP hF hlen
  have i1 : ((c - base : Nat) : Int) < (len : Int) := by omega
  have i2 : ¬ (A.length : Int) = (A.length : Int) + ((m.length : Int) + 2) + (C.length : Int) := by omega
  generalize c - base = ix at *
  go_enter Try.func44, Try.ntmps44
  go_wp2
  go_quiet (fail)
  go_wp2
  have hB0 : Below w.heap.size w (w.drewN nq) := below_drewN (Below.refl _ _) _
  generalize w.drewN nq = w1 at hB0 ⊢
  have e5 := cell_later hB0 c5
  have HM : Hid (MsgAt w1.drew (.slice (some ⟨g, A.length, none⟩) (A.length + (m.length + 2) + C.length - A.length) (cap - A.length)) (hiB m.length :: loB m.length :: (m ++ C))) := by
    have h1 : Row w1.drew g cap (A ++ pk m ++ C) := hrow.kept (hB0.block g hrow.lt)
    have h2 := h1.part A (pk m ++ C) [] (by simp) (cap - A.length)
    have h3 : (pk m ++ C).length = A.length + (m.length + 2) + C.length - A.length := by simp [len_pk]; omega
    rw [h3] at h2
    exact h2
  have HB : Hid (Below w.heap.size w w1.drew) := hB0.drew
  have HWR : Hid (IntKind.i64.wrap (m.length : Int) = (m.length : Int)) := hid (by rw [IntKind.wrap_i64]; omega)
  go_cut [5] (fun t wx => t = .int .i64 m.length ∧ Below w.heap.size w wx)
  case first =>
    go_region_with (go_at_call 46; refine (uint16 _ _ m.length hm (m ++ C) HM.out).mono ?_; rintro e w2 ⟨rfl, hb2⟩)
    all_goals (go_wp2_with fail; go_meet; exact ⟨by rw [HWR.out], HB.out.trans (Below.mono (by assumption) HB.out.size)⟩)
  case rest =>
    obtain ⟨rfl, hbc⟩ := hcut
    have hPc : wc.heap[P]? = some (.cells (plCells F tt i c A.length) 70 (0, 0)) := (hbc.block P (Array.getElem?_eq_some_iff.1 HP.out).1).trans HP.out
    have k3 : wc.cell? ⟨P, 3, none⟩ = some (.int .u64 i) := cell_of_row _ _ _ _ _ _ hPc
    have k5 : wc.cell? ⟨P, 5, none⟩ = some (.int .i64 A.length) := cell_of_row _ _ _ _ _ _ hPc
    have l3 := frozen_of_row wc P 3 _ _ hPc
    have l5 := frozen_of_row wc P 5 _ _ hPc
    have HPC := hid hPc
    clear hPc e5 hB0 c0 c3 c4 c5 d1 d2 hc
    go_wp2
    · go_ret
      have hm0 : m = [] := List.eq_nil_of_length_eq_zero (by omega)
      subst hm0
      exact ⟨0, .inl rfl, rfl, pl_set hbc HPC.out⟩
    · rename_i hm0
      exact absurd (by rw [h]; rfl) hm0
    · go_ret
      exact ⟨_, .inr rfl, rfl, pl_set hbc HPC.out⟩

end Go.Proofs.Qxb6613772a
