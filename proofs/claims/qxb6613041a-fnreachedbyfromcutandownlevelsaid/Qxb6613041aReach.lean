import Derived.Test.Qxb6613041aRows
import Derived.WalkKit
import Derived.ProofKit
import Derived.OpenShut
import Derived.WalkSpells
import Derived.WalkLawsBesides
import Derived.Deep.RegionHeld3
import Derived.Deep.AppendLies
import Derived.BigQuiet
namespace Go.Proofs.Qxb6613041a
open Go.RowKit
def reachedB (lp pce f : Int) (s P t q : Nat → Int) : Bool :=
  decide (lp ≤ pce) && (List.range 16).all (fun i => decide (s i ≤ P i)) && (List.range 16).all (fun i => decide ((i : Int) < f) || decide (t i ≤ q i))
theorem reachedB_iff (lp pce f : Int) (s P t q : Nat → Int) : reachedB lp pce f s P t q = true ↔ lp ≤ pce ∧ (∀ i, i < 16 → s i ≤ P i) ∧ (∀ i : Nat, i < 16 → f ≤ (i : Int) → t i ≤ q i) := by
  unfold reachedB
  simp only [Bool.and_eq_true, decide_eq_true_eq, List.all_eq_true, List.mem_range, Bool.or_eq_true, and_assoc]
  constructor
  · rintro ⟨a, b, c⟩; exact ⟨a, b, fun i hi hf => by rcases c i hi with h | h <;> omega⟩
  · rintro ⟨a, b, c⟩; exact ⟨a, b, fun i hi => by by_cases h : (i : Int) < f; exact .inl h; exact .inr (c i hi (by omega))⟩
theorem reachedB_false {lp pce f : Int} {s P t q : Nat → Int} (h : ¬ (lp ≤ pce ∧ (∀ i, i < 16 → s i ≤ P i) ∧ (∀ i : Nat, i < 16 → f ≤ (i : Int) → t i ≤ q i))) : reachedB lp pce f s P t q = false := by
  rw [Bool.eq_false_iff]; intro e; exact h ((reachedB_iff ..).1 e)
theorem ret_bool {a b : Bool} (h : a = b) : Ending.returned (.bool a) = .returned (.bool b) := by rw [h]
set_option maxHeartbeats 400000 in
theorem reached_any (w : World) (b bq bp g1 c1 g2 n1 n2 c2 : Nat) (lp pce f : Int) (s t P q : Nat → Int)
    (hb1 : w.cell? ⟨b, 1, none⟩ = some (.int .u16 lp)) (hp16 : w.cell? ⟨bp, 16, none⟩ = some (.int .u16 pce))
    (hb0 : w.cell? ⟨b, 0, none⟩ = some (.slice (some ⟨g1, 0, none⟩) n1 c1)) (hn1 : 16 ≤ n1)
    (hs : ∀ i, i < 16 → w.cell? ⟨g1, i * 3, none⟩ = some (.int .u8 (s i)))
    (hp : ∀ i, i < 16 → w.cell? ⟨bp, i, none⟩ = some (.int .u8 (P i))) (f0 : 0 ≤ f)
    (hb2 : f < 16 → w.cell? ⟨b, 2, none⟩ = some (.slice (some ⟨g2, 0, none⟩) n2 c2) ∧ 16 ≤ n2)
    (ht : f < 16 → ∀ i, i < 16 → w.cell? ⟨g2, i * 3, none⟩ = some (.int .u8 (t i)))
    (hq : ∀ i, i < 16 → w.cell? ⟨bq, 38 + i, none⟩ = some (.int .u8 (q i))) :
    Calls Try.prog 13 #[.pointer (some ⟨b, 0, none⟩), .pointer (some ⟨bq, 0, none⟩), .pointer (some ⟨bp, 0, none⟩), .int .i64 f] w fun e w' => e = .returned (.bool (reachedB lp pce f s P t q)) ∧ ∃ n, w' = w.drewN n := by
  by_cases hl : pce < lp
  · have HR : Hid (reachedB lp pce f s P t q = false) := reachedB_false (fun h => by have := h.1; omega)
    go_enter Try.func13, Try.ntmps13
    go_wp2
    go_quiet (fail)
    go_wp2
    go_ret
    exact ⟨ret_bool HR.out.symm, _, by first | rfl | rw [World.drewN_drewN]⟩
  · go_enter Try.func13, Try.ntmps13
    go_wp2
    go_quiet (fail)
    go_wp2
    go_loopw [20] (fun c w' => ∃ k : Nat, k ≤ 16 ∧ c = .int .i64 k ∧ (∀ j, j < k → s j ≤ P j) ∧ ∃ n, w' = w.drewN n) (fun c _ => 16 - (intOf c).toNat)
    case atStart => exact ⟨0, by omega, rfl, fun j hj => by omega, _, rfl⟩
    case round =>
      obtain ⟨k, hk, rfl, hle, n, rfl⟩ := hrel
      by_cases hlt : k < 16
      · have c1 := hs k hlt
        have c2 := hp k hlt
        have i1 : (k : Int) < 16 := by omega
        have i2 : (k : Int) < (n1 : Int) := by omega
        by_cases hc : P k < s k
        · have HR : Hid (reachedB lp pce f s P t q = false) := reachedB_false (fun h => by have := h.2.1 k hlt; omega)
          go_wp2
          go_quiet (fail)
          go_wp2
          go_ret
          exact ⟨ret_bool HR.out.symm, _, by first | rfl | rw [World.drewN_drewN]⟩
        · go_wp2
          go_quiet (fail)
          go_wp2
          go_roundw
          case rel => exact ⟨k + 1, by omega, by go_num, fun j hj => by by_cases e : j = k; (subst e; omega); exact hle j (by omega), _, by first | rfl | rw [World.drewN_drewN]⟩
          case measure => simp [intOf]; omega
      · have hle' : ∀ j, j < 16 → s j ≤ P j := fun j hj => hle j (by omega)
        clear hle
        go_wp2
        go_loopw [10] (fun c w' => ∃ k : Int, f ≤ k ∧ c = .int .i64 k ∧ (∀ j : Nat, f ≤ (j : Int) → (j : Int) < k → j < 16 → t j ≤ q j) ∧ ∃ n, w' = w.drewN n) (fun c _ => (16 - intOf c).toNat)
        case atStart => exact ⟨f, by omega, rfl, fun j hj hj' => by omega, _, rfl⟩
        case round =>
          obtain ⟨k, hk, rfl, hle, n, rfl⟩ := hrel
          by_cases hlt : k < 16
          · obtain ⟨k, rfl⟩ := Int.eq_ofNat_of_zero_le (show 0 ≤ k by omega)
            obtain ⟨d1, d2⟩ := hb2 (by omega)
            have c1 := ht (by omega) k (by omega)
            have c2 := hq k (by omega)
            have i2 : (k : Int) < (n2 : Int) := by omega
            by_cases hc : q k < t k
            · have HR : Hid (reachedB lp pce f s P t q = false) := reachedB_false (fun h => by have := h.2.2 k (by omega) hk; omega)
              go_wp2
              go_quiet (fail)
              go_wp2
              go_ret
              exact ⟨ret_bool HR.out.symm, _, by first | rfl | rw [World.drewN_drewN]⟩
            · go_wp2
              go_quiet (fail)
              go_wp2
              go_roundw
              case rel => exact ⟨k + 1, by omega, by go_num, fun j hj hj' hjj => by by_cases e : j = k; (subst e; omega); exact hle j hj (by omega) hjj, _, by first | rfl | rw [World.drewN_drewN]⟩
              case measure => simp [intOf]; omega
          · have HR : Hid (reachedB lp pce f s P t q = true) := (reachedB_iff ..).2 ⟨by omega, hle', fun i hi hf => hle i hf (by omega) hi⟩
            go_wp2
            go_ret
            exact ⟨ret_bool HR.out.symm, _, by first | rfl | rw [World.drewN_drewN]⟩

/-- The level that 'buildLevel' lays: block b holds the struct, its two slices hold one component (three cells) a number. -/
def LevelAt (w : World) (b : Nat) (lp : Int) (n1 n2 : Nat) (s t : Nat → Int) : Prop :=
  w.cell? ⟨b, 1, none⟩ = some (.int .u16 lp) ∧
  (∃ g c, w.cell? ⟨b, 0, none⟩ = some (.slice (some ⟨g, 0, none⟩) n1 c) ∧ ∀ i, i < n1 → w.cell? ⟨g, i * 3, none⟩ = some (.int .u8 (s i))) ∧
  (n2 = 0 ∨ ∃ g c, w.cell? ⟨b, 2, none⟩ = some (.slice (some ⟨g, 0, none⟩) n2 c) ∧ ∀ i, i < n2 → w.cell? ⟨g, i * 3, none⟩ = some (.int .u8 (t i)))
/-- The platform: sixteen numbers, then the PCE's. -/
def PlatAt (w : World) (b : Nat) (pce : Int) (P : Nat → Int) : Prop :=
  w.cell? ⟨b, 16, none⟩ = some (.int .u16 pce) ∧ ∀ i, i < 16 → w.cell? ⟨b, i, none⟩ = some (.int .u8 (P i))
theorem LevelAt.later {w w' : World} {b : Nat} {lp : Int} {n1 n2 : Nat} {s t : Nat → Int} (h : LevelAt w b lp n1 n2 s t) (hb : Below w.heap.size w w') : LevelAt w' b lp n1 n2 s t := by
  obtain ⟨h1, ⟨g, c, h2, h3⟩, h4⟩ := h
  refine ⟨cell_later hb h1, ⟨g, c, cell_later hb h2, fun i hi => cell_later hb (h3 i hi)⟩, ?_⟩
  rcases h4 with h4 | ⟨g', c', h5, h6⟩
  · exact .inl h4
  · exact .inr ⟨g', c', cell_later hb h5, fun i hi => cell_later hb (h6 i hi)⟩
theorem PlatAt.later {w w' : World} {b : Nat} {pce : Int} {P : Nat → Int} (h : PlatAt w b pce P) (hb : Below w.heap.size w w') : PlatAt w' b pce P :=
  ⟨cell_later hb h.1, fun i hi => cell_later hb (h.2 i hi)⟩
/-- reachedBy, out of the three readings. -/
theorem reached_at (w : World) (b bq bp n1 n2 : Nat) (lp pce f : Int) (s t P q : Nat → Int) (hL : LevelAt w b lp n1 n2 s t) (hP : PlatAt w bp pce P) (hn1 : 16 ≤ n1) (f0 : 0 ≤ f) (hn2 : f < 16 → 16 ≤ n2)
    (hq : ∀ i, i < 16 → w.cell? ⟨bq, 38 + i, none⟩ = some (.int .u8 (q i))) :
    Calls Try.prog 13 #[.pointer (some ⟨b, 0, none⟩), .pointer (some ⟨bq, 0, none⟩), .pointer (some ⟨bp, 0, none⟩), .int .i64 f] w fun e w' => e = .returned (.bool (reachedB lp pce f s P t q)) ∧ ∃ n, w' = w.drewN n := by
  obtain ⟨h1, ⟨g, c, h2, h3⟩, h4⟩ := hL
  rcases h4 with h4 | ⟨g', c', h5, h6⟩
  · exact reached_any w b bq bp g c 0 n1 0 0 lp pce f s t P q h1 hP.1 h2 hn1 (fun i hi => h3 i (by omega)) hP.2 f0 (fun h => by have := hn2 h; omega) (fun h => by have := hn2 h; omega) hq
  · exact reached_any w b bq bp g c g' n1 n2 c' lp pce f s t P q h1 hP.1 h2 hn1 (fun i hi => h3 i (by omega)) hP.2 f0 (fun h => ⟨h5, hn2 h⟩) (fun h i hi => h6 i (by have := hn2 h; omega)) hq

/-! ### ZZreachedBy -/
theorem built46 (a0 a1 a2 a3 a4 a5 a6 a7 a8 a9 a10 a11 a12 a13 a14 a15 : Value) : ((Try.prog.built 46 [(4, .agg #[a0, a1, a2, a3, a4, a5, a6, a7, a8, a9, a10, a11, a12, a13, a14, a15])]).map fun Q => (Q.size, Q.extract 38 54)) = some (1136, #[a0, a1, a2, a3, a4, a5, a6, a7, a8, a9, a10, a11, a12, a13, a14, a15]) := by kernel_rfl
theorem lit16 {A : Array Value} (h : A.size = 16) : ∃ a0 a1 a2 a3 a4 a5 a6 a7 a8 a9 a10 a11 a12 a13 a14 a15, A = #[a0, a1, a2, a3, a4, a5, a6, a7, a8, a9, a10, a11, a12, a13, a14, a15] := by
  rcases A with ⟨l⟩
  match l, h with
  | [a0, a1, a2, a3, a4, a5, a6, a7, a8, a9, a10, a11, a12, a13, a14, a15], _ => exact ⟨a0, a1, a2, a3, a4, a5, a6, a7, a8, a9, a10, a11, a12, a13, a14, a15, rfl⟩
/-- The quote that is built: 1136 cells, sixteen of them A's. -/
theorem quote_of (A : Array Value) (h : A.size = 16) : ∃ C : Array Value, Try.prog.built 46 [(4, .agg A)] = some C ∧ C.size = 1136 ∧ ∀ i, i < 16 → C[38 + i]? = A[i]? := by
  obtain ⟨a0, a1, a2, a3, a4, a5, a6, a7, a8, a9, a10, a11, a12, a13, a14, a15, rfl⟩ := lit16 h
  obtain ⟨C, hC, hx⟩ := Option.map_eq_some_iff.1 (built46 a0 a1 a2 a3 a4 a5 a6 a7 a8 a9 a10 a11 a12 a13 a14 a15)
  simp only [Prod.mk.injEq] at hx
  refine ⟨C, hC, hx.1, fun i hi => ?_⟩
  rw [← hx.2, Array.getElem?_extract, hx.1, if_pos (by omega)]
/-- The operation, for the walk. -/
theorem wpList_quote {ops : Array Oper} {rest : List Oper} {o : Oper} {a : Act} {w : World} {Q : Exit → Act → World → Prop} (hg : o.guard = none) (x : Operand) (ho : o.op = .build 46 #[(4, x)])
    (A : Array Value) (hx : a.eval x = .agg A) (hA : A.size = 16)
    (h : ∀ C : Array Value, C.size = 1136 → (∀ i, i < 16 → C[38 + i]? = A[i]?) → wpList Try.prog ops Q rest (a.put o.dst (.agg C)) w) : wpList Try.prog ops Q (o :: rest) a w := by
  obtain ⟨C, hC, h1, h2⟩ := quote_of A hA
  have e : (Array.map (fun (i, x) => (i, a.eval x)) #[(4, x)]).toList = [(4, Value.agg A)] := by simp [hx]
  refine wpList_build hg 46 #[(4, x)] ho (by rw [e, hC]; rfl) ?_
  rw [e, hC]
  exact h C h1 h2
theorem info24 : (Try.prog.info? 24).map (·.size) = some 16 := by kernel_rfl
theorem info46 : (Try.prog.info? 46).map (·.size) = some 1136 := by kernel_rfl
set_option maxHeartbeats 400000 in
theorem zzreached (w : World) (b bp n1 n2 : Nat) (lp pce f : Int) (s t P q : Nat → Int) (A : Array Value) (hA : A.size = 16) (hAq : ∀ i, i < 16 → A[i]? = some (.int .u8 (q i)))
    (hL : LevelAt w b lp n1 n2 s t) (hP : PlatAt w bp pce P) (hn1 : 16 ≤ n1) (f0 : 0 ≤ f) (hn2 : f < 16 → 16 ≤ n2) :
    Calls Try.prog 7 #[.pointer (some ⟨b, 0, none⟩), .agg A, .pointer (some ⟨bp, 0, none⟩), .int .i64 f] w fun e w' => e = .returned (.bool (reachedB lp pce f s P t q)) ∧ Below w.heap.size w w' := by
  go_enter Try.func7, Try.ntmps7
  go_wp2_with (first | (refine wpList_load_row rfl 24 _ rfl w.heap.size rfl 24 A (0, 0) _ (heap_alloc_new _ _) Try.underlying24 rfl (by rw [info24, hA]) ?_) | (refine wpList_quote rfl _ rfl A rfl hA ?_; intro C hC1 hC2))
  have hB : Below w.heap.size w ((w.alloc (.cells A 24)).alloc (.cells C 46)) := ((Below.refl _ _).alloc (Nat.le_refl _) _).alloc (by simp) _
  refine (reached_at _ b (w.heap.size + 1) bp n1 n2 lp pce f s t P q (hL.later hB) (hP.later hB) hn1 f0 hn2 ?_).mono ?_
  · intro i hi
    rw [cell_of_row _ _ _ C 46 (0, 0) (heap_alloc2_new w _ _), hC2 i hi, hAq i hi]
  · rintro e w' ⟨rfl, n, rfl⟩
    go_wp2
    go_ret
    exact ⟨rfl, below_drewN hB n⟩

/-! ### ZZnewPlatformTCB -/
theorem heap_alloc4_new (w : World) (A B C D : Obj) : ((((w.alloc A).alloc B).alloc C).alloc D).heap[w.heap.size + 3]? = some D := by
  have h := heap_alloc_new (((w.alloc A).alloc B).alloc C) D
  have e : (((w.alloc A).alloc B).alloc C).heap.size = w.heap.size + 3 := by simp
  rwa [e] at h
theorem first16 (a0 a1 a2 a3 a4 a5 a6 a7 a8 a9 a10 a11 a12 a13 a14 a15 b0 b1 b2 b3 b4 b5 b6 b7 b8 : Value) (i : Nat) (hi : i < 16) :
    #[a0, a1, a2, a3, a4, a5, a6, a7, a8, a9, a10, a11, a12, a13, a14, a15, b0, b1, b2, b3, b4, b5, b6, b7, b8][i]? = #[a0, a1, a2, a3, a4, a5, a6, a7, a8, a9, a10, a11, a12, a13, a14, a15][i]? := by
  show (#[a0, a1, a2, a3, a4, a5, a6, a7, a8, a9, a10, a11, a12, a13, a14, a15] ++ #[b0, b1, b2, b3, b4, b5, b6, b7, b8])[i]? = _
  rw [Array.getElem?_append_left (by simpa using hi)]
theorem plat_at (w : World) (a0 a1 a2 a3 a4 a5 a6 a7 a8 a9 a10 a11 a12 a13 a14 a15 b1 b2 b3 b4 b5 b6 b7 b8 : Value) (p : Int) (P : Nat → Int) (A B C : Obj)
    (hA : ∀ i, i < 16 → #[a0, a1, a2, a3, a4, a5, a6, a7, a8, a9, a10, a11, a12, a13, a14, a15][i]? = some (.int .u8 (P i))) :
    PlatAt ((((w.alloc A).alloc B).alloc C).alloc (.cells #[a0, a1, a2, a3, a4, a5, a6, a7, a8, a9, a10, a11, a12, a13, a14, a15, .int .u16 p, b1, b2, b3, b4, b5, b6, b7, b8] 48)) (w.heap.size + 3) p P := by
  refine ⟨?_, fun i hi => ?_⟩
  · rw [cell_of_row _ _ 16 _ 48 (0, 0) (heap_alloc4_new w A B C _)]; rfl
  · rw [cell_of_row _ _ i _ 48 (0, 0) (heap_alloc4_new w A B C _), first16 _ _ _ _ _ _ _ _ _ _ _ _ _ _ _ _ _ _ _ _ _ _ _ _ _ i hi, hA i hi]
set_option maxHeartbeats 400000 in
theorem newPlat (A B C : Array Value) (p : Int) (P : Nat → Int) (hA : A.size = 16) (hAP : ∀ i, i < 16 → A[i]? = some (.int .u8 (P i))) (hB : B.size = 2) (hC : C.size = 6) (w : World) :
    Calls Try.prog 8 #[.agg A, .int .u16 p, .agg B, .agg C] w fun e w' => e = .returned (.pointer (some ⟨w.heap.size + 3, 0, none⟩)) ∧ Below w.heap.size w w' ∧ PlatAt w' (w.heap.size + 3) p P := by
  obtain ⟨a0, a1, a2, a3, a4, a5, a6, a7, a8, a9, a10, a11, a12, a13, a14, a15, rfl⟩ := lit16 hA
  have HA : Hid (∀ i, i < 16 → #[a0, a1, a2, a3, a4, a5, a6, a7, a8, a9, a10, a11, a12, a13, a14, a15][i]? = some (.int .u8 (P i))) := hAP
  clear hAP
  go_enter Try.func8, Try.ntmps8
  go_wp2
  go_ret
  exact ⟨rfl, (((((Below.refl _ _).alloc (Nat.le_refl _) _).alloc (by simp) _).alloc (by simp; omega) _).alloc (by simp; omega) _), plat_at _ _ _ _ _ _ _ _ _ _ _ _ _ _ _ _ _ _ _ _ _ _ _ _ _ _ _ _ _ _ HA.out⟩
end Go.Proofs.Qxb6613041a
