import Derived.Test.Qxb6613772aAdv
namespace Go.Proofs.Qxb6613772a
open Go.RowKit
set_option linter.unusedVariables false

theorem pl_next {w : World} {F P : Nat} {tt : Int} {i c a : Nat} (hP : w.heap[P]? = some (.cells (plCells F tt i c a) 70 (0, 0))) :
    ((w.setCell ⟨P, 4, none⟩ (.int .u64 ((c : Int) + 1))).setCell ⟨P, 5, none⟩ (.int .i64 0)).heap[P]? = some (.cells (plCells F tt i (c + 1) 0) 70 (0, 0)) ∧ w.grownBy ((w.setCell ⟨P, 4, none⟩ (.int .u64 ((c : Int) + 1))).setCell ⟨P, 5, none⟩ (.int .i64 0)) (some P) := by
  have h1 : (w.setCell ⟨P, 4, none⟩ (.int .u64 ((c : Int) + 1))).heap[P]? = _ := heap_setCell_same w P 4 _ _ _ hP
  have h2 : ((w.setCell ⟨P, 4, none⟩ (.int .u64 ((c : Int) + 1))).setCell ⟨P, 5, none⟩ (.int .i64 0)).heap[P]? = _ := heap_setCell_same _ P 5 _ _ _ h1
  refine ⟨h2.trans ?_, ⟨rfl, rfl, rfl, by simp [World.setCell], fun k hk hne => ?_⟩⟩
  · simp [plCells]
  · rw [heap_setCell_other _ _ _ _ (fun e => hne (by rw [e])), heap_setCell_other _ _ _ _ (fun e => hne (by rw [e]))]

theorem pl_set0 {w w1 wc : World} {F P : Nat} {tt : Int} {i c n : Nat} (hg : w.grownBy w1 (some P)) (hb : Below w1.heap.size w1 wc) (hP : wc.heap[P]? = some (.cells (plCells F tt i c 0) 70 (0, 0))) :
    ((wc.setCell ⟨P, 5, none⟩ (.int .i64 (2 + (n : Int)))).setCell ⟨P, 3, none⟩ (.int .u64 ((i : Int) + 1))).heap[P]? = some (.cells (plCells F tt (i + 1) c (([] : List Int).length + 2 + n)) 70 (0, 0)) ∧ w.grownBy ((wc.setCell ⟨P, 5, none⟩ (.int .i64 (2 + (n : Int)))).setCell ⟨P, 3, none⟩ (.int .u64 ((i : Int) + 1))) (some P) := by
  have h := pl_set (n := n) hb hP
  rw [show ((0 : Nat) : Int) + 2 + (n : Int) = 2 + (n : Int) by omega] at h
  exact ⟨h.1, hg.trans h.2⟩

set_option maxHeartbeats 1000000 in
set_option maxRecDepth 100000 in
/-- The message lies in the chunk behind the one at hand. -/
theorem adv2 (w : World) (F P : Nat) (tt : Int) (i c base put G o len capv : Nat) (x0 x4 : Value) (g0 cap0 L0 : Nat) (g cap : Nat) (m C : List Int)
    (hP : w.heap[P]? = some (.cells (plCells F tt i c L0) 70 (0, 0)))
    (hF : w.heap[F]? = some (.cells #[x0, .slice (some ⟨G, o, none⟩) len capv, .int .u64 base, .int .u64 put, x4] 62 (0, 0)))
    (hGP : G ≠ P) (hFP : F ≠ P) (hgP : g ≠ P)
    (hbc : base ≤ c) (hcl : c - base + 1 < len) (hc0 : w.cell? ⟨G, o + (c - base), none⟩ = some (.slice (some ⟨g0, 0, none⟩) L0 cap0)) (hc : w.cell? ⟨G, o + (c - base + 1), none⟩ = some (.slice (some ⟨g, 0, none⟩) (pk m ++ C).length cap)) (hrow : Row w g cap (pk m ++ C))
    (hm : m.length < 65536) (hi : i ≤ 1048576) (hcs : c ≤ 1048576) (hcap : cap ≤ 4294967296) :
    Calls Try.prog 44 #[.pointer (some ⟨P, 0, none⟩)] w fun e w' => AdvPost w F P tt i (c + 1) g [] m e w' := by
  have c0 : w.cell? ⟨P, 0, none⟩ = some (.pointer (some ⟨F, 0, none⟩)) := cell_of_row _ _ _ _ _ _ hP
  have c3 : w.cell? ⟨P, 3, none⟩ = some (.int .u64 i) := cell_of_row _ _ _ _ _ _ hP
  have c4 : w.cell? ⟨P, 4, none⟩ = some (.int .u64 c) := cell_of_row _ _ _ _ _ _ hP
  have c5 : w.cell? ⟨P, 5, none⟩ = some (.int .i64 L0) := cell_of_row _ _ _ _ _ _ hP
  have f4 := frozen_of_row w P 4 _ _ hP
  have f5 := frozen_of_row w P 5 _ _ hP
  have d1 : w.cell? ⟨F, 1, none⟩ = some (.slice (some ⟨G, o, none⟩) len capv) := cell_of_row _ _ _ _ _ _ hF
  have d2 : w.cell? ⟨F, 2, none⟩ = some (.int .u64 base) := cell_of_row _ _ _ _ _ _ hF
  have hle := hrow.le
  have hlen : (pk m ++ C).length = m.length + 2 + C.length := by simp [len_pk]
  rw [hlen] at hc hle
  have hidx : (c : Int) - (base : Int) = ((c - base : Nat) : Int) := by omega
  have HP := hid hP
  have HF := hid hF
  have HL := hid hlen
  clear hP hF hlen
  generalize c - base = ix at *
  have i1 : (ix : Int) < (len : Int) := by omega
  go_enter Try.func44, Try.ntmps44
  go_wp2
  go_quiet (fail)
  go_wp2
  obtain ⟨hP2, hgr2⟩ := pl_next (w := w.drewN nq) HP.out
  have hgr : w.grownBy (((w.drewN nq).setCell ⟨P, 4, none⟩ (.int .u64 ((c : Int) + 1))).setCell ⟨P, 5, none⟩ (.int .i64 0)) (some P) := ⟨hgr2.os, hgr2.tape, hgr2.output, hgr2.size, hgr2.block⟩
  generalize (((w.drewN nq).setCell ⟨P, 4, none⟩ (.int .u64 ((c : Int) + 1))).setCell ⟨P, 5, none⟩ (.int .i64 0)) = w1 at hP2 hgr ⊢
  have ltF : F < w.heap.size := (Array.getElem?_eq_some_iff.1 HF.out).1
  have e1 : w1.cell? ⟨F, 1, none⟩ = some (.slice (some ⟨G, o, none⟩) len capv) := cell_kept (hgr.block F ltF (fun e => hFP (Option.some.inj e))) d1
  have e2 : w1.cell? ⟨F, 2, none⟩ = some (.int .u64 base) := cell_kept (hgr.block F ltF (fun e => hFP (Option.some.inj e))) d2
  have e4 : w1.cell? ⟨P, 4, none⟩ = some (.int .u64 ((c : Int) + 1)) := cell_of_row _ _ _ _ _ _ hP2
  have e5 : w1.cell? ⟨P, 5, none⟩ = some (.int .i64 0) := cell_of_row _ _ _ _ _ _ hP2
  have ec : w1.cell? ⟨G, o + (ix + 1), none⟩ = some (.slice (some ⟨g, 0, none⟩) (m.length + 2 + C.length) cap) := cell_kept (hgr.block G (World.block_lt_of_cell? w _ hc) (fun e => hGP (Option.some.inj e))) hc
  have hrow1 : Row w1 g cap (pk m ++ C) := hrow.kept (hgr.block g hrow.lt (fun e => hgP (Option.some.inj e)))
  have HP2 := hid hP2
  have HGR := hid hgr
  clear hP2 hgr hgr2 c0 c3 c4 c5 d1 d2 hc hc0 f4 f5 hrow
  have j1 : (c : Int) + 1 - (base : Int) = ((ix + 1 : Nat) : Int) := by omega
  have j2 : ((ix + 1 : Nat) : Int) < (len : Int) := by omega
  clear hidx i1
  generalize ix + 1 = iy at *
  go_quiet (fail)
  go_wp2
  have hB0 : Below w1.heap.size w1 (w1.drewN nq) := below_drewN (Below.refl _ _) _
  generalize w1.drewN nq = w2 at hB0 ⊢
  have k5 := cell_later hB0 e5
  have HM : Hid (MsgAt w2.drew (.slice (some ⟨g, 0, none⟩) (m.length + 2 + C.length) cap) (hiB m.length :: loB m.length :: (m ++ C))) := by
    have h1 : Row w2.drew g cap (pk m ++ C) := hrow1.kept (hB0.block g hrow1.lt)
    have h2 := h1.part [] (pk m ++ C) [] (by simp) cap
    rw [HL.out] at h2
    exact h2
  have HB : Hid (Below w1.heap.size w1 w2.drew) := hB0.drew
  have HWR : Hid (IntKind.i64.wrap (m.length : Int) = (m.length : Int)) := hid (by rw [IntKind.wrap_i64]; omega)
  go_cut [5] (fun t wx => t = .int .i64 m.length ∧ Below w1.heap.size w1 wx)
  case first =>
    go_region_with (go_at_call 46; refine (uint16 _ _ m.length hm (m ++ C) HM.out).mono ?_; rintro e w3 ⟨rfl, hb3⟩)
    all_goals (go_wp2_with fail; go_meet; exact ⟨by rw [HWR.out], HB.out.trans (Below.mono (by assumption) HB.out.size)⟩)
  case rest =>
    obtain ⟨rfl, hbc⟩ := hcut
    have hPc : wc.heap[P]? = some (.cells (plCells F tt i (c + 1) 0) 70 (0, 0)) := (hbc.block P (Array.getElem?_eq_some_iff.1 HP2.out).1).trans HP2.out
    have k3 : wc.cell? ⟨P, 3, none⟩ = some (.int .u64 i) := cell_of_row _ _ _ _ _ _ hPc
    have k5 : wc.cell? ⟨P, 5, none⟩ = some (.int .i64 0) := cell_of_row _ _ _ _ _ _ hPc
    have l3 := frozen_of_row wc P 3 _ _ hPc
    have l5 := frozen_of_row wc P 5 _ _ hPc
    have HPC := hid hPc
    clear hPc e5 hB0 e1 e2 e4 ec
    go_wp2
    · go_ret
      have hm0 : m = [] := List.eq_nil_of_length_eq_zero (by omega)
      subst hm0
      exact ⟨0, .inl rfl, rfl, pl_set0 HGR.out hbc HPC.out⟩
    · rename_i hm0
      exact absurd (by rw [h]; rfl) hm0
    · go_ret
      exact ⟨_, .inr rfl, rfl, pl_set0 HGR.out hbc HPC.out⟩

end Go.Proofs.Qxb6613772a
