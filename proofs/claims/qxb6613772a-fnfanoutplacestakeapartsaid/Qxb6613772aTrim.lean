import Derived.Test.Qxb6613772aPlace
namespace Go.Proofs.Qxb6613772a
open Go.RowKit
set_option linter.unusedVariables false

def TrimDone (w : World) (B F : Nat) (cs : List Chunk) (base put : Nat) (go : Option Nat) (pv : Value) (gp : Option Nat) (ps chs : List Nat) (e : Ending) (w' : World) : Prop :=
  ∃ base' cv' go', e = .returned (.tuple #[]) ∧ FAt w' B F cs base' put cv' go' pv gp ps ∧ base ≤ base' ∧ (∀ x ∈ chs, base' ≤ x) ∧ (go' = go ∨ go' = none) ∧ Touch w w' F go

theorem own_drop {w2 : World} {g off capv K : Nat} {xs : List Value} {cur cur' : Array Value} (hs : off + capv ≤ cur.size) (hn : xs.length ≤ capv) (hx : ∀ i, i < xs.length → cur[off + i]? = xs[i]?)
    (hg2 : w2.heap[g]? = some (.cells cur' 29 (0, 0))) (hs2 : cur'.size = cur.size) (hk : ∀ i, off + K ≤ i → cur'[i]? = cur[i]?) (hK : K ≤ xs.length) (off' cap' : Nat) (ho : (off' = off + K ∧ cap' = capv - K) ∨ (xs.length - K = 0 ∧ off' = off ∧ cap' = 0)) :
    Own w2 29 (.slice (some ⟨g, off', none⟩) (xs.length - K) cap') (some g) (xs.drop K) := by
  have hl : (xs.drop K).length = xs.length - K := List.length_drop ..
  refine .inr ⟨g, off', cap', cur', rfl, by rw [hl], hg2, by rw [hl]; omega, by omega, fun i hi => ?_⟩
  rw [hl] at hi
  rcases ho with ⟨rfl, rfl⟩ | ⟨h0, _⟩
  · rw [hk _ (by omega), List.getElem?_drop, ← hx (K + i) (by omega), Nat.add_assoc]
  · omega

/-- The two stores behind it. -/
theorem trim_fin {w w2 : World} {B F : Nat} {cs : List Chunk} {base put : Nat} {cv : Value} {go : Option Nat} {pv : Value} {gp : Option Nat} {ps chs : List Nat} {keep : Nat} {v' : Value} {go' : Option Nat}
    (h : FAt w B F cs base put cv go pv gp ps) (hgr : w.grownBy w2 go) (hk1 : base ≤ keep) (hk2 : keep ≤ cs.length) (hall : ∀ x ∈ chs, keep ≤ x) (hown : Own w2 29 v' go' ((cs.drop keep).map Chunk.v)) (hgo : go' = go ∨ go' = none) :
    TrimDone w B F cs base put go pv gp ps chs (.returned (.tuple #[])) ((w2.setCell ⟨F, 1, none⟩ v').setCell ⟨F, 2, none⟩ (.int .u64 keep)) := by
  have hneF : some F ≠ go := fun e => by
    have h2 := h.own
    rw [← e] at h2
    obtain ⟨cur, hc⟩ := h2.type
    exact ne_of_type hc h.row (by decide) rfl
  have hF2 := (hgr.block F h.ltF hneF).trans h.row
  have a1 : (w2.setCell ⟨F, 1, none⟩ v').heap[F]? = _ := heap_setCell_same w2 F 1 _ _ _ hF2
  have a2 : ((w2.setCell ⟨F, 1, none⟩ v').setCell ⟨F, 2, none⟩ (.int .u64 keep)).heap[F]? = _ := heap_setCell_same _ F 2 _ _ _ a1
  have oth : ∀ k, k ≠ F → ((w2.setCell ⟨F, 1, none⟩ v').setCell ⟨F, 2, none⟩ (.int .u64 keep)).heap[k]? = w2.heap[k]? := fun k hk => by
    rw [heap_setCell_other _ _ _ _ hk, heap_setCell_other _ _ _ _ hk]
  have hsz : ((w2.setCell ⟨F, 1, none⟩ v').setCell ⟨F, 2, none⟩ (.int .u64 keep)).heap.size = w2.heap.size := by simp [World.setCell]
  have hw2 := hgr.size
  have gt : ∀ k, go = some k → ∃ cur, w.heap[k]? = some (.cells cur 29 (0, 0)) := fun k hk => by have h2 := h.own; rw [hk] at h2; exact h2.type
  refine ⟨keep, v', go', rfl, ⟨a2.trans (by simp), hown.kept (fun k hk => oth k (fun e => ?_)), fun c hc => ⟨(h.chunks c hc).1.kept ?_, (h.chunks c hc).2⟩, h.apart, hk2, h.places.kept (fun k hk => ?_), h.bF, fun k hk => ?_, fun k hk => ?_⟩, hk1, hall, hgo, ⟨hgr.os, hgr.tape, hgr.output, by omega, fun k hk h1 h2 => by rw [oth k h1, hgr.block k hk h2]⟩⟩
  · subst e
    rcases hgo with e | e
    · exact hneF (hk.symm.trans e)
    · rw [e] at hk; cases hk
  · obtain ⟨cur, hcc, _⟩ := (h.chunks c hc).1
    rw [oth c.g (ne_of_type hcc h.row (by decide)), hgr.block c.g (h.chunks c hc).1.lt (fun e => by obtain ⟨c2, h2⟩ := gt _ e.symm; exact ne_of_type hcc h2 (by decide) rfl)]
  · obtain ⟨b1, b2, b3, b4, b5⟩ := h.bgp k hk
    rw [oth k b3, hgr.block k b2 b4]
  · rcases hgo with e | e
    · exact h.bgo k (e.symm.trans hk)
    · rw [e] at hk; cases hk
  · obtain ⟨b1, b2, b3, b4, b5⟩ := h.bgp k hk
    refine ⟨b1, by omega, b3, fun e => ?_, b5⟩
    rcases hgo with e1 | e1
    · exact b4 (e.trans e1)
    · rw [e1] at e; cases e

set_option maxHeartbeats 1000000 in
set_option maxRecDepth 100000 in
theorem trim39 (w : World) (B F : Nat) (cs : List Chunk) (base put : Nat) (cv : Value) (go : Option Nat) (pv : Value) (gp : Option Nat) (ps chs : List Nat) (h : FAt w B F cs base put cv go pv gp ps) (hl : chs.length = ps.length)
    (hch : ∀ i (hi : i < ps.length) (hi' : i < chs.length), w.cell? ⟨ps[i], 4, none⟩ = some (.int .u64 chs[i])) (hb : ∀ x ∈ chs, base ≤ x ∧ x ≤ 1048576) (hcs : cs.length ≤ 1048576) (hpl : ps.length ≤ 100) :
    Calls Try.prog 39 #[.pointer (some ⟨F, 0, none⟩)] w fun e w' => TrimDone w B F cs base put go pv gp ps chs e w' := by
  have HH := hid h
  have d1 : w.cell? ⟨F, 1, none⟩ = some cv := cell_of_row _ _ _ _ _ _ h.row
  have d2 : w.cell? ⟨F, 2, none⟩ = some (.int .u64 base) := cell_of_row _ _ _ _ _ _ h.row
  have d4 : w.cell? ⟨F, 4, none⟩ = some pv := cell_of_row _ _ _ _ _ _ h.row
  have hbl := h.base_le
  obtain ⟨pa, pc, hpv, hpcell⟩ := h.places.open
  have hlen : ((cs.drop base).map Chunk.v).length = cs.length - base := by simp
  have hps : (ps.map ptrV).length = ps.length := List.length_map ..
  rw [hpv, hps] at d4
  obtain ⟨av, capv, hcv, hshape⟩ : ∃ av capv, cv = .slice av (cs.length - base) capv ∧ ((av = none ∧ capv = 0 ∧ cs.length - base = 0) ∨ ∃ g off cur, av = some ⟨g, off, none⟩ ∧ go = some g ∧ cs.length - base ≤ capv ∧ w.heap[g]? = some (.cells cur 29 (0, 0)) ∧ off + capv ≤ cur.size ∧ ∀ i, i < ((cs.drop base).map Chunk.v).length → cur[off + i]? = ((cs.drop base).map Chunk.v)[i]?) := by
    rcases h.own with ⟨h1, h2, _⟩ | ⟨g, off, cap, cur, h1, h2, h3, h4, h5, h6⟩
    · rw [h2] at hlen
      exact ⟨none, 0, by rw [h1, ← hlen]; rfl, .inl ⟨rfl, rfl, hlen.symm⟩⟩
    · exact ⟨_, cap, by rw [h2, hlen], .inr ⟨g, off, cur, rfl, h1, by omega, h3, h5, h6⟩⟩
  rw [hcv] at d1
  have HL := hid hlen
  have HSH := hid hshape
  have HPC := hid hpcell
  have HPS := hid hps
  have HCL := hid hl
  clear h hlen hshape hpcell hps hl hpv hcv
  generalize hN : cs.length - base = N at *
  have hsum : (base : Int) + (N : Int) ≤ 1048576 := by omega
  have HN := hid hN
  clear hN
  go_enter Try.func39, Try.ntmps39
  go_wp2
  go_quiet (fail)
  go_wp2
  go_loop [2, 22] (fun a t => ∃ (k keep : Nat), k ≤ ps.length ∧ t = .int .i64 k ∧ a = .int .u64 keep ∧ base ≤ keep ∧ keep ≤ base + N ∧ ∀ i (hi : i < chs.length), i < k → keep ≤ chs[i]) (fun _ t => ps.length - (intOf t).toNat)
  case atStart => exact ⟨0, base + N, by omega, rfl, by go_num, by omega, by omega, fun i hi h => by omega⟩
  case round =>
    obtain ⟨k, keep, hk, rfl, rfl, hk1, hk2, hk3⟩ := hrel
    have HK3 := hid hk3
    clear hk3
    by_cases hlt : k < ps.length
    · have hkc : k < chs.length := by rw [HCL.out]; exact hlt
      obtain ⟨b, o, rfl, hcell⟩ := HPC.out.resolve_left (by rw [HPS.out]; omega)
      have g1 := hcell k (by rw [HPS.out]; exact hlt)
      rw [List.getElem_map] at g1
      unfold ptrV at g1
      have g2 := hch k hlt hkc
      have hbk := hb _ (List.getElem_mem hkc)
      have i1 : (k : Int) < (ps.length : Int) := by omega
      generalize ps[k] = pk0 at g1 g2
      have HCK := hid (fun (i : Nat) (hi : i < chs.length) (h : i = k) => (show chs[i] = chs[k] by subst h; rfl))
      generalize chs[k] = ck at g2 hbk HCK
      clear hcell
      by_cases hle : keep ≤ ck
      · have i2 : (keep : Int) ≤ (ck : Int) := by omega
        go_wp2
        all_goals go_round
        case rel => exact ⟨k + 1, keep, by omega, by go_num, rfl, hk1, hk2, fun i hi h => if e : i = k then by rw [HCK.out i hi e]; exact hle else HK3.out i hi (by omega)⟩
        case measure => simp [intOf]; omega
      · have i2 : (ck : Int) < (keep : Int) := by omega
        go_wp2
        all_goals go_round
        case rel => exact ⟨k + 1, ck, by omega, by go_num, rfl, hbk.1, by omega, fun i hi h => if e : i = k then by rw [HCK.out i hi e]; exact Nat.le_refl _ else Nat.le_trans (by omega) (HK3.out i hi (by omega))⟩
        case measure => simp [intOf]; omega
    · have hall : ∀ x ∈ chs, keep ≤ x := fun x hx => by
        obtain ⟨i, hi, rfl⟩ := List.mem_iff_getElem.1 hx
        exact HK3.out i hi (by rw [HCL.out] at hi; omega)
      have HALL := hid hall
      clear hall
      obtain ⟨K, hK⟩ : ∃ K : Nat, (keep : Int) - (base : Int) = (K : Int) := ⟨keep - base, by omega⟩
      have hKN : K ≤ N := by omega
      have d1b : (w.drewN nq).cell? ⟨F, 1, none⟩ = some (.slice av N capv) := d1
      have hgrD : w.grownBy (w.drewN nq) go := ⟨rfl, rfl, rfl, Nat.le_refl _, fun _ _ _ => rfl⟩
      have f1 := frozen_of_row w F 1 _ _ HH.out.row
      have f2 := frozen_of_row w F 2 _ _ HH.out.row
      have hkc : keep ≤ cs.length := by have := HN.out; omega
      rcases HSH.out with ⟨rfl, rfl, h0⟩ | ⟨g, off, cur, rfl, hgo, hNc, hg, hcs2, hx⟩
      · obtain rfl : K = 0 := by omega
        subst h0
        have hke : keep = cs.length := by have := HN.out; omega
        have HKE := hid hke
        clear hke
        go_wp2_with ((with_reducible show wpList _ _ _ (Oper.mk _ (Op.call { callee := .builtin .clear, args := _, argTypes := _ }) _ _ _ _ :: _) _ _); go_must (refine wpList_clear_none rfl _ rfl none 0 (by rfl) ?_))
        go_end0
        exact trim_fin HH.out hgrD hk1 hkc HALL.out (.inl ⟨rfl, by rw [HKE.out, List.drop_length]; rfl, rfl⟩) (.inr rfl)
      · have hneF : F ≠ g := fun e => by rw [← e] at hg; exact ne_of_type hg HH.out.row (by decide) rfl
        have hdd : ((cs.drop base).map Chunk.v).drop (keep - base) = (cs.drop keep).map Chunk.v := by rw [← List.map_drop, List.drop_drop, show base + (keep - base) = keep by omega]
        have HDD := hid hdd
        have HX := hid hx
        have HG := hid hg
        have HGO := hid hgo
        clear hx hg hgo hdd
        by_cases hK0 : K = 0
        · subst hK0
          have hke : keep - base = 0 := by omega
          have HKE := hid hke
          clear hke
          go_wp2_with ((with_reducible show wpList _ _ _ (Oper.mk _ (Op.call { callee := .builtin .clear, args := _, argTypes := _ }) _ _ _ _ :: _) _ _); go_must (refine wpList_clear_none rfl _ rfl (some ⟨g, off, none⟩) capv (by rfl) ?_))
          go_end0
          have ho := own_drop (w2 := w.drewN nq) hcs2 (by rw [HL.out]; exact hNc) HX.out HG.out rfl (fun i _ => rfl) (K := keep - base) (by rw [HL.out]; omega) off capv (.inl ⟨by omega, by omega⟩)
          rw [HDD.out, HL.out, HKE.out] at ho
          exact trim_fin HH.out hgrD hk1 hkc HALL.out ho (.inl HGO.out.symm)
        · have hKp : 0 < K := by omega
          have hbd : off + K ≤ cur.size := by omega
          have hke : keep - base = K := by omega
          have HKE := hid hke
          clear hke
          go_wp2_with ((with_reducible show wpList _ _ _ (Oper.mk _ (Op.call { callee := .builtin .clear, args := _, argTypes := _ }) _ _ _ _ :: _) _ _); go_must (refine wpList_clear rfl _ rfl g off K capv cur (by rfl) hKp HG.out hbd ?_); intro w2 cur' hg2 hs2 hk22 hgr2 hsz2; have hF2 : w2.heap[F]? = _ := (hgr2.block F HH.out.ltF (fun e => hneF (Option.some.inj e))).trans HH.out.row; have m1 : w2.cell? ⟨F, 1, none⟩ = some (.slice (some ⟨g, off, none⟩) N capv) := (cell_of_row _ _ _ _ _ _ hF2).trans ((cell_of_row _ _ _ _ _ _ HH.out.row).symm.trans d1); have m2 : w2.cell? ⟨F, 2, none⟩ = some (.int .u64 base) := cell_of_row _ _ _ _ _ _ hF2; have n1 := frozen_of_row w2 F 1 _ _ hF2; have n2 := frozen_of_row w2 F 2 _ _ hF2; clear hF2)
          · rename_i hcK
            go_end0
            have hgrw : w.grownBy w2 go := by rw [HGO.out]; exact ⟨hgr2.os, hgr2.tape, hgr2.output, hgr2.size, hgr2.block⟩
            have ho := own_drop hcs2 (by rw [HL.out]; exact hNc) HX.out hg2 hs2 (K := keep - base) (fun i hi => hk22 i (by omega)) (by rw [HL.out]; omega) off 0 (.inr ⟨by rw [HL.out]; omega, rfl, rfl⟩)
            rw [HDD.out, HL.out, HKE.out] at ho
            exact trim_fin HH.out hgrw hk1 hkc HALL.out ho (.inl HGO.out.symm)
          · go_end0
            have hgrw : w.grownBy w2 go := by rw [HGO.out]; exact ⟨hgr2.os, hgr2.tape, hgr2.output, hgr2.size, hgr2.block⟩
            have ho := own_drop hcs2 (by rw [HL.out]; exact hNc) HX.out hg2 hs2 (K := keep - base) (fun i hi => hk22 i (by omega)) (by rw [HL.out]; omega) (off + K) (capv - K) (.inl ⟨by omega, by omega⟩)
            rw [HDD.out, HL.out, HKE.out] at ho
            exact trim_fin HH.out hgrw hk1 hkc HALL.out ho (.inl HGO.out.symm)

end Go.Proofs.Qxb6613772a
