import Derived.Test.Qxb6613772aReady
namespace Go.Proofs.Qxb6613772a
open Go.RowKit
set_option linter.unusedVariables false

set_option maxHeartbeats 2000000 in
set_option maxRecDepth 100000 in
theorem put24 (w : World) (B F : Nat) (cs : List Chunk) (base put : Nat) (cv : Value) (go : Option Nat) (pv : Value) (gp : Option Nat) (ps chs : List Nat) (h : FAt w B F cs base put cv go pv gp ps) (hl : chs.length = ps.length)
    (hch : ∀ i (hi : i < ps.length) (hi' : i < chs.length), w.cell? ⟨ps[i], 4, none⟩ = some (.int .u64 chs[i])) (hb : ∀ x ∈ chs, base ≤ x ∧ x ≤ 1048576) (hcs : cs.length ≤ 1048576) (hpl : ps.length ≤ 100)
    (hcap : ∀ ch ∈ cs, ch.cap ≤ 4294967296) (a1 a2 : Option Addr) (c1 c2 : Nat) (X Y : List Int) (hn : X.length + Y.length ≤ 65535) (hput : put ≤ 1048576) (hrow : ∀ p ∈ ps, ∃ tt i c o, w.heap[p]? = some (.cells (plCells F tt i c o) 70 (0, 0)))
    (hX : ∀ w', Below B w w' → MsgAt w' (.slice a1 X.length c1) X) (hY : ∀ w', Below B w w' → MsgAt w' (.slice a2 Y.length c2) Y) :
    Calls Try.prog 24 #[.pointer (some ⟨F, 0, none⟩), .slice a1 X.length c1, .slice a2 Y.length c2] w fun e w' => PutDone w B F cs base put go pv gp ps chs (X ++ Y) e w' := by
  have d1 : w.cell? ⟨F, 1, none⟩ = some cv := cell_of_row _ _ _ _ _ _ h.row
  have hlen : ((cs.drop base).map Chunk.v).length = cs.length - base := by simp
  obtain ⟨av, capv, hcv⟩ : ∃ av capv, cv = .slice av (cs.length - base) capv := by
    rcases h.own with ⟨h1, h2, _⟩ | ⟨g, off, cap, cur, h1, h2, _⟩
    · rw [h2] at hlen; exact ⟨none, 0, by rw [h1, ← hlen]; rfl⟩
    · exact ⟨_, cap, by rw [h2, hlen]⟩
  rw [hcv] at d1
  have HH := hid h
  have HCV := hid hcv
  have HX := hid hX
  have HY := hid hY
  clear hX hY
  clear h hlen hcv
  obtain ⟨n, hnI⟩ : ∃ n : Nat, (X.length : Int) + (Y.length : Int) = (n : Int) := ⟨X.length + Y.length, by omega⟩
  have hn2 : n ≤ 65535 := by omega
  go_enter Try.func24, Try.ntmps24
  go_upto_region 2 with fail
  go_cut [34] (fun t wx => ∃ b, t = .bool b ∧ Room cs base n b ∧ Below w.heap.size w wx)
  case first =>
    by_cases h0 : cs.length - base = 0
    · go_wp2_with fail
      go_meet
      exact ⟨true, rfl, (fun h => by cases h), Below.refl _ _⟩
    · have hb0 : base < cs.length := by omega
      have L1 := hid (fun (w1 : World) (hb1 : Below w.heap.size w w1) => last38 (HH.out.later hb1) hb0 hcs)
      have hsp : cs = cs.take (cs.length - 1) ++ [cs[cs.length - 1]] := by
        have := List.take_succ_eq_append_getElem (l := cs) (i := cs.length - 1) (by omega)
        rwa [show cs.length - 1 + 1 = cs.length by omega, List.take_length] at this
      have hcl := hcap _ (List.getElem_mem (l := cs) (n := cs.length - 1) (by omega))
      have hle := (HH.out.chunks _ (List.getElem_mem (l := cs) (n := cs.length - 1) (by omega))).1.le
      have HSP := hid hsp
      clear hsp
      generalize cs[cs.length - 1] = cl at L1 HSP hcl hle
      unfold Chunk.v at L1
      have tok1 : True := trivial
      have N1 : ¬ ((cs.length - base : Nat) : Int) = 0 := by omega
      by_cases hr : (cl.cap : Int) - ((pack cl.ms).length : Int) < 2 + (n : Int)
      · go_wp2_with (first | (go_at_call 38; have _t := tok1; refine (L1.out _ (Below.refl _ _)).mono ?_; rintro e w2 ⟨rfl, hb2⟩; clear tok1) | (go_at_call 38; refine (L1.out _ hb2).mono ?_; rintro e w3 ⟨rfl, hb3⟩))
        go_meet
        exact ⟨true, rfl, (fun h => by cases h), hb2.trans (hb3.mono hb2.size)⟩
      · go_wp2_with (first | (go_at_call 38; have _t := tok1; refine (L1.out _ (Below.refl _ _)).mono ?_; rintro e w2 ⟨rfl, hb2⟩; clear tok1) | (go_at_call 38; refine (L1.out _ hb2).mono ?_; rintro e w3 ⟨rfl, hb3⟩))
        go_meet
        exact ⟨false, by rw [show ((((cs.length - base : Nat) : Int)) == 0) = false from beq_eq_false_iff_ne.2 N1, decide_eq_false (by omega)]; rfl, (fun _ => ⟨_, cl, HSP.out, by rw [List.length_take]; omega, by omega⟩), hb2.trans (hb3.mono hb2.size)⟩
  case rest =>
    obtain ⟨b, rfl, hroom, hb1⟩ := hcut
    go_upto_if 34 with fail
    have hF1 := HH.out.later hb1
    go_cut [34] (fun _ wx => ∃ ini cl base1 cv1 go1, Ready w wx B F cs base put go pv gp ps chs n ini cl base1 cv1 go1)
    case first =>
      cases b
      · go_wp2_with fail
        go_meet
        obtain ⟨ini, cl, e1, e2, e3⟩ := hroom rfl
        subst e1
        exact ⟨ini, cl, base, cv, go, hF1, e3, hcap _ (by simp), .inl rfl, e2, Nat.le_refl _, fun x hx => (hb x hx).1, .inl rfl, hb1.os, hb1.tape, hb1.output, hb1.size, fun k hk _ _ => hb1.block k hk⟩
      · have HT := hid (trim39 wc B F cs base put cv go pv gp ps chs hF1 hl (fun i hi hi' => cell_later hb1 (hch i hi hi')) hb hcs hpl)
        go_upto_region 4 with (go_at_call 39; refine HT.out.mono ?_; rintro e w3 ⟨base3, cv3, go3, rfl, hF3, hbb, hall, hgo3, ht3⟩)
        have m1 : w3.cell? ⟨F, 1, none⟩ = some cv3 := cell_of_row _ _ _ _ _ _ hF3.row
        obtain ⟨C, hC⟩ : ∃ C : Nat, max 65536 (2 + (n : Int)) = (C : Int) := ⟨max 65536 (2 + n), by omega⟩
        have hCs : C ≤ 4294967296 := by omega
        have HC : Hid (max 65536 (IntKind.i64.wrap (2 + (n : Int))) = (C : Int)) := hid (by rw [show IntKind.i64.wrap (2 + (n : Int)) = 2 + (n : Int) by rw [IntKind.wrap_i64]; clear hC; omega]; exact hC)
        have HC2 := hid hC
        clear hC
        obtain ⟨Z, hZ, hmk⟩ := make_bytes C hCs
        obtain ⟨ti, hti, hz0, hz1, hz2⟩ := info_parts info29
        have LL : ((cs.drop base3).map Chunk.v).length ≤ 1048576 := by simp; omega
        have HO := hid (fun (o1 o2 : Obj) => (hF3.own.kept (w' := ((w3.alloc o1).alloc o2).drew) (fun k hk => by
          have := hF3.own.lt k hk
          exact (Below.heap_alloc _ _ _ (by simp; omega)).trans (Below.heap_alloc _ _ _ this))))
        have HNW : Hid (∀ o1 : Obj, ∀ j u, [Value.slice (some ⟨w3.heap.size, 0, none⟩) 0 C][j]? = some u → (((w3.alloc o1).alloc (.cells #[.slice (some ⟨w3.heap.size, 0, none⟩) 0 C] 29)).drew).cell? ((⟨w3.heap.size + 1, 0, none⟩ : Addr).add j) = some u) := by
          intro o1
          have hb := heap_alloc_new (w3.alloc o1) (.cells #[.slice (some ⟨w3.heap.size, 0, none⟩) 0 C] 29)
          rw [show (w3.alloc o1).heap.size = w3.heap.size + 1 by simp] at hb
          exact World.news_of_block (w := ((w3.alloc o1).alloc (.cells #[.slice (some ⟨w3.heap.size, 0, none⟩) 0 C] 29)).drew) hb
        have hneF : some F ≠ go3 := fun e => by
          have h2 := hF3.own
          rw [← e] at h2
          obtain ⟨cur, hc⟩ := h2.type
          exact ne_of_type hc hF3.row (by decide) rfl
        have HNF := hid hneF
        clear hneF
        have ltF := hF3.ltF
        have b1 : (((cs.drop base3).map Chunk.v).length + 1) * 24 ≤ 140737488355328 := by omega
        have b2 : ((cs.drop base3).map Chunk.v).length + 1 ≤ 9223372036854775807 := by omega
        go_region_law (first | (refine step_max rfl _ _ rfl 65536 (IntKind.i64.wrap (2 + (n : Int))) (C : Int) (by rfl) (by rfl) HC.out ?_) | (refine step_append_at rfl _ _ rfl ti _ hti hz0 hz1 hz2 rfl cv3 go3 ((cs.drop base3).map Chunk.v) (by rfl) (HO.out _ _) ⟨w3.heap.size + 1, 0, none⟩ 1 1 [.slice (some ⟨w3.heap.size, 0, none⟩) 0 C] (by rfl) rfl (by omega) (HNW.out _) (by simp [Value.oneCell']) b1 b2 ?_; intro g1 off1 cap1 w4 hown4 hgr4 hat4; have hF4 : w4.heap[F]? = _ := (hgr4.block F (by simp; omega) HNF.out).trans ((Below.heap_alloc _ _ _ (by simp; omega)).trans ((Below.heap_alloc _ _ _ ltF).trans hF3.row)); have k1 : w4.cell? ⟨F, 1, none⟩ = some cv3 := cell_of_row _ _ _ _ _ _ hF4; have l1 := frozen_of_row w4 F 1 _ _ hF4; clear hF4))
        all_goals (go_wp2_with fail; go_meet; exact ⟨cs, ⟨w3.heap.size, C, []⟩, base3, _, some g1, ready_new hb1 hF3 hbb hall hgo3 ht3 HH.out.own.lt hown4 hgr4 hat4 hZ (by have := HC2.out; omega) hCs⟩)
    case rest =>
      obtain ⟨ini, cl, base1, cv1, go1, hR⟩ := hcut
      obtain ⟨W1, rfl⟩ : ∃ W1, W1 = wc := ⟨_, rfl⟩
      obtain ⟨g1, off, capv1, cur, hgo1, hcv1, hg1, hcc, hcc2, hcells, hmid⟩ := hR.fat.mid hR.lt
      have e1 : W1.cell? ⟨F, 1, none⟩ = some cv1 := cell_of_row _ _ _ _ _ _ hR.fat.row
      have lenI : ini.length ≤ 1048576 := by
        rcases hR.cs1 with e | ⟨e, _⟩
        · rw [← e, List.length_append] at hcs; omega
        · rw [e]; exact hcs
      rw [hcv1] at e1
      have HCV1 := hid hcv1
      have HGO1 := hid hgo1
      have HG1 := hid hg1
      have HCELLS := hid hcells
      have HMID := hid hmid
      clear hcv1 hgo1 hg1 hcells
      obtain ⟨M, hM⟩ : ∃ M, M = ini.length - base1 + 1 := ⟨_, rfl⟩
      rw [← hM] at e1 hcc2
      rw [show ini.length - base1 = M - 1 by omega] at hmid
      have HM := hid hM
      have hM1 : 0 < M := by omega
      have hM2 : M ≤ 1048577 := by omega
      have i1 : (M : Int) - 1 = ((M - 1 : Nat) : Int) := by omega
      have i2 : ((M - 1 : Nat) : Int) < (M : Int) := by omega
      clear hM
      have m0 := hmid.cell
      have HMD := hid hmid
      clear hmid
      go_wp2_with fail
      go_quiet (fail)
      go_wp2_with fail
      have hmD : Mid W1 (W1.drewN nq) g1 (off + (M - 1)) cur cl.g cl.cap cl.v (pack cl.ms) := HMD.out.kept (below_drewN (Below.refl _ _) _)
      generalize W1.drewN nq = w6 at hmD ⊢
      have m6 := hmD.cell
      have l6 := hmD.frozen
      have hroom6 : (pack cl.ms).length + 2 ≤ cl.cap := by have := hR.room; omega
      have hmD2 := hmD.kept (w' := w6.drew) ⟨rfl, rfl, rfl, Nat.le_refl _, fun _ _ => rfl⟩
      have HA := hid (append16 w6.drew cl.g cl.cap (pack cl.ms) n (by omega) hmD2.row hroom6)
      rw [show (n : Int) = IntKind.u16.wrap (n : Int) by rw [IntKind.wrap_u16]; omega] at HA
      unfold Chunk.v at m6
      go_cut [69] (fun _ wx => ∃ xs, xs = pack cl.ms ++ [hiB n, loB n] ∧ Mid W1 wx g1 (off + (M - 1)) cur cl.g cl.cap (.slice (some ⟨cl.g, 0, none⟩) xs.length cl.cap) xs)
      case first =>
        go_region_with (go_at_call 40; refine HA.out.mono ?_; rintro e w7 ⟨rfl, hrow7, hgr7⟩; have hm7 := hmD2.app hgr7 hrow7; have m7 := hm7.cell; have l7 := hm7.frozen)
        all_goals (go_wp2_with fail; go_meet; exact ⟨_, rfl, by rw [List.length_append]; exact hm7.set _⟩)
      case rest =>
        obtain ⟨xs, hxs, hm7⟩ := hcut
        obtain ⟨W2, rfl⟩ : ∃ W2, W2 = wc := ⟨_, rfl⟩
        have m7 := hm7.cell
        have hxl : xs.length = (pack cl.ms).length + 2 := by rw [hxs, List.length_append]; rfl
        have rm1 : xs.length + X.length ≤ cl.cap := by have := hR.room; omega
        have rm2 : (xs ++ X).length + Y.length ≤ cl.cap := by have := hR.room; rw [List.length_append]; omega
        have bB : B ≤ w.heap.size := by have := HH.out.bF; have := HH.out.ltF; omega
        have bel1 : Below B w W1 := hR.below HH.out.bgo bB
        have bg1 : B ≤ g1 := hR.fat.bgo g1 HGO1.out
        have bcl : B ≤ cl.g := (hR.fat.chunks cl (by simp)).2
        have bel2 : Below B w W2 := bel1.trans (hm7.below (Nat.le_trans bB bel1.size) bg1 bcl)
        have HXS := hid hxs
        have HXL := hid hxl
        clear hxs hxl
        go_upto_region 8 with fail
        go_cut [82] (fun _ wx => Mid W1 wx g1 (off + (M - 1)) cur cl.g cl.cap (.slice (some ⟨cl.g, 0, none⟩) (xs ++ X ++ Y).length cl.cap) (xs ++ X ++ Y))
        case first =>
          have tok1 : True := trivial
          go_wp2_with (first | (at_builtin; have _t := tok1; go_must (refine wpList_append_room _ rfl _ _ rfl cl.g cl.cap xs X _ (by rfl) (by rfl) hm7.row (HX.out _ bel2) rm1 ?_); intro w8 hrow8 hgr8 hsz8; clear tok1; have hm8 := hm7.app hgr8 hrow8; have bel8 : Below B w w8 := bel1.trans (hm8.below (Nat.le_trans bB bel1.size) bg1 bcl)) | (at_builtin; go_must (refine wpList_append_room _ rfl _ _ rfl cl.g cl.cap (xs ++ X) Y _ (by first | rfl | (rw [List.length_append]; rfl)) (by rfl) hrow8 (HY.out _ bel8) rm2 ?_); intro w9 hrow9 hgr9 hsz9; have hm9 := hm8.app hgr9 hrow9; have m9 := hm9.cell; have l9 := hm9.frozen))
          go_meet
          rw [show (xs ++ X ++ Y).length = xs.length + (X.length + Y.length) by simp]
          exact hm9.set _
        case rest =>
          have hm := hcut
          obtain ⟨W3, rfl⟩ : ∃ W3, W3 = wc := ⟨_, rfl⟩
          have hys : xs ++ X ++ Y = pack (cl.ms ++ [X ++ Y]) := by
            have e : n = (X ++ Y).length := by rw [List.length_append]; omega
            rw [pack_snoc, HXS.out, pk, e]
            simp
          have hm2 := hm
          rw [show off + (M - 1) = off + (ini.length - base1) by rw [HM.out]; rfl, hys] at hm2
          have pend := put_end hR.fat hR.lt HGO1.out HCV1.out HG1.out hcc (by rw [← HM.out]; exact hcc2) HCELLS.out hm2
          have hF3 := hm.block F hR.fat.ltF (ne_of_type HG1.out hR.fat.row (by decide)).symm (by obtain ⟨q1, q2, _⟩ := (hR.fat.chunks cl (by simp)).1; exact (ne_of_type q2 hR.fat.row (by decide)).symm)
          have hF3' := hF3.trans hR.fat.row
          have e3 : W3.cell? ⟨F, 3, none⟩ = some (.int .u64 put) := cell_of_row _ _ _ _ _ _ hF3'
          have l3 := frozen_of_row W3 F 3 _ _ hF3'
          have PE := hid pend
          have HYS := hid hys
          have HMM := hid hm
          clear pend hm hm2 hys hF3 hF3' hcut
          go_upto_region 10 with fail
          rw [show ((put : Int) + 1) = ((put + 1 : Nat) : Int) by omega]
          have hylen : (pack (cl.ms ++ [X ++ Y])).length = xs.length + n := by
            rw [← HYS.out, List.length_append, List.length_append]; omega
          obtain ⟨hF4, fr4, c4⟩ := PE.out
          have hr4 : Row (W3.setCell ⟨F, 3, none⟩ (.int .u64 ((put + 1 : Nat) : Int))) cl.g cl.cap (xs ++ (X ++ Y)) := by
            have := (hF4.chunks ⟨cl.g, cl.cap, cl.ms ++ [X ++ Y]⟩ (by simp)).1
            rw [← List.append_assoc, HYS.out]; exact this
          generalize W3.setCell ⟨F, 3, none⟩ (.int .u64 ((put + 1 : Nat) : Int)) = W4 at hF4 fr4 c4 hr4 ⊢
          unfold Chunk.v at c4
          rw [hylen, show ini.length - base1 = M - 1 by rw [HM.out]; rfl] at c4
          obtain ⟨pa, pc, hpv, hpcell⟩ := hF4.places.open
          have e4 : W4.cell? ⟨F, 4, none⟩ = some pv := cell_of_row _ _ _ _ _ _ hF4.row
          have hps : (ps.map ptrV).length = ps.length := List.length_map ..
          rw [hpv, hps] at e4
          have hwake : ∀ p ∈ ps, W4.cell? ⟨p, 2, none⟩ = some (.func (.func 32) #[] #[]) := fun p hp => by
            obtain ⟨tt, i, c, o, hr⟩ := hrow p hp
            have hlt := (Array.getElem?_eq_some_iff.1 hr).1
            have n1 : p ≠ F := ne_of_type hr HH.out.row (by decide)
            have n2 : some p ≠ go := fun e => by
              have h2 := HH.out.own
              rw [← e] at h2
              obtain ⟨cur, hc⟩ := h2.type
              exact ne_of_type hr hc (by decide) rfl
            have hr1 := (hR.block p hlt n1 n2).trans hr
            obtain ⟨q1, q2, _⟩ := (hR.fat.chunks cl (by simp)).1
            have hr4 := (fr4.block p (Array.getElem?_eq_some_iff.1 hr1).1 n1 (ne_of_type hr1 HG1.out (by decide)) (ne_of_type hr1 q2 (by decide))).trans hr1
            exact cell_of_row _ _ _ _ _ _ hr4
          have HPC := hid hpcell
          have HPS := hid hps
          have HYL := hid hylen
          have HPV := hid hpv
          have HF4 := hid hF4
          clear hpcell hps hpv hylen hF4
          have rmn : xs.length + n ≤ cl.cap := by have h := rm2; rw [List.length_append] at h; omega
          have capn : cl.cap ≤ 4294967296 := hR.cap
          go_wp2_with fail
          go_loop [95] (fun t => ∃ k : Nat, k ≤ ps.length ∧ t = .int .i64 k) (fun t => ps.length - (intOf t).toNat)
          case atStart => exact ⟨0, by omega, rfl⟩
          case round =>
            obtain ⟨k, hk, rfl⟩ := hrel
            by_cases hlt : k < ps.length
            · obtain ⟨b, o, rfl, hcell⟩ := HPC.out.resolve_left (by rw [HPS.out]; omega)
              have q1 := hcell k (by rw [HPS.out]; exact hlt)
              rw [List.getElem_map] at q1
              unfold ptrV at q1
              have q2 := hwake _ (List.getElem_mem hlt)
              have j1 : (k : Int) < (ps.length : Int) := by omega
              generalize ps[k] = pk0 at q1 q2
              clear hcell
              go_wp2_with (go_at_call 32; refine (nop_any _).mono ?_; rintro e w' ⟨rfl, hw⟩; obtain rfl := hw.symm)
              all_goals go_round
              case rel => exact ⟨k + 1, by omega, by go_num⟩
              case measure => simp [intOf]; omega
            · by_cases hn0 : n = 0
              · have hXY : X ++ Y = [] := by
                  apply List.eq_nil_of_length_eq_zero
                  rw [List.length_append]; omega
                have hv : MsgAt W4 (.slice (some ⟨cl.g, 0, none⟩) 0 0) (X ++ Y) := by
                  rw [hXY]; exact MsgAt.mk (bs := []) (.inl rfl)
                have HV := hid hv
                clear hXY hv
                go_wp2_with fail
                go_quiet (fail)
                go_wp2_with fail
                go_ret
                exact put_done hR HGO1.out hcap HF4.out fr4 (below_drewN (Below.refl _ _) _) HV.out
              · have hv : MsgAt W4 (.slice (some ⟨cl.g, xs.length, none⟩) (xs.length + n - xs.length) (xs.length + n - xs.length)) (X ++ Y) := by
                  have h2 := hr4.part xs (X ++ Y) [] (by simp) (xs.length + n - xs.length)
                  rwa [show (X ++ Y).length = xs.length + n - xs.length by rw [List.length_append]; omega] at h2
                have HV := hid hv
                clear hv
                go_wp2_with fail
                go_quiet (fail)
                go_wp2_with fail
                go_ret
                exact put_done hR HGO1.out hcap HF4.out fr4 (below_drewN (Below.refl _ _) _) HV.out
end Go.Proofs.Qxb6613772a
