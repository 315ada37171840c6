import Derived.Test.Qxb6613813aStart
import Derived.LaidEqlPtr
namespace Go.Proofs.Qxb6613813a
open Go.RowKit Go.Maps Go.WideMaps
set_option linter.unusedVariables false

theorem key_lit (s : ByteArray) : WideAt.IsKeyLit (.string s.data.toList) := by trivial
theorem key_ne {s t : ByteArray} (h : s ≠ t) : Lit.string s.data.toList ≠ Lit.string t.data.toList := by
  intro e
  apply h
  cases s; cases t
  simp at e
  simp [e]
theorem bytes10' (w : World) (a : Option Addr) (ss : List ByteArray) (c : Nat) (s1 s2 : ByteArray) (x3 x4 : Int) (h : Strs w a ss) :
    Calls Try.prog 10 #[.slice a ss.length c, .string s1, .string s2, .int .u64 x3, .int .u64 x4] w fun e w' => (e = .returned (.bool false) ∨ (e = .returned (.bool true) ∧ ss.length ≤ 1048576)) ∧ w' = w := by
  refine (bytes10 w a ss c s1 s2 x3 x4 h).mono ?_
  rintro e w' ⟨⟨b, rfl, hb⟩, rfl⟩
  cases b
  · exact ⟨.inl rfl, rfl⟩
  · exact ⟨.inr ⟨rfl, hb rfl⟩, rfl⟩
theorem newReplay' (w : World) (a : Option Addr) (n c : Nat) (hn : n ≤ 1048576) :
    Calls Try.prog 13 #[.slice a n c] w fun e w' => ∃ R bs bp, e = .returned (.pointer (some ⟨R, 0, none⟩)) ∧ RAt w' R bs bp a n c 0 (.map []) ∧ w.heap.size ≤ bp ∧ Below w.heap.size w w' := by
  refine (newReplay w a n c hn).mono ?_
  rintro e w' ⟨rfl, h1, h2⟩
  exact ⟨_, _, _, rfl, h1, by omega, h2⟩

theorem size71 : (Try.prog.info? 71).map (fun i => i.size) = some 15 := by kernel_rfl
theorem info71 : ∃ j, Try.prog.info? 71 = some j ∧ j.size ≠ 0 := by
  have h := size71
  cases hj : Try.prog.info? 71 with
  | none => rw [hj] at h; cases h
  | some j => rw [hj] at h; exact ⟨j, rfl, by have h2 : j.size = 15 := Option.some.inj h; omega⟩
theorem neq_ptr (w : World) (p q : Nat) (hne : p ≠ q) (hp : PAt w p) (hq : PAt w q) : (binOp .neq 43 (.pointer (some ⟨p, 0, none⟩)) (.pointer (some ⟨q, 0, none⟩))).run Try.prog w = .ok (.bool true) w := by
  obtain ⟨j, hj, hz⟩ := info71
  obtain ⟨cp, hcp, _⟩ := hp
  obtain ⟨cq, hcq, _⟩ := hq
  have hn : (⟨p, 0, none⟩ : Addr) ≠ ⟨q, 0, none⟩ := fun e => hne (congrArg Addr.block e)
  have h : ∀ d : Nat, (Op.equalIn (d + 1) 43 (.pointer (some ⟨p, 0, none⟩)) (.pointer (some ⟨q, 0, none⟩))).run Try.prog w = .ok false w := fun d => by
    simp [Op.equalIn, run_underlying Try.underlying43, sizeOf, typeInfo, hj, hz, run_sameAddr_other w hn hcp hcq]
  simp only [binOp]
  simp [Op.equal, Op.maxDepth, h 9999]
theorem eql_ptr (w : World) (p : Nat) : (binOp .eql 43 (.pointer (some ⟨p, 0, none⟩)) (.pointer (some ⟨p, 0, none⟩))).run Try.prog w = .ok (.bool true) w := by
  obtain ⟨j, hj, hz⟩ := info71
  exact run_eql_ptr_same w _ Try.underlying43 hj

/-! ### The three starts, as data -/
abbrev kl (s : ByteArray) : Lit := .string s.data.toList
abbrev pt (p : Nat) : Value := .pointer (some ⟨p, 0, none⟩)
def D1 (s1 : ByteArray) (p1 : Nat) : DataW Value := (DataW.map []).put (kl s1) (.held (pt p1))
def D2 (s1 s2 : ByteArray) (p1 p2 : Nat) : DataW Value := (D1 s1 p1).put (kl s2) (.held (pt p2))
def D3 (s1 s2 : ByteArray) (p1 p2 p3 : Nat) : DataW Value := (D2 s1 s2 p1 p2).put (kl s1) (.held (pt p3))
theorem isMap1 (s1 : ByteArray) (p1 : Nat) : IsMap (D1 s1 p1) := isMap_empty.put _ _
theorem isMap2 (s1 s2 : ByteArray) (p1 p2 : Nat) : IsMap (D2 s1 s2 p1 p2) := (isMap1 s1 p1).put _ _
theorem tidy1 (s1 : ByteArray) (p1 : Nat) : Tidy (D1 s1 p1) := tidy_empty.put (key_lit _) _
theorem tidy2 (s1 s2 : ByteArray) (p1 p2 : Nat) : Tidy (D2 s1 s2 p1 p2) := (tidy1 s1 p1).put (key_lit _) _
theorem at1 (s1 : ByteArray) (p1 : Nat) : (D1 s1 p1).atKey (kl s1) (.held (.pointer none)) = .held (pt p1) := atKey_put_same isMap_empty (key_lit _) _ _
theorem has1 (s1 : ByteArray) (p1 : Nat) : Maps.has (D1 s1 p1) (kl s1) = true := has_put_same isMap_empty (key_lit _) _
theorem at2 (s1 s2 : ByteArray) (p1 p2 : Nat) : (D2 s1 s2 p1 p2).atKey (kl s2) (.held (.pointer none)) = .held (pt p2) := atKey_put_same (isMap1 s1 p1) (key_lit _) _ _
theorem has2 (s1 s2 : ByteArray) (p1 p2 : Nat) : Maps.has (D2 s1 s2 p1 p2) (kl s2) = true := has_put_same (isMap1 s1 p1) (key_lit _) _
theorem at3 (s1 s2 : ByteArray) (p1 p2 p3 : Nat) : (D3 s1 s2 p1 p2 p3).atKey (kl s1) (.held (.pointer none)) = .held (pt p3) := atKey_put_same (isMap2 s1 s2 p1 p2) (key_lit _) _ _
theorem has3 (s1 s2 : ByteArray) (p1 p2 p3 : Nat) : Maps.has (D3 s1 s2 p1 p2 p3) (kl s1) = true := has_put_same (isMap2 s1 s2 p1 p2) (key_lit _) _
theorem at3' (s1 s2 : ByteArray) (p1 p2 p3 : Nat) (h : s1 ≠ s2) : (D3 s1 s2 p1 p2 p3).atKey (kl s2) (.held (.pointer none)) = .held (pt p2) := by
  unfold D3
  rw [atKey_put_other (key_ne h).symm, at2]
theorem has3' (s1 s2 : ByteArray) (p1 p2 p3 : Nat) (h : s1 ≠ s2) : Maps.has (D3 s1 s2 p1 p2 p3) (kl s2) = true := by
  unfold D3
  rw [has_put_other (key_ne h).symm, has2]
theorem size3 (s1 s2 : ByteArray) (p1 p2 p3 : Nat) (h : s1 ≠ s2) : Maps.size (D3 s1 s2 p1 p2 p3) = 2 := by
  have hh : Maps.has (D2 s1 s2 p1 p2) (kl s1) = true := by
    unfold D2
    rw [has_put_other (key_ne h), has1]
  have h1 : Maps.has (D1 s1 p1) (kl s2) = false := by
    unfold D1
    rw [has_put_other (key_ne h).symm]; rfl
  unfold D3
  rw [size_put (tidy2 s1 s2 p1 p2), if_pos hh]
  unfold D2
  rw [size_put (tidy1 s1 p1), if_neg (by rw [h1]; simp)]
  unfold D1
  rw [size_put tidy_empty, if_neg (by simp [Maps.has])]
  rfl

set_option maxHeartbeats 2000000 in
theorem law_main (w : World) (a : Option Addr) (ss : List ByteArray) (c : Nat) (s1 s2 : ByteArray) (x3 x4 : Int) (h : Strs w a ss) (hs1 : s1.size ≤ maxLen) (hs2 : s2.size ≤ maxLen) :
    Calls Try.prog 5 #[.slice a ss.length c, .string s1, .string s2, .int .u64 x3, .int .u64 x4] w fun e w' => e = .returned (.bool true) ∧ Below w.heap.size w w' := by
  by_cases q0 : (s1.size : Int) ≤ 1048576
  rotate_left
  · go_enter Try.func5, Try.ntmps5
    go_wp2_with (go_at_call 10; refine (bytes10' _ a ss c s1 s2 x3 x4 h).mono ?_; rintro e w2 ⟨(rfl | ⟨rfl, hb⟩), rfl⟩)
    all_goals go_ret
    all_goals exact ⟨rfl, Below.refl _ _⟩
  by_cases q1 : (s2.size : Int) ≤ 1048576
  rotate_left
  · go_enter Try.func5, Try.ntmps5
    go_wp2_with (go_at_call 10; refine (bytes10' _ a ss c s1 s2 x3 x4 h).mono ?_; rintro e w2 ⟨(rfl | ⟨rfl, hb⟩), rfl⟩)
    all_goals go_ret
    all_goals exact ⟨rfl, Below.refl _ _⟩
  by_cases q2 : (s1.size : Int) + (s2.size : Int) ≤ 1048576
  rotate_left
  · go_enter Try.func5, Try.ntmps5
    go_wp2_with (go_at_call 10; refine (bytes10' _ a ss c s1 s2 x3 x4 h).mono ?_; rintro e w2 ⟨(rfl | ⟨rfl, hb⟩), rfl⟩)
    all_goals go_ret
    all_goals exact ⟨rfl, Below.refl _ _⟩
  have HN := fun (w1 w2 : World) (h : Below w.heap.size w w1) (h2 : Below w1.heap.size w1 w2) => h.trans (h2.mono h.size)
  by_cases hne : s1 = s2
  · subst hne
    go_enter Try.func5, Try.ntmps5
    go_wp2_with (first | (go_at_call 10; refine (bytes10' _ a ss c s1 s1 x3 x4 h).mono ?_; rintro e w2 ⟨(rfl | ⟨rfl, hb⟩), rfl⟩) | (go_at_call 11; refine (addBytes _ a ss c ((s1.size : Int) + (s1.size : Int)) (by omega) (by omega) hb h).mono ?_; rintro e w3 ⟨⟨k, rfl⟩, rfl⟩))
    all_goals go_ret
    all_goals exact ⟨rfl, Below.refl _ _⟩
  go_enter Try.func5, Try.ntmps5
  go_upto_region 13 with (first | (go_at_call 10; refine (bytes10' _ a ss c s1 s2 x3 x4 h).mono ?_; rintro e w2 ⟨(rfl | ⟨rfl, hb⟩), rfl⟩) | (go_at_call 11; refine (addBytes _ a ss c ((s1.size : Int) + (s2.size : Int)) (by omega) (by omega) hb h).mono ?_; rintro e w3 ⟨⟨k, rfl⟩, rfl⟩) | (go_at_call 12; refine (cloneStrings _ a ss c h hb).mono ?_; rintro e w5 ⟨⟨a', n', c', rfl, hn'⟩, hb5⟩) | (go_at_call 13; refine (newReplay' _ a' n' c' hn').mono ?_; rintro e w6 ⟨R, bs, bp, rfl, hR, hbp, hb6⟩))
  any_goals (go_ret; exact ⟨rfl, Below.refl _ _⟩)
  · have hB6 := HN _ _ hb5 hb6
    have hbp' : w3.heap.size ≤ bp := Nat.le_trans hb5.size hbp
    clear hb5 hb6 HN hbp
    go_upto_region 14 with (go_at_call 14; refine (start14 _ R bs bp a' n' c' 0 _ s1 x3 hs1 (by omega) hR).mono ?_; rintro e w7 ⟨rfl, p1, hp1, hp1', hR7, hb7, P7, _⟩)
    have hB7 := hB6.trans (hb7 _ hbp' hB6.size)
    have hR6 := hR
    clear hb7 hB6 hR
    go_upto_region 15 with (go_at_call 15; refine (prop15 _ R bs bp a' n' c' 1 _ s1 hs1 hR7 (.pointer (some ⟨p1, 0, none⟩)) (at1 s1 p1) (has1 s1 p1)).mono ?_; rintro e w8 ⟨rfl, rfl⟩)
    go_upto_region 16 with (go_at_call 14; refine (start14 _ R bs bp a' n' c' 1 _ s2 x3 hs2 (by omega) hR7).mono ?_; rintro e w9 ⟨rfl, p2, hp2, hp2', hR9, hb9, P9, F9⟩)
    have hB9 := hB7.trans (hb9 _ hbp' hB7.size)
    clear hb9 hB7 hR7
    go_upto_region 17 with (go_at_call 15; refine (prop15 _ R bs bp a' n' c' 2 _ s2 hs2 hR9 (.pointer (some ⟨p2, 0, none⟩)) (at2 s1 s2 p1 p2) (has2 s1 s2 p1 p2)).mono ?_; rintro e w10 ⟨rfl, rfl⟩)
    go_upto_region 18 with (go_at_call 14; refine (start14 _ R bs bp a' n' c' 2 _ s1 x4 hs1 (by omega) hR9).mono ?_; rintro e w11 ⟨rfl, p3, hp3, hp3', hR11, hb11, P11, F11⟩)
    have hB11 := hB9.trans (hb11 _ hbp' hB9.size)
    clear hb11 hB9 hR9
    go_upto_region 19 with (go_at_call 15; refine (prop15 _ R bs bp a' n' c' 3 _ s1 hs1 hR11 (.pointer (some ⟨p3, 0, none⟩)) (at3 s1 s2 p1 p2 p3) (has3 s1 s2 p1 p2 p3)).mono ?_; rintro e w12 ⟨rfl, rfl⟩)
    go_upto_region 20 with (go_at_call 15; refine (prop15 _ R bs bp a' n' c' 3 _ s2 hs2 hR11 (.pointer (some ⟨p2, 0, none⟩)) (at3' s1 s2 p1 p2 p3 hne) (has3' s1 s2 p1 p2 p3 hne)).mono ?_; rintro e w13 ⟨rfl, rfl⟩)
    have hpb : p1 ≠ bp := by have := hR6.props.lt; omega
    have P7b := (P7.kept (F9 p1 hp1' hpb)).kept (F11 p1 (by omega) hpb)
    have E1 := neq_ptr _ p3 p1 (by omega) P11 P7b
    have E2 := eql_ptr
    have hcount := count16 _ R bs bp a' n' c' 3 (D3 s1 s2 p1 p2 p3) hR11
    rw [size3 s1 s2 p1 p2 p3 hne] at hcount
    go_wp2_with (go_at_call 16; refine hcount.mono ?_; rintro e w14 ⟨rfl, rfl⟩)
    go_ret
    exact ⟨rfl, hB11⟩

end Go.Proofs.Qxb6613813a
