import Derived.Test.Qxb6613772aTake
import Derived.Test.Qxb6613772aLawA
import Derived.Laws.BytesArg
namespace Go.Proofs.Qxb6613772a
open Go.RowKit
set_option linter.unusedVariables false

/-- Bytes are bytes. -/
def BytesOk (b : List Int) : Prop := ∀ x ∈ b, 0 ≤ x ∧ x < 256
theorem strOfNums_inj {A B : List Int} (hA : BytesOk A) (hB : BytesOk B) (h : strOfNums A = strOfNums B) : A = B := by
  have h1 : A.map (fun n => UInt8.ofNat n.toNat) = B.map (fun n => UInt8.ofNat n.toNat) := by
    rw [← strOfNums_data A, ← strOfNums_data B, h]
  have hl : A.length = B.length := by have := congrArg List.length h1; simpa using this
  refine List.ext_getElem hl (fun i h1' h2' => ?_)
  have e : UInt8.ofNat A[i].toNat = UInt8.ofNat B[i].toNat := by
    have := congrArg (fun l => l[i]?) h1
    simpa [h1', h2'] using this
  have a := hA _ (List.getElem_mem h1')
  have b := hB _ (List.getElem_mem h2')
  have e2 := congrArg UInt8.toNat e
  simp only [UInt8.toNat_ofNat'] at e2
  omega
/-- string(m) -/
theorem conv_msg (w : World) (v : Value) (A : List Int) (h : MsgAt w v A) : (convert 29 9 v).run Try.prog w = .ok (.string (strOfNums A)) w := by
  obtain ⟨a, c, rfl, hc⟩ := h.open
  rcases hc with h0 | ⟨b, o, rfl, hc⟩
  · have hz : A = [] := List.eq_nil_of_length_eq_zero h0
    subst hz
    cases a with
    | none => rw [run_convert_bytes_nil w 29 5 Try.underlying29 Try.underlying5 _ _ 9 Try.underlying9]; rfl
    | some x =>
      rw [run_convert_bytes_string w 29 9 5 _ _ _ Try.underlying29 Try.underlying5 Try.underlying9]
      have := run_bytesToString (P := Try.prog) w x 0 c [] (by rfl)
      exact this
  · exact run_convert_bytes_arg w 29 5 Try.underlying29 Try.underlying5 b o A.length c A rfl (fun i hi => by rw [hc i hi]; simp [List.getD, List.getElem?_eq_getElem hi]) 9 Try.underlying9

theorem str_eq {A B : List Int} (oA : BytesOk A) (oB : BytesOk B) : ((strOfNums A).toList == (strOfNums B).toList) = (A == B) := by
  rw [Bool.eq_iff_iff, beq_iff_eq, beq_iff_eq, Go.ByteArray.toList_eq, Go.ByteArray.toList_eq]
  constructor
  · intro h
    exact strOfNums_inj oA oB (WideShapes.bytes_inj h)
  · rintro rfl; rfl
theorem same_any (w : World) (bx : Nat) (u v : Value) (A B : List Int) (hc : w.cell? ⟨bx, 0, none⟩ = some v) (hA : MsgAt w u A) (hB : MsgAt w v B) (oA : BytesOk A) (oB : BytesOk B) :
    Calls Try.prog 34 #[u, .pointer (some ⟨bx, 0, none⟩)] w fun e w' => e = .returned (.bool (A == B)) ∧ w' = w := by
  obtain ⟨a, c, rfl, _⟩ := hA.open
  obtain ⟨b, d, rfl, _⟩ := hB.open
  have c1 := conv_msg w _ A hA
  have c2 := conv_msg w _ B hB
  go_enter Try.func34, Try.ntmps34
  go_wp2
  go_ret
  exact ⟨ret_bool (str_eq oA oB), rfl⟩

/-- The closure that ZZputUnlessEqual hands over. -/
abbrev sameV (bx : Nat) : Value := .func (.func 34) #[] #[.pointer (some ⟨bx, 0, none⟩)]
set_option maxHeartbeats 400000 in
theorem indexFunc (w : World) (bx : Nat) (v : Value) (B : List Int) (r : Option Nat) (qv : Value) (hs : List Value) (L : List (List Int)) (hc : w.cell? ⟨bx, 0, none⟩ = some v) (hB : MsgAt w v B) (oB : BytesOk B)
    (hq : Lies w r qv hs) (hL : MsgsAt w hs L) (oL : ∀ b ∈ L, BytesOk b) (hl : L.length ≤ 4194304) :
    Calls Try.prog 45 #[qv, sameV bx] w fun e w' => ∃ i : Int, e = .returned (.int .i64 i) ∧ w' = w ∧ (0 ≤ i ↔ B ∈ L) := by
  obtain ⟨a, c, rfl, hca⟩ := hq.open
  have HCA := hid hca
  have HL := hid hL.1
  have hsl : hs.length ≤ 4194304 := by rw [hL.1]; exact hl
  clear hca hq
  go_enter Try.func45, Try.ntmps45
  go_wp2_with fail
  go_loop [8] (fun t => ∃ k : Nat, k ≤ hs.length ∧ t = .int .i64 k ∧ ∀ j (h : j < L.length), j < k → L[j] ≠ B) (fun t => hs.length - (intOf t).toNat)
  case atStart => exact ⟨0, by omega, rfl, fun j _ hj => by omega⟩
  case round =>
    obtain ⟨k, hk, rfl, hno⟩ := hrel
    by_cases hlt : k < hs.length
    · have hkL : k < L.length := by rw [← HL.out]; exact hlt
      obtain ⟨b1, o1, rfl, hc1⟩ : ∃ b o, a = some ⟨b, o, none⟩ ∧ ∀ i (hi : i < hs.length), w.cell? ⟨b, o + i, none⟩ = some hs[i] := by
        rcases HCA.out with h | h
        · omega
        · exact h
      have g1 := hc1 k hlt
      have m1 := hL.get k hlt hkL
      obtain ⟨x1, y1, e1, _⟩ := m1.open
      rw [e1] at g1 m1
      have oA := oL _ (List.getElem_mem hkL)
      have HNO := hid hno
      clear hc1 e1 hno
      have i1 : (k : Int) < (hs.length : Int) := by omega
      go_wp2_with fail
      refine (same_any w bx _ v L[k] B hc m1 hB oA oB).mono ?_
      rintro e w' ⟨rfl, rfl⟩
      cases hkb : (L[k] == B)
      · go_wp2_with fail
        go_round
        case rel => exact ⟨k + 1, by omega, by go_num, fun j h hj => by by_cases e : j = k; (subst e; simpa using hkb); exact HNO.out j h (by omega)⟩
        case measure => simp [intOf]; omega
      · go_wp2_with fail
        go_ret
        refine ⟨k, rfl, rfl, fun _ => ?_, fun _ => by omega⟩
        have e : L[k] = B := by simpa using hkb
        rw [← e]; exact List.getElem_mem hkL
    · have HNB : Hid (B ∉ L) := fun h => by
        obtain ⟨j, hj, e⟩ := List.mem_iff_getElem.1 h
        exact hno j hj (by have := HL.out; omega) e
      clear hno
      go_wp2_with fail
      go_ret
      exact ⟨-1, rfl, rfl, by omega, fun h => absurd h HNB.out⟩

theorem containsFunc (w : World) (bx : Nat) (v : Value) (B : List Int) (r : Option Nat) (qv : Value) (hs : List Value) (L : List (List Int)) (hc : w.cell? ⟨bx, 0, none⟩ = some v) (hB : MsgAt w v B) (oB : BytesOk B)
    (hq : Lies w r qv hs) (hL : MsgsAt w hs L) (oL : ∀ b ∈ L, BytesOk b) (hl : L.length ≤ 4194304) :
    Calls Try.prog 43 #[qv, sameV bx] w fun e w' => e = .returned (.bool (L.contains B)) ∧ w' = w := by
  obtain ⟨a, c, rfl, _⟩ := hq.open
  go_enter Try.func43, Try.ntmps43
  go_wp2_with fail
  refine (indexFunc w bx v B r _ hs L hc hB oB hq hL oL hl).mono ?_
  rintro e w' ⟨i, rfl, rfl, hi⟩
  have HI := hid hi
  clear hi
  go_wp2_with fail
  go_ret
  refine ⟨ret_bool ?_, rfl⟩
  rw [Bool.eq_iff_iff, decide_eq_true_eq, List.contains_iff_mem]
  exact HI.out

/-- x behind the rest, unless B is among L. -/
def addIf {α : Type} (L : List (List Int)) (B : List Int) (hs : List α) (x : α) : List α := if L.contains B then hs else hs ++ [x]
theorem addIf_yes {α : Type} {L : List (List Int)} {B : List Int} (h : L.contains B = true) (hs : List α) (x : α) : addIf L B hs x = hs := by unfold addIf; rw [if_pos h]
theorem addIf_no {α : Type} {L : List (List Int)} {B : List Int} (h : L.contains B = false) (hs : List α) (x : α) : addIf L B hs x = hs ++ [x] := by unfold addIf; rw [if_neg (by rw [h]; simp)]
theorem Touch.refl (w : World) (q : Nat) (go : Option Nat) : Touch w w q go := ⟨rfl, rfl, rfl, Nat.le_refl _, fun _ _ _ _ => rfl⟩
theorem Touch.after {w w1 w' : World} {q : Nat} {go : Option Nat} (h : Touch w1 w' q go) (hb : Below w.heap.size w w1) : Touch w w' q go :=
  ⟨h.os.trans hb.os, h.tape.trans hb.tape, h.output.trans hb.output, Nat.le_trans hb.size h.size, fun k hk hkq hkg => (h.block k (Nat.lt_of_lt_of_le hk hb.size) hkq hkg).trans (hb.block k hk)⟩

set_option maxHeartbeats 400000 in
/-- PutUnless with that closure. -/
theorem putUnless (w : World) (q bx : Nat) (qv : Value) (go : Option Nat) (hs : List Value) (L : List (List Int)) (a : Option Addr) (n c : Nat) (B : List Int) (h : QAt w q qv go hs) (hL : MsgsAt w hs L) (oL : ∀ b ∈ L, BytesOk b)
    (hc : w.cell? ⟨bx, 0, none⟩ = some (.slice a n c)) (hB : MsgAt w (.slice a n c) B) (oB : BytesOk B) (hl : L.length ≤ 4194304) :
    Calls Try.prog 33 #[.pointer (some ⟨q, 0, none⟩), .slice a n c, sameV bx] w fun e w' => e = .returned (.tuple #[]) ∧ ∃ qv' go', QAt w' q qv' go' (addIf L B hs (.slice a n c)) ∧ Touch w w' q go ∧ (go' = go ∨ ∃ g, go' = some g ∧ w.heap.size ≤ g) := by
  have hc1 : w.cell? ⟨q, 1, none⟩ = some qv := by rw [cell_of_row _ _ _ _ _ _ h.1]; rfl
  have hlies := h.2.1.lies
  obtain ⟨a1, c1, hqv, _⟩ := hlies.open
  have HH := hid h
  clear h
  rw [hqv] at hc1 hlies
  have HQV := hid hqv
  clear hqv
  go_enter Try.func33, Try.ntmps33
  go_wp2_with fail
  refine (containsFunc w bx _ B go _ hs L hc hB oB hlies hL oL hl).mono ?_
  rintro e w' ⟨rfl, rfl⟩
  cases hcb : L.contains B
  · have HCB := hid hcb
    clear hcb
    go_wp2_with fail
    refine (put_any _ q qv go hs a n c HH.out (by rw [hL.1]; exact hl)).mono ?_
    rintro e w2 ⟨rfl, qv', g', hq', ht', hg'⟩
    go_wp2_with fail
    go_end0
    refine ⟨rfl, qv', some g', by rw [addIf_no HCB.out]; exact hq', ht', ?_⟩
    rcases hg' with hg' | hg'
    · exact .inl hg'
    · exact .inr ⟨g', rfl, hg'⟩
  · have HCB := hid hcb
    clear hcb
    go_wp2_with fail
    (try simp only [Exit.inBlock, Exit.then])
    refine bodyPost_ret (results_none rfl _ _ _) rfl ?_
    exact ⟨rfl, qv, go, by rw [addIf_yes HCB.out]; exact HH.out, Touch.refl _ _ _, .inl rfl⟩

set_option maxHeartbeats 400000 in
theorem putUnlessEq (w : World) (q : Nat) (qv : Value) (go : Option Nat) (hs : List Value) (L : List (List Int)) (a : Option Addr) (n c : Nat) (B : List Int) (h : QAt w q qv go hs) (hL : MsgsAt w hs L) (oL : ∀ b ∈ L, BytesOk b)
    (hB : MsgAt w (.slice a n c) B) (oB : BytesOk B) (hl : L.length ≤ 4194304) :
    Calls Try.prog 17 #[.pointer (some ⟨q, 0, none⟩), .slice a n c] w fun e w' => e = .returned (.tuple #[]) ∧ ∃ qv' go', QAt w' q qv' go' (addIf L B hs (.slice a n c)) ∧ Touch w w' q go ∧ (go' = go ∨ ∃ g, go' = some g ∧ w.heap.size ≤ g) := by
  have hb0 : Below w.heap.size w (w.alloc (.cells #[.slice a n c] 29)) := (Below.refl _ _).alloc (Nat.le_refl _) _
  have hqlt : q < w.heap.size := (Array.getElem?_eq_some_iff.1 h.1).1
  go_enter Try.func17, Try.ntmps17
  go_wp2_with fail
  refine (putUnless _ q w.heap.size qv go hs L a n c B ⟨(hb0.block q hqlt).trans h.1, h.2.1.kept (fun k hk => hb0.block k (h.2.1.lt k hk)), h.2.2⟩ (hL.later hb0) oL (cell_of_row _ _ _ _ _ _ (heap_alloc_new w _)) (hB.later hb0) oB hl).mono ?_
  rintro e w2 ⟨rfl, qv', go', hq', ht', hg'⟩
  go_wp2_with fail
  go_end0
  refine ⟨rfl, qv', go', hq', ht'.after hb0, hg'.imp id ?_⟩
  rintro ⟨g, h1, h2⟩
  exact ⟨g, h1, by simp at h2; omega⟩
end Go.Proofs.Qxb6613772a
