import Derived.Test.Qxb6613772aAdv2
namespace Go.Proofs.Qxb6613772a
open Go.RowKit
set_option linter.unusedVariables false

theorem msgs_append (A B : List Chunk) : msgs (A ++ B) = msgs A ++ msgs B := by simp [msgs]
theorem msgs_split (cs : List Chunk) (c : Nat) (h : c < cs.length) : msgs cs = msgs (cs.take c) ++ (cs[c].ms ++ msgs (cs.drop (c + 1))) := by
  have e : cs = cs.take c ++ (cs[c] :: cs.drop (c + 1)) := by rw [← List.drop_eq_getElem_cons h, List.take_append_drop]
  have e2 := congrArg msgs e
  rw [msgs_append] at e2
  rw [e2]
  simp only [msgs, List.flatMap_cons]
theorem msgs_take_succ (cs : List Chunk) (c : Nat) (h : c < cs.length) : msgs (cs.take (c + 1)) = msgs (cs.take c) ++ cs[c].ms := by
  rw [List.take_succ_eq_append_getElem h, msgs_append]; simp [msgs]
theorem msOf_lt (cs : List Chunk) (c : Nat) (h : c < cs.length) : msOf cs c = cs[c].ms := by simp [msOf, List.getElem?_eq_getElem h]

/-- v is a header of the message m within one of the chunks. -/
def Hdr (cs : List Chunk) (v : Value) (m : List Int) : Prop := ∃ ch ∈ cs, ∃ A C k, (m = [] ∨ k = A.length) ∧ pack ch.ms = A ++ m ++ C ∧ v = .slice (some ⟨ch.g, k, none⟩) m.length m.length
section
variable {w : World} {B F : Nat} {cs : List Chunk} {base put : Nat} {cv : Value} {go : Option Nat} {pv : Value} {gp : Option Nat} {ps : List Nat}
theorem Hdr.at (h : FAt w B F cs base put cv go pv gp ps) {v : Value} {m : List Int} (hv : Hdr cs v m) : MsgAt w v m := by
  obtain ⟨ch, hch, A, C, k, h1, h2, rfl⟩ := hv
  rcases h1 with rfl | rfl
  · exact ⟨none, some ⟨ch.g, k, none⟩, 0, rfl, .inl rfl⟩
  · exact (h.chunks ch hch).1.part A m C h2 _
theorem FAt.hdr (h : FAt w B F cs base put cv go pv gp ps) (hb : base < cs.length) :
    ∃ G o capv, go = some G ∧ cv = .slice (some ⟨G, o, none⟩) (cs.length - base) capv ∧ (∃ cur, w.heap[G]? = some (.cells cur 29 (0, 0))) ∧ ∀ c (hc : c < cs.length), base ≤ c → w.cell? ⟨G, o + (c - base), none⟩ = some (cs[c].v) := by
  have hl : ((cs.drop base).map Chunk.v).length = cs.length - base := by simp
  rcases h.own with ⟨_, h2, _⟩ | ⟨g, off, cap, cur, h1, h2, h3, h4, h5, h6⟩
  · rw [h2] at hl
    simp only [List.length_nil] at hl
    omega
  · refine ⟨g, off, cap, h1, by rw [h2, hl], ⟨cur, h3⟩, fun c hc hbc => ?_⟩
    rw [cell_of_row _ _ _ _ _ _ h3, h6 (c - base) (by rw [hl]; omega), List.getElem?_map, List.getElem?_drop, show base + (c - base) = c by omega, List.getElem?_eq_getElem hc]
    rfl

theorem ne_of_type {w : World} {a b : Nat} {ca cb : Array Value} {s t : TypeId} (ha : w.heap[a]? = some (.cells ca s (0, 0))) (hb : w.heap[b]? = some (.cells cb t (0, 0))) (hst : s ≠ t) : a ≠ b := by
  rintro rfl
  rw [ha] at hb
  injection hb with hb
  injection hb with _ h2
  exact hst h2

/-- What advance gives. -/
def AdvDone (w : World) (F P : Nat) (cs : List Chunk) (tt : Int) (i c : Nat) (e : Ending) (w' : World) : Prop :=
  ∃ v m c' j' a n, e = .returned v ∧ v = .slice (some a) n n ∧ (msgs cs)[i]? = some m ∧ Hdr cs v m ∧ PlAt w' F P cs tt (i + 1) c' j' ∧ c ≤ c' ∧ w.grownBy w' (some P)

theorem advance (P : Nat) (tt : Int) (i c j : Nat) (h : FAt w B F cs base put cv go pv gp ps) (hp : PlAt w F P cs tt i c j) (hbase : base ≤ c) (hfull : ∀ ch ∈ cs, ch.ms ≠ []) (hput : put = (msgs cs).length) (hi : i < put) (hsm : put ≤ 1048576)
    (hm : ∀ m ∈ msgs cs, m.length < 65536) (hcap : ∀ ch ∈ cs, ch.cap ≤ 4294967296) (hcs : cs.length ≤ 1048576) :
    Calls Try.prog 44 #[.pointer (some ⟨P, 0, none⟩)] w fun e w' => AdvDone w F P cs tt i c e w' := by
  have hc : c < cs.length := by
    rcases hp.lt with h1 | ⟨h1, _⟩
    · exact h1
    · subst h1; simp [msgs] at hput; omega
  obtain ⟨G, o, capv, rfl, rfl, ⟨cur, hG⟩, hcell⟩ := h.hdr (by omega)
  have hrow := hp.row
  have hms := msOf_lt cs c hc
  have hle := hp.le
  have hnum := hp.num
  rw [hms] at hrow hle
  have hspl := msgs_split cs c hc
  have hmem : cs[c] ∈ cs := List.getElem_mem hc
  by_cases hj : j < cs[c].ms.length
  · have hpk := pack_at cs[c].ms j hj
    have hmm : cs[c].ms[j] ∈ msgs cs := by
      rw [hspl]; exact List.mem_append_right _ (List.mem_append_left _ (List.getElem_mem hj))
    have hce := hcell c hc hbase
    unfold Chunk.v at hce
    rw [hpk] at hce
    have hr := (h.chunks _ hmem).1
    rw [hpk] at hr
    refine (adv1 w F P tt i c base put G o _ capv _ _ cs[c].g cs[c].cap (pack (cs[c].ms.take j)) cs[c].ms[j] (pack (cs[c].ms.drop (j + 1))) hrow h.row hbase (by omega) hce hr (hm _ hmm) (by omega) (by omega) (hcap _ hmem)).mono ?_
    rintro e w' ⟨k, h1, rfl, h3, h4⟩
    refine ⟨_, cs[c].ms[j], c, j + 1, _, _, rfl, rfl, ?_, ⟨cs[c], hmem, pack (cs[c].ms.take j) ++ [hiB cs[c].ms[j].length, loB cs[c].ms[j].length], pack (cs[c].ms.drop (j + 1)), k, ?_, ?_, rfl⟩, ⟨?_, by omega, by rw [hms]; omega, .inl hc⟩, Nat.le_refl _, h4⟩
    · rw [hspl, List.getElem?_append_right (by omega), List.getElem?_append_left (by omega), show i - (msgs (cs.take c)).length = j by omega, List.getElem?_eq_getElem hj]
    · exact h1.imp id (fun h => by rw [h]; simp)
    · rw [hpk]; simp [pk]
    · rw [h3, hms, List.take_succ_eq_append_getElem hj, pack_snoc, List.length_append, len_pk]
      unfold plCells
      rw [show (pack (cs[c].ms.take j)).length + 2 + cs[c].ms[j].length = (pack (cs[c].ms.take j)).length + (cs[c].ms[j].length + 2) by omega]
  · obtain rfl : j = cs[c].ms.length := by omega
    have hc1 : c + 1 < cs.length := by
      by_cases hc1 : c + 1 < cs.length
      · exact hc1
      · have : cs.drop (c + 1) = [] := List.drop_eq_nil_of_le (by omega)
        rw [this] at hspl
        have := congrArg List.length hspl
        simp [msgs] at this
        simp [msgs] at hput hnum
        omega
    have hmem1 : cs[c + 1] ∈ cs := List.getElem_mem hc1
    have hms1 := msOf_lt cs (c + 1) hc1
    have hspl1 := msgs_split cs (c + 1) hc1
    have h0 : 0 < cs[c + 1].ms.length := List.length_pos_iff.2 (hfull _ hmem1)
    have hpk := pack_at cs[c + 1].ms 0 h0
    rw [List.take_zero] at hpk
    have hpk' : pack cs[c + 1].ms = pk cs[c + 1].ms[0] ++ pack (cs[c + 1].ms.drop (0 + 1)) := by rw [hpk]; simp [pack]
    have hmm : cs[c + 1].ms[0] ∈ msgs cs := by
      rw [hspl1]; exact List.mem_append_right _ (List.mem_append_left _ (List.getElem_mem h0))
    have hce0 := hcell c hc hbase
    have hce := hcell (c + 1) hc1 (by omega)
    unfold Chunk.v at hce hce0
    rw [hpk', show c + 1 - base = c - base + 1 by omega] at hce
    have hr := (h.chunks _ hmem1).1
    rw [hpk'] at hr
    rw [List.take_length] at hrow
    obtain ⟨curg, hg, _⟩ := hr
    refine (adv2 w F P tt i c base put G o _ capv _ _ cs[c].g cs[c].cap (pack cs[c].ms).length cs[c + 1].g cs[c + 1].cap cs[c + 1].ms[0] (pack (cs[c + 1].ms.drop (0 + 1))) hrow h.row (ne_of_type hG hrow (by decide)) (ne_of_type h.row hrow (by decide)) (ne_of_type hg hrow (by decide)) hbase (by omega) hce0 hce (hpk' ▸ (h.chunks _ hmem1).1) (hm _ hmm) (by omega) (by omega) (hcap _ hmem1)).mono ?_
    rintro e w' ⟨k, h1, rfl, h3, h4⟩
    have hnum1 : i = (msgs (cs.take (c + 1))).length := by rw [msgs_take_succ cs c hc, List.length_append]; exact hnum
    refine ⟨_, cs[c + 1].ms[0], c + 1, 1, _, _, rfl, rfl, ?_, ⟨cs[c + 1], hmem1, [hiB cs[c + 1].ms[0].length, loB cs[c + 1].ms[0].length], pack (cs[c + 1].ms.drop (0 + 1)), k, ?_, ?_, rfl⟩, ⟨?_, by omega, by rw [hms1]; omega, .inl hc1⟩, by omega, h4⟩
    · rw [hspl1, List.getElem?_append_right (by omega), List.getElem?_append_left (by omega), show i - (msgs (cs.take (c + 1))).length = 0 by omega, List.getElem?_eq_getElem h0]
    · exact h1.imp id (fun h => by rw [h]; simp)
    · rw [hpk']; simp [pk]
    · have ht : (pack (cs[c + 1].ms.take 1)).length = ([] : List Int).length + 2 + cs[c + 1].ms[0].length := by
        rw [List.take_succ_eq_append_getElem h0, pack_snoc, List.length_append, len_pk, List.take_zero]
        simp [pack]
        omega
      rw [h3, hms1, ht]
      rfl
end
end Go.Proofs.Qxb6613772a
