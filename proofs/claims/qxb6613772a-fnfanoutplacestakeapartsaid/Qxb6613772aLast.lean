import Derived.Test.Qxb6613772aTrim
namespace Go.Proofs.Qxb6613772a
open Go.RowKit
set_option linter.unusedVariables false

section
variable {w : World} {B F : Nat} {cs : List Chunk} {base put : Nat} {cv : Value} {go : Option Nat} {pv : Value} {gp : Option Nat} {ps : List Nat}
set_option maxHeartbeats 400000 in
/-- The last chunk. -/
theorem last38 (h : FAt w B F cs base put cv go pv gp ps) (hb : base < cs.length) (hcs : cs.length ≤ 1048576) :
    Calls Try.prog 38 #[.pointer (some ⟨F, 0, none⟩)] w fun e w' => e = .returned (cs[cs.length - 1].v) ∧ Below w.heap.size w w' := by
  obtain ⟨G, o, capv, hgo, hcv, _, hcell⟩ := h.hdr hb
  have d1 : w.cell? ⟨F, 1, none⟩ = some cv := cell_of_row _ _ _ _ _ _ h.row
  rw [hcv] at d1
  have g1 := hcell (cs.length - 1) (by omega) (by omega)
  generalize cs[cs.length - 1] = cl at g1 ⊢
  have hN : cs.length - 1 - base = cs.length - base - 1 := by omega
  rw [hN] at g1
  have hN1 : 0 < cs.length - base := by omega
  have hN2 : cs.length - base ≤ 1048576 := by omega
  clear hcell hgo hcv hN
  generalize cs.length - base = N at *
  have i1 : (N : Int) - 1 = ((N - 1 : Nat) : Int) := by omega
  have i2 : ((N - 1 : Nat) : Int) < (N : Int) := by omega
  unfold Chunk.v at g1 ⊢
  go_enter Try.func38, Try.ntmps38
  go_wp2
  go_quiet (fail)
  go_wp2
  go_ret
  exact ⟨rfl, below_drewN (Below.refl _ _) _⟩
end

end Go.Proofs.Qxb6613772a
