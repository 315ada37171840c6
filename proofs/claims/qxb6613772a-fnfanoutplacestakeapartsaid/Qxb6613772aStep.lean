import Derived.Test.Qxb6613772aLast
import Derived.Deep.RegionLaw
import Derived.Deep.RegionWith
namespace Go.Proofs.Qxb6613772a
open Go.RowKit
set_option linter.unusedVariables false

/-- append onto a slice of the call's own, as a step of a region that draws. -/
theorem step_append_at {ops : Array Oper} {o : Oper} {a : Act} {w : World} {K : Act → World → Prop} {Q : Exit → Act → World → Prop} {E : Prop} (hg : o.guard = none) (s x : Operand)
    (hop : o.op = Op.call { callee := Callee.builtin Builtin.append, args := #[s, x], argTypes := #[22, 22] })
    (i : TypeInfo) (z : Value) (hi : Try.prog.info? 29 = some i) (hz : i.zero = some z) (hsz : i.size = 1) (hby : i.bytes = 24) (hzs : z.cells.size = 1)
    (v : Value) (go : Option Nat) (xs : List Value) (hv : a.eval s = v) (hown : Own w 29 v go xs) (ad : Addr) (m c : Nat) (news : List Value) (hx : a.eval x = .slice (some ad) m c) (hl : news.length = m) (hm : 0 < m)
    (hnews : ∀ j u, news[j]? = some u → w.cell? (ad.add j) = some u) (h1 : ∀ u ∈ news, u.oneCell' = true) (hbytes : (xs.length + m) * 24 ≤ 140737488355328) (h63 : xs.length + m ≤ 9223372036854775807)
    (hK : ∀ g' off' cap' w', Own w' 29 (.slice (some ⟨g', off', none⟩) (xs.length + m) cap') (some g') (xs ++ news) → w.grownBy w' go → (some g' = go ∨ g' = w.heap.size) → K (a.put o.dst (.slice (some ⟨g', off', none⟩) (xs.length + m) cap')) w') :
    if Region.wanted o (yielded ops a.tmps) = true then Oper.wp Try.prog o a w K Q else E := by
  have hw : Region.wanted o (yielded ops a.tmps) = true := by simp [Region.wanted, hg]
  rw [if_pos hw]
  obtain ⟨g', off', cap', w', hr, h2, h3, h4⟩ := run_append_at (P := Try.prog) w 22 o.type 29 i z 24 Try.underlying22 hi hz hsz hby hzs v go xs hown ad m c news hl hm hnews h1 hbytes h63
  unfold Oper.wp
  simp [execOp, hop, resolve, invoke, builtin, hv, hx, hr, Result.andThen]
  exact hK g' off' cap' w' h2 h3 h4

/-- make([]byte, 0, c). -/
theorem make_bytes (c : Nat) (hc : c ≤ 4294967296) : ∃ Z : Array Value, Z.size = c ∧ ∀ w : World, (Instr.makeSlice 29 (.int .i64 0) (.int .i64 (c : Int))).run Try.prog w = .ok (.slice (some ⟨w.heap.size, 0, none⟩) 0 c) (w.alloc (.cells Z 5)) := by
  obtain ⟨i, hi, hz0, hz1, hz2⟩ := info_parts info5
  refine ⟨madeCells (Value.int IntKind.u8 0).cells (c * i.size), by rw [hz1, Nat.mul_one]; exact size_madeCells _ _, fun w => ?_⟩
  have hr := run_make (P := Try.prog) w 29 5 i _ Try.underlying29 hi hz0 .i64 .i64 0 c (Int.le_refl _) (by omega) (by rw [hz2]; omega) (by omega)
  simp only [Int.toNat_zero, Int.toNat_natCast] at hr
  exact hr
/-- max of two ints, as a step of a region that draws. -/
theorem step_max {ops : Array Oper} {o : Oper} {a : Act} {w : World} {K : Act → World → Prop} {Q : Exit → Act → World → Prop} {E : Prop} (hg : o.guard = none) (s x : Operand)
    (hop : o.op = Op.call { callee := Callee.builtin Builtin.max, args := #[s, x], argTypes := #[3, 3] }) (p q r : Int) (hs : a.eval s = .int .i64 p) (hx : a.eval x = .int .i64 q) (hr : max p q = r)
    (hK : K (a.put o.dst (.int .i64 r)) w) :
    if Region.wanted o (yielded ops a.tmps) = true then Oper.wp Try.prog o a w K Q else E := by
  have hw : Region.wanted o (yielded ops a.tmps) = true := by simp [Region.wanted, hg]
  rw [if_pos hw]
  subst hr
  unfold Oper.wp
  have hm : (Builtin.max2 (.int .i64 p) (.int .i64 q)).run Try.prog w = .ok (.int .i64 (max p q)) w := by
    by_cases hpq : p < q
    · simp [Builtin.max2, hpq, show max p q = q by omega]
    · simp [Builtin.max2, hpq, show max p q = p by omega]
  simp [execOp, hop, resolve, invoke, builtin, hs, hx, Result.andThen, Builtin.max_, hm]
  exact hK
end Go.Proofs.Qxb6613772a
