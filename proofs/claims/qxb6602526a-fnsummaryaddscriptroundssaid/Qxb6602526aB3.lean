import Derived.Test.Qxb6602526aB2
import Derived.Test.Qxb6602526aRegP
import Derived.Test.Qxb6602526aA4
namespace Go.Proofs.Qxb6602526a
open Go.RowKit
set_option linter.unusedSimpArgs false
set_option linter.unusedVariables false

/-- The Summary that the law begins with. -/
def sum0 (m drb : Nat) : SumS := { m := m, inst := 0, zero := 0, one := 0, err := 0, pend := 0, dis := 0, inv := none, ei := 0, mean := none, drb := drb, drn := m, rmax := none, smax := none }
theorem sum0_one (m drb : Nat) : (sum0 m drb).arr.all (·.oneCell') = true := by simp [sum0, SumS.arr, Value.oneCell']

theorem r22_i0 : (regOps (nthC 13 (bodyC Try.f3)))[0]? = some (regOp (nthC 13 (bodyC Try.f3)) 0) := by kernel_rfl
theorem r22_d0 : (regOp (nthC 13 (bodyC Try.f3)) 0).dst = some 125 := by kernel_rfl
theorem r22_g0 : (regOp (nthC 13 (bodyC Try.f3)) 0).guard = none := by kernel_rfl
theorem r22_o0 : (regOp (nthC 13 (bodyC Try.f3)) 0).op = Op.move (.tmp 0) := by kernel_rfl
theorem r22_i1 : (regOps (nthC 13 (bodyC Try.f3)))[1]? = some (regOp (nthC 13 (bodyC Try.f3)) 1) := by kernel_rfl
theorem r22_d1 : (regOp (nthC 13 (bodyC Try.f3)) 1).dst = some 126 := by kernel_rfl
theorem r22_g1 : (regOp (nthC 13 (bodyC Try.f3)) 1).guard = none := by kernel_rfl
theorem r22_o1 : (regOp (nthC 13 (bodyC Try.f3)) 1).op = Op.move (.tmp 0) := by kernel_rfl
theorem r22_i2 : (regOps (nthC 13 (bodyC Try.f3)))[2]? = some (regOp (nthC 13 (bodyC Try.f3)) 2) := by kernel_rfl
theorem r22_d2 : (regOp (nthC 13 (bodyC Try.f3)) 2).dst = some 127 := by kernel_rfl
theorem r22_g2 : (regOp (nthC 13 (bodyC Try.f3)) 2).guard = none := by kernel_rfl
theorem r22_o2 : (regOp (nthC 13 (bodyC Try.f3)) 2).op = Op.convert 22 3 (.tmp 126) := by kernel_rfl
theorem r22_i3 : (regOps (nthC 13 (bodyC Try.f3)))[3]? = some (regOp (nthC 13 (bodyC Try.f3)) 3) := by kernel_rfl
theorem r22_d3 : (regOp (nthC 13 (bodyC Try.f3)) 3).dst = some 128 := by kernel_rfl
theorem r22_g3 : (regOp (nthC 13 (bodyC Try.f3)) 3).guard = none := by kernel_rfl
theorem r22_o3 : (regOp (nthC 13 (bodyC Try.f3)) 3).op = Op.makeSlice 30 (.tmp 127) (.tmp 127) := by kernel_rfl
theorem r22_i4 : (regOps (nthC 13 (bodyC Try.f3)))[4]? = some (regOp (nthC 13 (bodyC Try.f3)) 4) := by kernel_rfl
theorem r22_d4 : (regOp (nthC 13 (bodyC Try.f3)) 4).dst = some 129 := by kernel_rfl
theorem r22_g4 : (regOp (nthC 13 (bodyC Try.f3)) 4).guard = none := by kernel_rfl
theorem r22_o4 : (regOp (nthC 13 (bodyC Try.f3)) 4).op = Op.build 41 #[(2, .tmp 125), (11, .tmp 128)] := by kernel_rfl
theorem r22_i5 : (regOps (nthC 13 (bodyC Try.f3)))[5]? = some (regOp (nthC 13 (bodyC Try.f3)) 5) := by kernel_rfl
theorem r22_d5 : (regOp (nthC 13 (bodyC Try.f3)) 5).dst = some 15 := by kernel_rfl
theorem r22_g5 : (regOp (nthC 13 (bodyC Try.f3)) 5).guard = none := by kernel_rfl
theorem r22_o5 : (regOp (nthC 13 (bodyC Try.f3)) 5).op = Op.alloc 41 := by kernel_rfl
theorem r22_i6 : (regOps (nthC 13 (bodyC Try.f3)))[6]? = some (regOp (nthC 13 (bodyC Try.f3)) 6) := by kernel_rfl
theorem r22_d6 : (regOp (nthC 13 (bodyC Try.f3)) 6).dst = none := by kernel_rfl
theorem r22_g6 : (regOp (nthC 13 (bodyC Try.f3)) 6).guard = none := by kernel_rfl
theorem r22_o6 : (regOp (nthC 13 (bodyC Try.f3)) 6).op = Op.store 41 (.tmp 15) (.tmp 129) := by kernel_rfl

set_option maxRecDepth 10000 in
set_option maxHeartbeats 1000000 in
/-- the Summary is built -/
theorem l3_13 (m K : Nat) (x1 x2 x3 x4 x5 : Option Addr) (a : Act) (w : World) (Q : Exit → Act → World → Prop) (hfr : Fr 285 a) (hs : Slots [(0, .int .u32 (m : Nat)), (1, .slice x1 K K), (2, .slice x2 K K), (3, .slice x3 K K), (4, .slice x4 K K), (5, .slice x5 K K), (13, .int .i64 (K : Nat))] a)
    (lm : m ≤ 65536) (hQ : ∀ a' w', Fr 285 a' → Slots [(0, .int .u32 (m : Nat)), (1, .slice x1 K K), (2, .slice x2 K K), (3, .slice x3 K K), (4, .slice x4 K K), (5, .slice x5 K K), (13, .int .i64 (K : Nat)), (15, .pointer (some ⟨w.heap.size + 1, 0, none⟩))] a' → Kept [] w w' → w'.heap.size = w.heap.size + 2 → IsB w' (w.heap.size + 1) (sum0 m w.heap.size).arr 41 → IsB w' w.heap.size (madeCells #[.int .u64 0] m) 31 → Q .normal a' w') :
    Code.wp Try.prog (nthC 13 (bodyC Try.f3)) Q a w := by
  obtain ⟨t0, t1, t2, t3, t4, t5, t13, -⟩ := hs
  replace t0 : a.tmps[0]?.getD undef = .int .u32 (m : Nat) := (sl_at a 0).symm.trans t0
  replace t1 : a.tmps[1]?.getD undef = .slice x1 K K := (sl_at a 1).symm.trans t1
  replace t2 : a.tmps[2]?.getD undef = .slice x2 K K := (sl_at a 2).symm.trans t2
  replace t3 : a.tmps[3]?.getD undef = .slice x3 K K := (sl_at a 3).symm.trans t3
  replace t4 : a.tmps[4]?.getD undef = .slice x4 K K := (sl_at a 4).symm.trans t4
  replace t5 : a.tmps[5]?.getD undef = .slice x5 K K := (sl_at a 5).symm.trans t5
  replace t13 : a.tmps[13]?.getD undef = .int .i64 (K : Nat) := (sl_at a 13).symm.trans t13
  have hmk := fun wx => run_mk (P := Try.prog) 30 31 (.int .u64 0) 1 8 (by exact Try.underlying30) Try.info31 m (by omega) (by omega) wx
  refine wp_navP [0, 1, 2, 3, 4, 5, 6] (by kernel_rfl) (by kernel_rfl) ?_
  refine pl1 0 125 _ (.int .u32 (m : Nat)) w r22_i0 r22_d0 (by decide) r22_g0 hfr ?_ ?_
  · simp only [execOp, r22_o0]; go_simp
  intro a0 fr0 t125 ho
  replace t0 := (ho 0 (by decide)).trans t0
  replace t1 := (ho 1 (by decide)).trans t1
  replace t2 := (ho 2 (by decide)).trans t2
  replace t3 := (ho 3 (by decide)).trans t3
  replace t4 := (ho 4 (by decide)).trans t4
  replace t5 := (ho 5 (by decide)).trans t5
  replace t13 := (ho 13 (by decide)).trans t13
  clear hfr ho
  refine pl1 1 126 _ (.int .u32 (m : Nat)) w r22_i1 r22_d1 (by decide) r22_g1 fr0 ?_ ?_
  · simp only [execOp, r22_o1]; go_simp
  intro a1 fr1 t126 ho
  replace t0 := (ho 0 (by decide)).trans t0
  replace t1 := (ho 1 (by decide)).trans t1
  replace t2 := (ho 2 (by decide)).trans t2
  replace t3 := (ho 3 (by decide)).trans t3
  replace t4 := (ho 4 (by decide)).trans t4
  replace t5 := (ho 5 (by decide)).trans t5
  replace t13 := (ho 13 (by decide)).trans t13
  replace t125 := (ho 125 (by decide)).trans t125
  clear fr0 ho
  refine pl1 2 127 _ (.int .i64 (m : Nat)) w r22_i2 r22_d2 (by decide) r22_g2 fr1 ?_ ?_
  · simp only [execOp, r22_o2]; go_simp; rw [IntKind.wrap_i64]; omega
  intro a2 fr2 t127 ho
  replace t0 := (ho 0 (by decide)).trans t0
  replace t1 := (ho 1 (by decide)).trans t1
  replace t2 := (ho 2 (by decide)).trans t2
  replace t3 := (ho 3 (by decide)).trans t3
  replace t4 := (ho 4 (by decide)).trans t4
  replace t5 := (ho 5 (by decide)).trans t5
  replace t13 := (ho 13 (by decide)).trans t13
  replace t125 := (ho 125 (by decide)).trans t125
  replace t126 := (ho 126 (by decide)).trans t126
  clear fr1 ho
  have e1 : (w.alloc (.cells (madeCells #[.int .u64 0] m) 31)).heap.size = w.heap.size + 1 := by simp
  refine pl1 3 128 _ (.slice (some ⟨w.heap.size, 0, none⟩) m m) (w.alloc (.cells (madeCells #[.int .u64 0] m) 31)) r22_i3 r22_d3 (by decide) r22_g3 fr2 ?_ ?_
  · simp only [execOp, r22_o3]; go_simp
  intro a3 fr3 t128 ho
  replace t0 := (ho 0 (by decide)).trans t0
  replace t1 := (ho 1 (by decide)).trans t1
  replace t2 := (ho 2 (by decide)).trans t2
  replace t3 := (ho 3 (by decide)).trans t3
  replace t4 := (ho 4 (by decide)).trans t4
  replace t5 := (ho 5 (by decide)).trans t5
  replace t13 := (ho 13 (by decide)).trans t13
  replace t125 := (ho 125 (by decide)).trans t125
  replace t126 := (ho 126 (by decide)).trans t126
  replace t127 := (ho 127 (by decide)).trans t127
  clear fr2 ho
  refine pl1 4 129 _ (.agg (sum0 m w.heap.size).arr) (w.alloc (.cells (madeCells #[.int .u64 0] m) 31)) r22_i4 r22_d4 (by decide) r22_g4 fr3 ?_ ?_
  · simp only [execOp, r22_o4, sum0, SumS.arr]; go_simp
  intro a4 fr4 t129 ho
  replace t0 := (ho 0 (by decide)).trans t0
  replace t1 := (ho 1 (by decide)).trans t1
  replace t2 := (ho 2 (by decide)).trans t2
  replace t3 := (ho 3 (by decide)).trans t3
  replace t4 := (ho 4 (by decide)).trans t4
  replace t5 := (ho 5 (by decide)).trans t5
  replace t13 := (ho 13 (by decide)).trans t13
  replace t125 := (ho 125 (by decide)).trans t125
  replace t126 := (ho 126 (by decide)).trans t126
  replace t127 := (ho 127 (by decide)).trans t127
  replace t128 := (ho 128 (by decide)).trans t128
  clear fr3 ho
  refine pl1 5 15 _ (.pointer (some ⟨w.heap.size + 1, 0, none⟩)) ((w.alloc (.cells (madeCells #[.int .u64 0] m) 31)).alloc (.cells zeroS 41)) r22_i5 r22_d5 (by decide) r22_g5 fr4 ?_ ?_
  · simp only [execOp, r22_o5, Sem.run_bind, run_alloc41, e1]; rfl
  intro a5 fr5 t15 ho
  replace t0 := (ho 0 (by decide)).trans t0
  replace t1 := (ho 1 (by decide)).trans t1
  replace t2 := (ho 2 (by decide)).trans t2
  replace t3 := (ho 3 (by decide)).trans t3
  replace t4 := (ho 4 (by decide)).trans t4
  replace t5 := (ho 5 (by decide)).trans t5
  replace t13 := (ho 13 (by decide)).trans t13
  replace t125 := (ho 125 (by decide)).trans t125
  replace t126 := (ho 126 (by decide)).trans t126
  replace t127 := (ho 127 (by decide)).trans t127
  replace t128 := (ho 128 (by decide)).trans t128
  replace t129 := (ho 129 (by decide)).trans t129
  clear fr4 ho
  have hB : IsB ((w.alloc (.cells (madeCells #[.int .u64 0] m) 31)).alloc (.cells zeroS 41)) (w.heap.size + 1) zeroS 41 := by rw [← e1]; exact IsB.new _ _ _
  refine pl0 6 _ (((w.alloc (.cells (madeCells #[.int .u64 0] m) 31)).alloc (.cells zeroS 41)).setRow (w.heap.size + 1) (sum0 m w.heap.size).arr) r22_i6 r22_d6 r22_g6 (exec_store r22_o6 ((sl_at _ _).trans t15) ((sl_at _ _).trans t129) (run_store_row hB Try.size41 rfl (sum0_one _ _))) ?_
  refine hQ _ _ fr5 ⟨(sl_at _ _).trans t0, (sl_at _ _).trans t1, (sl_at _ _).trans t2, (sl_at _ _).trans t3, (sl_at _ _).trans t4, (sl_at _ _).trans t5, (sl_at _ _).trans t13, (sl_at _ _).trans t15, trivial⟩ ?_ (by simp) (hB.row _) ?_
  · exact (((Kept.refl _ _).alloc _).alloc _).row _ _ (.inr (by omega))
  · exact ((IsB.new w _ _).alloc _).row_off _ (by omega)

end Go.Proofs.Qxb6602526a
