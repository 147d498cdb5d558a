import Derived.Test.Qxb6602526aA3
import Derived.Test.Qxb6602526aCopy2
import Derived.Test.Qxb6602526aReg
namespace Go.Proofs.Qxb6602526a
open Go.RowKit
set_option linter.unusedSimpArgs false
set_option linter.unusedVariables false

theorem IsB.new' {w : World} {b : Nat} (c : Array Value) (t : TypeId) (h : b = w.heap.size) : IsB (w.alloc (.cells c t)) b c t := h ▸ IsB.new w c t

/-- The cells of a SumCase. -/
def priorA (p0 p1 p2 p3 p4 p5 p6 : Int) (p7 : Bool) (p8 : Int) : Array Value := #[.int .u64 p0, .int .u64 p1, .int .u64 p2, .int .u64 p3, .int .u64 p4, .int .u64 p5, .int .u64 p6, .bool p7, .int .u64 p8]

/-- The Summary that the law builds. -/
def sumOf (p0 p1 p2 p3 p4 p5 p6 : Int) (inv : Option Addr) (drb drn : Nat) : SumS :=
  { m := 0, inst := p0, zero := p1, one := p2, err := p3, pend := p4, dis := p5, inv := inv, ei := p6, mean := none, drb := drb, drn := drn, rmax := none, smax := none }

theorem r47_s : Region.noSelect (regOps (nthC 14 (bodyC Try.f8))) = true := by kernel_rfl
theorem r47_i0 : (regOps (nthC 14 (bodyC Try.f8)))[0]? = some (regOp (nthC 14 (bodyC Try.f8)) 0) := by kernel_rfl
theorem r47_d0 : (regOp (nthC 14 (bodyC Try.f8)) 0).dst = some 147 := by kernel_rfl
theorem r47_g0 : (regOp (nthC 14 (bodyC Try.f8)) 0).guard = none := by kernel_rfl
theorem r47_o0 : (regOp (nthC 14 (bodyC Try.f8)) 0).op = Op.fieldAddr 78 (.tmp 3) 0 := by kernel_rfl
theorem r47_i1 : (regOps (nthC 14 (bodyC Try.f8)))[1]? = some (regOp (nthC 14 (bodyC Try.f8)) 1) := by kernel_rfl
theorem r47_d1 : (regOp (nthC 14 (bodyC Try.f8)) 1).dst = some 148 := by kernel_rfl
theorem r47_g1 : (regOp (nthC 14 (bodyC Try.f8)) 1).guard = none := by kernel_rfl
theorem r47_o1 : (regOp (nthC 14 (bodyC Try.f8)) 1).op = Op.load 31 (.tmp 147) := by kernel_rfl
theorem r47_i2 : (regOps (nthC 14 (bodyC Try.f8)))[2]? = some (regOp (nthC 14 (bodyC Try.f8)) 2) := by kernel_rfl
theorem r47_d2 : (regOp (nthC 14 (bodyC Try.f8)) 2).dst = some 149 := by kernel_rfl
theorem r47_g2 : (regOp (nthC 14 (bodyC Try.f8)) 2).guard = none := by kernel_rfl
theorem r47_o2 : (regOp (nthC 14 (bodyC Try.f8)) 2).op = Op.fieldAddr 78 (.tmp 3) 1 := by kernel_rfl
theorem r47_i3 : (regOps (nthC 14 (bodyC Try.f8)))[3]? = some (regOp (nthC 14 (bodyC Try.f8)) 3) := by kernel_rfl
theorem r47_d3 : (regOp (nthC 14 (bodyC Try.f8)) 3).dst = some 150 := by kernel_rfl
theorem r47_g3 : (regOp (nthC 14 (bodyC Try.f8)) 3).guard = none := by kernel_rfl
theorem r47_o3 : (regOp (nthC 14 (bodyC Try.f8)) 3).op = Op.load 31 (.tmp 149) := by kernel_rfl
theorem r47_i4 : (regOps (nthC 14 (bodyC Try.f8)))[4]? = some (regOp (nthC 14 (bodyC Try.f8)) 4) := by kernel_rfl
theorem r47_d4 : (regOp (nthC 14 (bodyC Try.f8)) 4).dst = some 151 := by kernel_rfl
theorem r47_g4 : (regOp (nthC 14 (bodyC Try.f8)) 4).guard = none := by kernel_rfl
theorem r47_o4 : (regOp (nthC 14 (bodyC Try.f8)) 4).op = Op.fieldAddr 78 (.tmp 3) 2 := by kernel_rfl
theorem r47_i5 : (regOps (nthC 14 (bodyC Try.f8)))[5]? = some (regOp (nthC 14 (bodyC Try.f8)) 5) := by kernel_rfl
theorem r47_d5 : (regOp (nthC 14 (bodyC Try.f8)) 5).dst = some 152 := by kernel_rfl
theorem r47_g5 : (regOp (nthC 14 (bodyC Try.f8)) 5).guard = none := by kernel_rfl
theorem r47_o5 : (regOp (nthC 14 (bodyC Try.f8)) 5).op = Op.load 31 (.tmp 151) := by kernel_rfl
theorem r47_i6 : (regOps (nthC 14 (bodyC Try.f8)))[6]? = some (regOp (nthC 14 (bodyC Try.f8)) 6) := by kernel_rfl
theorem r47_d6 : (regOp (nthC 14 (bodyC Try.f8)) 6).dst = some 153 := by kernel_rfl
theorem r47_g6 : (regOp (nthC 14 (bodyC Try.f8)) 6).guard = none := by kernel_rfl
theorem r47_o6 : (regOp (nthC 14 (bodyC Try.f8)) 6).op = Op.fieldAddr 78 (.tmp 3) 3 := by kernel_rfl
theorem r47_i7 : (regOps (nthC 14 (bodyC Try.f8)))[7]? = some (regOp (nthC 14 (bodyC Try.f8)) 7) := by kernel_rfl
theorem r47_d7 : (regOp (nthC 14 (bodyC Try.f8)) 7).dst = some 154 := by kernel_rfl
theorem r47_g7 : (regOp (nthC 14 (bodyC Try.f8)) 7).guard = none := by kernel_rfl
theorem r47_o7 : (regOp (nthC 14 (bodyC Try.f8)) 7).op = Op.load 31 (.tmp 153) := by kernel_rfl
theorem r47_i8 : (regOps (nthC 14 (bodyC Try.f8)))[8]? = some (regOp (nthC 14 (bodyC Try.f8)) 8) := by kernel_rfl
theorem r47_d8 : (regOp (nthC 14 (bodyC Try.f8)) 8).dst = some 155 := by kernel_rfl
theorem r47_g8 : (regOp (nthC 14 (bodyC Try.f8)) 8).guard = none := by kernel_rfl
theorem r47_o8 : (regOp (nthC 14 (bodyC Try.f8)) 8).op = Op.fieldAddr 78 (.tmp 3) 4 := by kernel_rfl
theorem r47_i9 : (regOps (nthC 14 (bodyC Try.f8)))[9]? = some (regOp (nthC 14 (bodyC Try.f8)) 9) := by kernel_rfl
theorem r47_d9 : (regOp (nthC 14 (bodyC Try.f8)) 9).dst = some 156 := by kernel_rfl
theorem r47_g9 : (regOp (nthC 14 (bodyC Try.f8)) 9).guard = none := by kernel_rfl
theorem r47_o9 : (regOp (nthC 14 (bodyC Try.f8)) 9).op = Op.load 31 (.tmp 155) := by kernel_rfl
theorem r47_i10 : (regOps (nthC 14 (bodyC Try.f8)))[10]? = some (regOp (nthC 14 (bodyC Try.f8)) 10) := by kernel_rfl
theorem r47_d10 : (regOp (nthC 14 (bodyC Try.f8)) 10).dst = some 157 := by kernel_rfl
theorem r47_g10 : (regOp (nthC 14 (bodyC Try.f8)) 10).guard = none := by kernel_rfl
theorem r47_o10 : (regOp (nthC 14 (bodyC Try.f8)) 10).op = Op.build 33 #[(0, .tmp 150), (1, .tmp 152), (2, .tmp 154), (3, .tmp 156)] := by kernel_rfl
theorem r47_i11 : (regOps (nthC 14 (bodyC Try.f8)))[11]? = some (regOp (nthC 14 (bodyC Try.f8)) 11) := by kernel_rfl
theorem r47_d11 : (regOp (nthC 14 (bodyC Try.f8)) 11).dst = some 158 := by kernel_rfl
theorem r47_g11 : (regOp (nthC 14 (bodyC Try.f8)) 11).guard = none := by kernel_rfl
theorem r47_o11 : (regOp (nthC 14 (bodyC Try.f8)) 11).op = Op.fieldAddr 78 (.tmp 3) 5 := by kernel_rfl
theorem r47_i12 : (regOps (nthC 14 (bodyC Try.f8)))[12]? = some (regOp (nthC 14 (bodyC Try.f8)) 12) := by kernel_rfl
theorem r47_d12 : (regOp (nthC 14 (bodyC Try.f8)) 12).dst = some 159 := by kernel_rfl
theorem r47_g12 : (regOp (nthC 14 (bodyC Try.f8)) 12).guard = none := by kernel_rfl
theorem r47_o12 : (regOp (nthC 14 (bodyC Try.f8)) 12).op = Op.load 31 (.tmp 158) := by kernel_rfl
theorem r47_i13 : (regOps (nthC 14 (bodyC Try.f8)))[13]? = some (regOp (nthC 14 (bodyC Try.f8)) 13) := by kernel_rfl
theorem r47_d13 : (regOp (nthC 14 (bodyC Try.f8)) 13).dst = some 160 := by kernel_rfl
theorem r47_g13 : (regOp (nthC 14 (bodyC Try.f8)) 13).guard = none := by kernel_rfl
theorem r47_o13 : (regOp (nthC 14 (bodyC Try.f8)) 13).op = Op.fieldAddr 78 (.tmp 3) 6 := by kernel_rfl
theorem r47_i14 : (regOps (nthC 14 (bodyC Try.f8)))[14]? = some (regOp (nthC 14 (bodyC Try.f8)) 14) := by kernel_rfl
theorem r47_d14 : (regOp (nthC 14 (bodyC Try.f8)) 14).dst = some 161 := by kernel_rfl
theorem r47_g14 : (regOp (nthC 14 (bodyC Try.f8)) 14).guard = none := by kernel_rfl
theorem r47_o14 : (regOp (nthC 14 (bodyC Try.f8)) 14).op = Op.load 31 (.tmp 160) := by kernel_rfl
theorem r47_i15 : (regOps (nthC 14 (bodyC Try.f8)))[15]? = some (regOp (nthC 14 (bodyC Try.f8)) 15) := by kernel_rfl
theorem r47_d15 : (regOp (nthC 14 (bodyC Try.f8)) 15).dst = some 162 := by kernel_rfl
theorem r47_g15 : (regOp (nthC 14 (bodyC Try.f8)) 15).guard = none := by kernel_rfl
theorem r47_o15 : (regOp (nthC 14 (bodyC Try.f8)) 15).op = Op.move (.tmp 2) := by kernel_rfl
theorem r47_i16 : (regOps (nthC 14 (bodyC Try.f8)))[16]? = some (regOp (nthC 14 (bodyC Try.f8)) 16) := by kernel_rfl
theorem r47_d16 : (regOp (nthC 14 (bodyC Try.f8)) 16).dst = some 163 := by kernel_rfl
theorem r47_g16 : (regOp (nthC 14 (bodyC Try.f8)) 16).guard = none := by kernel_rfl
theorem r47_o16 : (regOp (nthC 14 (bodyC Try.f8)) 16).op = Op.call { callee := .builtin .len, args := #[.tmp 162], argTypes := #[23] } := by kernel_rfl
theorem r47_i17 : (regOps (nthC 14 (bodyC Try.f8)))[17]? = some (regOp (nthC 14 (bodyC Try.f8)) 17) := by kernel_rfl
theorem r47_d17 : (regOp (nthC 14 (bodyC Try.f8)) 17).dst = some 164 := by kernel_rfl
theorem r47_g17 : (regOp (nthC 14 (bodyC Try.f8)) 17).guard = none := by kernel_rfl
theorem r47_o17 : (regOp (nthC 14 (bodyC Try.f8)) 17).op = Op.makeSlice 30 (.tmp 163) (.tmp 163) := by kernel_rfl
theorem r47_i18 : (regOps (nthC 14 (bodyC Try.f8)))[18]? = some (regOp (nthC 14 (bodyC Try.f8)) 18) := by kernel_rfl
theorem r47_d18 : (regOp (nthC 14 (bodyC Try.f8)) 18).dst = some 165 := by kernel_rfl
theorem r47_g18 : (regOp (nthC 14 (bodyC Try.f8)) 18).guard = none := by kernel_rfl
theorem r47_o18 : (regOp (nthC 14 (bodyC Try.f8)) 18).op = Op.build 41 #[(5, .tmp 148), (6, .tmp 157), (7, .tmp 159), (9, .tmp 161), (11, .tmp 164)] := by kernel_rfl
theorem r47_i19 : (regOps (nthC 14 (bodyC Try.f8)))[19]? = some (regOp (nthC 14 (bodyC Try.f8)) 19) := by kernel_rfl
theorem r47_d19 : (regOp (nthC 14 (bodyC Try.f8)) 19).dst = some 20 := by kernel_rfl
theorem r47_g19 : (regOp (nthC 14 (bodyC Try.f8)) 19).guard = none := by kernel_rfl
theorem r47_o19 : (regOp (nthC 14 (bodyC Try.f8)) 19).op = Op.alloc 41 := by kernel_rfl
theorem r47_i20 : (regOps (nthC 14 (bodyC Try.f8)))[20]? = some (regOp (nthC 14 (bodyC Try.f8)) 20) := by kernel_rfl
theorem r47_d20 : (regOp (nthC 14 (bodyC Try.f8)) 20).dst = none := by kernel_rfl
theorem r47_g20 : (regOp (nthC 14 (bodyC Try.f8)) 20).guard = none := by kernel_rfl
theorem r47_o20 : (regOp (nthC 14 (bodyC Try.f8)) 20).op = Op.store 41 (.tmp 20) (.tmp 165) := by kernel_rfl
theorem r47_f0 : Region.free .any (regOps (nthC 14 (bodyC Try.f8))) #[false, false, false, false, false, false, false, false, false, false, false, false, false, false, false, false, false, false, false, false, false] 0 = true := by kernel_rfl
theorem r47_r0 : (Region.ready .any (regOps (nthC 14 (bodyC Try.f8))) #[false, false, false, false, false, false, false, false, false, false, false, false, false, false, false, false, false, false, false, false, false]).contains 0 = true := by kernel_rfl
theorem r47_f1 : Region.free .any (regOps (nthC 14 (bodyC Try.f8))) #[true, false, false, false, false, false, false, false, false, false, false, false, false, false, false, false, false, false, false, false, false] 1 = true := by kernel_rfl
theorem r47_r1 : (Region.ready .any (regOps (nthC 14 (bodyC Try.f8))) #[true, false, false, false, false, false, false, false, false, false, false, false, false, false, false, false, false, false, false, false, false]).contains 1 = true := by kernel_rfl
theorem r47_f2 : Region.free .any (regOps (nthC 14 (bodyC Try.f8))) #[true, true, false, false, false, false, false, false, false, false, false, false, false, false, false, false, false, false, false, false, false] 2 = true := by kernel_rfl
theorem r47_r2 : (Region.ready .any (regOps (nthC 14 (bodyC Try.f8))) #[true, true, false, false, false, false, false, false, false, false, false, false, false, false, false, false, false, false, false, false, false]).contains 2 = true := by kernel_rfl
theorem r47_f3 : Region.free .any (regOps (nthC 14 (bodyC Try.f8))) #[true, true, true, false, false, false, false, false, false, false, false, false, false, false, false, false, false, false, false, false, false] 3 = true := by kernel_rfl
theorem r47_r3 : (Region.ready .any (regOps (nthC 14 (bodyC Try.f8))) #[true, true, true, false, false, false, false, false, false, false, false, false, false, false, false, false, false, false, false, false, false]).contains 3 = true := by kernel_rfl
theorem r47_f4 : Region.free .any (regOps (nthC 14 (bodyC Try.f8))) #[true, true, true, true, false, false, false, false, false, false, false, false, false, false, false, false, false, false, false, false, false] 4 = true := by kernel_rfl
theorem r47_r4 : (Region.ready .any (regOps (nthC 14 (bodyC Try.f8))) #[true, true, true, true, false, false, false, false, false, false, false, false, false, false, false, false, false, false, false, false, false]).contains 4 = true := by kernel_rfl
theorem r47_f5 : Region.free .any (regOps (nthC 14 (bodyC Try.f8))) #[true, true, true, true, true, false, false, false, false, false, false, false, false, false, false, false, false, false, false, false, false] 5 = true := by kernel_rfl
theorem r47_r5 : (Region.ready .any (regOps (nthC 14 (bodyC Try.f8))) #[true, true, true, true, true, false, false, false, false, false, false, false, false, false, false, false, false, false, false, false, false]).contains 5 = true := by kernel_rfl
theorem r47_f6 : Region.free .any (regOps (nthC 14 (bodyC Try.f8))) #[true, true, true, true, true, true, false, false, false, false, false, false, false, false, false, false, false, false, false, false, false] 6 = true := by kernel_rfl
theorem r47_r6 : (Region.ready .any (regOps (nthC 14 (bodyC Try.f8))) #[true, true, true, true, true, true, false, false, false, false, false, false, false, false, false, false, false, false, false, false, false]).contains 6 = true := by kernel_rfl
theorem r47_f7 : Region.free .any (regOps (nthC 14 (bodyC Try.f8))) #[true, true, true, true, true, true, true, false, false, false, false, false, false, false, false, false, false, false, false, false, false] 7 = true := by kernel_rfl
theorem r47_r7 : (Region.ready .any (regOps (nthC 14 (bodyC Try.f8))) #[true, true, true, true, true, true, true, false, false, false, false, false, false, false, false, false, false, false, false, false, false]).contains 7 = true := by kernel_rfl
theorem r47_f8 : Region.free .any (regOps (nthC 14 (bodyC Try.f8))) #[true, true, true, true, true, true, true, true, false, false, false, false, false, false, false, false, false, false, false, false, false] 8 = true := by kernel_rfl
theorem r47_r8 : (Region.ready .any (regOps (nthC 14 (bodyC Try.f8))) #[true, true, true, true, true, true, true, true, false, false, false, false, false, false, false, false, false, false, false, false, false]).contains 8 = true := by kernel_rfl
theorem r47_f9 : Region.free .any (regOps (nthC 14 (bodyC Try.f8))) #[true, true, true, true, true, true, true, true, true, false, false, false, false, false, false, false, false, false, false, false, false] 9 = true := by kernel_rfl
theorem r47_r9 : (Region.ready .any (regOps (nthC 14 (bodyC Try.f8))) #[true, true, true, true, true, true, true, true, true, false, false, false, false, false, false, false, false, false, false, false, false]).contains 9 = true := by kernel_rfl
theorem r47_f10 : Region.free .any (regOps (nthC 14 (bodyC Try.f8))) #[true, true, true, true, true, true, true, true, true, true, false, false, false, false, false, false, false, false, false, false, false] 10 = true := by kernel_rfl
theorem r47_r10 : (Region.ready .any (regOps (nthC 14 (bodyC Try.f8))) #[true, true, true, true, true, true, true, true, true, true, false, false, false, false, false, false, false, false, false, false, false]).contains 10 = true := by kernel_rfl
theorem r47_f11 : Region.free .any (regOps (nthC 14 (bodyC Try.f8))) #[true, true, true, true, true, true, true, true, true, true, true, false, false, false, false, false, false, false, false, false, false] 11 = true := by kernel_rfl
theorem r47_r11 : (Region.ready .any (regOps (nthC 14 (bodyC Try.f8))) #[true, true, true, true, true, true, true, true, true, true, true, false, false, false, false, false, false, false, false, false, false]).contains 11 = true := by kernel_rfl
theorem r47_f12 : Region.free .any (regOps (nthC 14 (bodyC Try.f8))) #[true, true, true, true, true, true, true, true, true, true, true, true, false, false, false, false, false, false, false, false, false] 12 = true := by kernel_rfl
theorem r47_r12 : (Region.ready .any (regOps (nthC 14 (bodyC Try.f8))) #[true, true, true, true, true, true, true, true, true, true, true, true, false, false, false, false, false, false, false, false, false]).contains 12 = true := by kernel_rfl
theorem r47_f13 : Region.free .any (regOps (nthC 14 (bodyC Try.f8))) #[true, true, true, true, true, true, true, true, true, true, true, true, true, false, false, false, false, false, false, false, false] 13 = true := by kernel_rfl
theorem r47_r13 : (Region.ready .any (regOps (nthC 14 (bodyC Try.f8))) #[true, true, true, true, true, true, true, true, true, true, true, true, true, false, false, false, false, false, false, false, false]).contains 13 = true := by kernel_rfl
theorem r47_f14 : Region.free .any (regOps (nthC 14 (bodyC Try.f8))) #[true, true, true, true, true, true, true, true, true, true, true, true, true, true, false, false, false, false, false, false, false] 14 = true := by kernel_rfl
theorem r47_r14 : (Region.ready .any (regOps (nthC 14 (bodyC Try.f8))) #[true, true, true, true, true, true, true, true, true, true, true, true, true, true, false, false, false, false, false, false, false]).contains 14 = true := by kernel_rfl
theorem r47_f15 : Region.free .any (regOps (nthC 14 (bodyC Try.f8))) #[true, true, true, true, true, true, true, true, true, true, true, true, true, true, true, false, false, false, false, false, false] 15 = true := by kernel_rfl
theorem r47_r15 : (Region.ready .any (regOps (nthC 14 (bodyC Try.f8))) #[true, true, true, true, true, true, true, true, true, true, true, true, true, true, true, false, false, false, false, false, false]).contains 15 = true := by kernel_rfl
theorem r47_f16 : Region.free .any (regOps (nthC 14 (bodyC Try.f8))) #[true, true, true, true, true, true, true, true, true, true, true, true, true, true, true, true, false, false, false, false, false] 16 = true := by kernel_rfl
theorem r47_r16 : (Region.ready .any (regOps (nthC 14 (bodyC Try.f8))) #[true, true, true, true, true, true, true, true, true, true, true, true, true, true, true, true, false, false, false, false, false]).contains 16 = true := by kernel_rfl
theorem r47_b : Region.ready .any (regOps (nthC 14 (bodyC Try.f8))) #[true, true, true, true, true, true, true, true, true, true, true, true, true, true, true, true, true, false, false, false, false] = [17, 19] := by kernel_rfl
theorem r47_A1 : Region.ready .any (regOps (nthC 14 (bodyC Try.f8))) #[true, true, true, true, true, true, true, true, true, true, true, true, true, true, true, true, true, true, false, false, false] = [18, 19] := by kernel_rfl
theorem r47_A1f : Region.free .any (regOps (nthC 14 (bodyC Try.f8))) #[true, true, true, true, true, true, true, true, true, true, true, true, true, true, true, true, true, true, false, false, false] 18 = true := by kernel_rfl
theorem r47_A1r : (Region.ready .any (regOps (nthC 14 (bodyC Try.f8))) #[true, true, true, true, true, true, true, true, true, true, true, true, true, true, true, true, true, true, false, false, false]).contains 18 = true := by kernel_rfl
theorem r47_A2 : Region.ready .any (regOps (nthC 14 (bodyC Try.f8))) #[true, true, true, true, true, true, true, true, true, true, true, true, true, true, true, true, true, true, true, false, false] = [19] := by kernel_rfl
theorem r47_A3 : Region.ready .any (regOps (nthC 14 (bodyC Try.f8))) #[true, true, true, true, true, true, true, true, true, true, true, true, true, true, true, true, true, true, true, true, false] = [20] := by kernel_rfl
theorem r47_A4 : Region.ready .any (regOps (nthC 14 (bodyC Try.f8))) #[true, true, true, true, true, true, true, true, true, true, true, true, true, true, true, true, true, true, true, true, true] = [] := by kernel_rfl
theorem r47_B1 : Region.ready .any (regOps (nthC 14 (bodyC Try.f8))) #[true, true, true, true, true, true, true, true, true, true, true, true, true, true, true, true, true, false, false, true, false] = [17] := by kernel_rfl
theorem r47_B2f : Region.free .any (regOps (nthC 14 (bodyC Try.f8))) #[true, true, true, true, true, true, true, true, true, true, true, true, true, true, true, true, true, true, false, true, false] 18 = true := by kernel_rfl
theorem r47_B2r : (Region.ready .any (regOps (nthC 14 (bodyC Try.f8))) #[true, true, true, true, true, true, true, true, true, true, true, true, true, true, true, true, true, true, false, true, false]).contains 18 = true := by kernel_rfl

/-- What the region leaves. -/
def R47 (na ra : Option Addr) (nn rn pb : Nat) (ad : Bool) (l z o e p : Int) (q0 q1 : Bool) (p0 p1 p2 p3 p4 p5 p6 : Int) (w : World) (a' : Act) (w' : World) : Prop :=
  ∃ bs drb, Fr 375 a' ∧ Slots [(1, .slice na nn nn), (2, .slice ra rn rn), (3, .pointer (some ⟨pb, 0, none⟩)), (8, .bool ad), (9, .int .u32 l), (12, .int .u64 z), (13, .int .u64 o), (14, .int .u64 e), (15, .int .u64 p), (16, .bool q0), (17, .bool q1), (20, .pointer (some ⟨bs, 0, none⟩))] a' ∧ Kept [] w w' ∧ w.heap.size ≤ bs ∧ w.heap.size ≤ drb ∧ bs ≠ drb ∧ IsB w' bs (sumOf p0 p1 p2 p3 p4 p5 p6 none drb rn).arr 41 ∧ IsB w' drb (madeCells #[.int .u64 0] rn) 31

/-- What the region reads: the SumCase in its box. -/
def S47 (pb : Nat) (p0 p1 p2 p3 p4 p5 p6 : Int) (w' : World) : Prop :=
  w'.cell? ⟨pb, 0, none⟩ = some (.int .u64 p0) ∧ w'.cell? ⟨pb, 1, none⟩ = some (.int .u64 p1) ∧ w'.cell? ⟨pb, 2, none⟩ = some (.int .u64 p2) ∧ w'.cell? ⟨pb, 3, none⟩ = some (.int .u64 p3) ∧ w'.cell? ⟨pb, 4, none⟩ = some (.int .u64 p4) ∧ w'.cell? ⟨pb, 5, none⟩ = some (.int .u64 p5) ∧ w'.cell? ⟨pb, 6, none⟩ = some (.int .u64 p6)

def zeroS : Array Value := #[.int .i64 0, .int .i64 0, .int .u32 0, .int .i64 0, .bool false, .int .u64 0, .int .u64 0, .int .u64 0, .int .u64 0, .int .u64 0, .int .u64 0, .pointer none, .int .u64 0, .pointer none, .slice none 0 0, .int .u64 0, .int .u64 0, .int .u64 0, .int .u64 0, .int .u64 0, .int .u64 0, .pointer none, .pointer none]
def sumA (p0 p1 p2 p3 p4 p5 p6 : Int) (d rn : Nat) : Array Value := #[.int .i64 0, .int .i64 0, .int .u32 0, .int .i64 0, .bool false, .int .u64 p0, .int .u64 p1, .int .u64 p2, .int .u64 p3, .int .u64 p4, .int .u64 p5, .pointer none, .int .u64 p6, .pointer none, .slice (some ⟨d, 0, none⟩) rn rn, .int .u64 0, .int .u64 0, .int .u64 0, .int .u64 0, .int .u64 0, .int .u64 0, .pointer none, .pointer none]
theorem sumA_eq (p0 p1 p2 p3 p4 p5 p6 : Int) (d rn : Nat) : (sumOf p0 p1 p2 p3 p4 p5 p6 none d rn).arr = sumA p0 p1 p2 p3 p4 p5 p6 d rn := rfl
theorem sumA_one (p0 p1 p2 p3 p4 p5 p6 : Int) (d rn : Nat) : (sumA p0 p1 p2 p3 p4 p5 p6 d rn).all (·.oneCell') = true := by
  simp [sumA, Value.oneCell']
theorem Try.size41 : (Try.prog.info? 41).map (·.size) = some 23 := by kernel_rfl
theorem Try.info41 : (Try.prog.info? 41).map (fun i => (i.zero, i.size, i.bytes)) = some (some (.agg zeroS), 23, 200) := by kernel_rfl

theorem keep47 (pb : Nat) (p0 p1 p2 p3 p4 p5 p6 : Int) (wx : World) (o : Obj) (hz : pb < wx.heap.size) (h : (S47 pb p0 p1 p2 p3 p4 p5 p6) wx) : (S47 pb p0 p1 p2 p3 p4 p5 p6) (wx.alloc o) := by
  obtain ⟨h0, h1, h2, h3, h4, h5, h6⟩ := h
  have hc : ∀ i, (wx.alloc o).cell? ⟨pb, i, none⟩ = wx.cell? ⟨pb, i, none⟩ := fun i => World.cell?_alloc_past o pb i hz
  exact ⟨by rw [hc]; exact h0, by rw [hc]; exact h1, by rw [hc]; exact h2, by rw [hc]; exact h3, by rw [hc]; exact h4, by rw [hc]; exact h5, by rw [hc]; exact h6⟩
theorem keepR47 (pb : Nat) (p0 p1 p2 p3 p4 p5 p6 : Int) (wx : World) (g : Nat) (cs : Array Value) (hz : pb ≠ g) (h : (S47 pb p0 p1 p2 p3 p4 p5 p6) wx) : (S47 pb p0 p1 p2 p3 p4 p5 p6) (wx.setRow g cs) := by
  obtain ⟨h0, h1, h2, h3, h4, h5, h6⟩ := h
  have hc : ∀ i, (wx.setRow g cs).cell? ⟨pb, i, none⟩ = wx.cell? ⟨pb, i, none⟩ := fun i => cell_setRow_other wx g cs ⟨pb, i, none⟩ hz
  exact ⟨by rw [hc]; exact h0, by rw [hc]; exact h1, by rw [hc]; exact h2, by rw [hc]; exact h3, by rw [hc]; exact h4, by rw [hc]; exact h5, by rw [hc]; exact h6⟩

theorem run_alloc41 (w : World) : (Instr.alloc 41 true (.tuple #[])).run Try.prog w = .ok (.pointer (some ⟨w.heap.size, 0, none⟩)) (w.alloc (.cells zeroS 41)) := by
  unfold zeroS
  go_simp

set_option maxRecDepth 10000 in
set_option maxHeartbeats 1000000 in
theorem r47_arr (na ra : Option Addr) (nn rn pb : Nat) (ad : Bool) (l z o e p : Int) (q0 q1 : Bool) (p0 p1 p2 p3 p4 p5 p6 p8 : Int) (p7 : Bool) (a : Act) (w : World) (hB : S47 pb p0 p1 p2 p3 p4 p5 p6 w) (hb : pb < w.heap.size) (l2 : (rn : Int) ≤ 65536) (hfr : Fr 375 a) (t1 : a.tmps[1]?.getD undef = .slice na nn nn) (t2 : a.tmps[2]?.getD undef = .slice ra rn rn) (t3 : a.tmps[3]?.getD undef = .pointer (some ⟨pb, 0, none⟩)) (t8 : a.tmps[8]?.getD undef = .bool ad) (t9 : a.tmps[9]?.getD undef = .int .u32 l) (t12 : a.tmps[12]?.getD undef = .int .u64 z) (t13 : a.tmps[13]?.getD undef = .int .u64 o) (t14 : a.tmps[14]?.getD undef = .int .u64 e) (t15 : a.tmps[15]?.getD undef = .int .u64 p) (t16 : a.tmps[16]?.getD undef = .bool q0) (t17 : a.tmps[17]?.getD undef = .bool q1) (t148 : a.tmps[148]?.getD undef = .int .u64 p0) (t157 : a.tmps[157]?.getD undef = .agg #[.int .u64 p1, .int .u64 p2, .int .u64 p3, .int .u64 p4]) (t159 : a.tmps[159]?.getD undef = .int .u64 p5) (t161 : a.tmps[161]?.getD undef = .int .u64 p6) (t163 : a.tmps[163]?.getD undef = .int .i64 rn) :
    wpOp Try.prog (regOps (nthC 14 (bodyC Try.f8))) (NP (R47 na ra nn rn pb ad l z o e p q0 q1 p0 p1 p2 p3 p4 p5 p6 w)) 17 (fun a' w' => (S47 pb p0 p1 p2 p3 p4 p5 p6) w' ∧ wpAnyH Try.prog .any (regOps (nthC 14 (bodyC Try.f8))) (NP (R47 na ra nn rn pb ad l z o e p q0 q1 p0 p1 p2 p3 p4 p5 p6 w)) (S47 pb p0 p1 p2 p3 p4 p5 p6) 3 (#[true, true, true, true, true, true, true, true, true, true, true, true, true, true, true, true, true, false, false, false, false].setIfInBounds 17 true) a' w') a w.drew := by
  have hmk := fun wx => run_mk (P := Try.prog) 30 31 (.int .u64 0) 1 8 (by exact Try.underlying30) Try.info31 rn (by omega) (by omega) wx
  have hS0 : (S47 pb p0 p1 p2 p3 p4 p5 p6) w.drew := hB
  have hS1 := keep47 pb p0 p1 p2 p3 p4 p5 p6 w.drew (.cells (madeCells #[.int .u64 0] rn) 31) hb hS0
  have e1 : (w.drew.alloc (.cells (madeCells #[.int .u64 0] rn) 31)).heap.size = w.heap.size + 1 := by simp
  have hD1 : IsB (w.drew.alloc (.cells (madeCells #[.int .u64 0] rn) 31)) w.heap.size (madeCells #[.int .u64 0] rn) 31 := IsB.new _ _ _
  have k1 : Kept [] w (w.drew.alloc (.cells (madeCells #[.int .u64 0] rn) 31)) := (Kept.refl _ _).drew.alloc _
  refine act1 17 164 _ (.slice (some ⟨w.heap.size, 0, none⟩) rn rn) (w.drew.alloc (.cells (madeCells #[.int .u64 0] rn) 31)) #[true, true, true, true, true, true, true, true, true, true, true, true, true, true, true, true, true, true, false, false, false] r47_i17 r47_d17 (by decide) r47_g17 rfl hfr ?_ hS1 ?_
  · simp only [execOp, r47_o17]; go_simp
  generalize w.drew.alloc (.cells (madeCells #[.int .u64 0] rn) 31) = w1 at *
  intro a1 fr1 t164 ho
  replace t1 := (ho 1 (by decide)).trans t1
  replace t2 := (ho 2 (by decide)).trans t2
  replace t3 := (ho 3 (by decide)).trans t3
  replace t8 := (ho 8 (by decide)).trans t8
  replace t9 := (ho 9 (by decide)).trans t9
  replace t12 := (ho 12 (by decide)).trans t12
  replace t13 := (ho 13 (by decide)).trans t13
  replace t14 := (ho 14 (by decide)).trans t14
  replace t15 := (ho 15 (by decide)).trans t15
  replace t16 := (ho 16 (by decide)).trans t16
  replace t17 := (ho 17 (by decide)).trans t17
  replace t148 := (ho 148 (by decide)).trans t148
  replace t157 := (ho 157 (by decide)).trans t157
  replace t159 := (ho 159 (by decide)).trans t159
  replace t161 := (ho 161 (by decide)).trans t161
  replace t163 := (ho 163 (by decide)).trans t163
  clear hfr ho
  refine take1 18 165 _ (.agg (sumA p0 p1 p2 p3 p4 p5 p6 w.heap.size rn)) #[true, true, true, true, true, true, true, true, true, true, true, true, true, true, true, true, true, true, true, false, false] r47_i18 r47_d18 (by decide) r47_s r47_A1f r47_A1r r47_g18 rfl hS1 fr1 ?_ ?_
  · intro wx hx; simp only [execOp, r47_o18, sumA]; clear hx hS1 hS0 hB hmk hD1 k1; go_simp
  intro a2 fr2 t165 ho
  replace t1 := (ho 1 (by decide)).trans t1
  replace t2 := (ho 2 (by decide)).trans t2
  replace t3 := (ho 3 (by decide)).trans t3
  replace t8 := (ho 8 (by decide)).trans t8
  replace t9 := (ho 9 (by decide)).trans t9
  replace t12 := (ho 12 (by decide)).trans t12
  replace t13 := (ho 13 (by decide)).trans t13
  replace t14 := (ho 14 (by decide)).trans t14
  replace t15 := (ho 15 (by decide)).trans t15
  replace t16 := (ho 16 (by decide)).trans t16
  replace t17 := (ho 17 (by decide)).trans t17
  replace t148 := (ho 148 (by decide)).trans t148
  replace t157 := (ho 157 (by decide)).trans t157
  replace t159 := (ho 159 (by decide)).trans t159
  replace t161 := (ho 161 (by decide)).trans t161
  replace t163 := (ho 163 (by decide)).trans t163
  clear fr1 ho
  have hS2 := keep47 pb p0 p1 p2 p3 p4 p5 p6 w1 (.cells zeroS 41) (by omega) hS1
  have hB2 : IsB (w1.alloc (.cells zeroS 41)) w1.heap.size zeroS 41 := IsB.new _ _ _
  have e2 : (w1.alloc (.cells zeroS 41)).heap.size = w.heap.size + 2 := by simp; omega
  refine only1 19 r47_A2 (act1 19 20 _ (.pointer (some ⟨w.heap.size + 1, 0, none⟩)) (w1.alloc (.cells zeroS 41)) #[true, true, true, true, true, true, true, true, true, true, true, true, true, true, true, true, true, true, true, true, false] r47_i19 r47_d19 (by decide) r47_g19 rfl fr2 ?_ hS2 ?_)
  · simp only [execOp, r47_o19, Sem.run_bind, run_alloc41, e1]; rfl
  rw [e1] at hB2
  have hD2 := hD1.alloc (.cells zeroS 41)
  have k2 := k1.alloc (.cells zeroS 41)
  generalize w1.alloc (.cells zeroS 41) = w2 at *
  intro a3 fr3 t20 ho
  replace t1 := (ho 1 (by decide)).trans t1
  replace t2 := (ho 2 (by decide)).trans t2
  replace t3 := (ho 3 (by decide)).trans t3
  replace t8 := (ho 8 (by decide)).trans t8
  replace t9 := (ho 9 (by decide)).trans t9
  replace t12 := (ho 12 (by decide)).trans t12
  replace t13 := (ho 13 (by decide)).trans t13
  replace t14 := (ho 14 (by decide)).trans t14
  replace t15 := (ho 15 (by decide)).trans t15
  replace t16 := (ho 16 (by decide)).trans t16
  replace t17 := (ho 17 (by decide)).trans t17
  replace t148 := (ho 148 (by decide)).trans t148
  replace t157 := (ho 157 (by decide)).trans t157
  replace t159 := (ho 159 (by decide)).trans t159
  replace t161 := (ho 161 (by decide)).trans t161
  replace t163 := (ho 163 (by decide)).trans t163
  replace t165 := (ho 165 (by decide)).trans t165
  clear fr2 ho
  refine only1 20 r47_A3 (act0 20 _ (w2.setRow (w.heap.size + 1) (sumA p0 p1 p2 p3 p4 p5 p6 w.heap.size rn)) #[true, true, true, true, true, true, true, true, true, true, true, true, true, true, true, true, true, true, true, true, true] r47_i20 r47_d20 r47_g20 rfl ?_ (keepR47 pb p0 p1 p2 p3 p4 p5 p6 w2 _ _ (by omega) hS2) ?_)
  · exact exec_store r47_o20 ((sl_at _ _).trans t20) ((sl_at _ _).trans t165) (run_store_row hB2 Try.size41 rfl (sumA_one _ _ _ _ _ _ _ _ _))
  refine wpAnyH_done r47_A4 ?_ _
  refine ⟨w.heap.size + 1, w.heap.size, fr3, ⟨(sl_at _ _).trans t1, (sl_at _ _).trans t2, (sl_at _ _).trans t3, (sl_at _ _).trans t8, (sl_at _ _).trans t9, (sl_at _ _).trans t12, (sl_at _ _).trans t13, (sl_at _ _).trans t14, (sl_at _ _).trans t15, (sl_at _ _).trans t16, (sl_at _ _).trans t17, (sl_at _ _).trans t20, trivial⟩, ?_, by omega, by omega, by omega, ?_, ?_⟩
  · exact k2.row _ _ (.inr (by omega))
  · exact hB2.row _
  · exact hD2.row_off _ (by omega)

set_option maxRecDepth 10000 in
set_option maxHeartbeats 1000000 in
theorem r47_sum (na ra : Option Addr) (nn rn pb : Nat) (ad : Bool) (l z o e p : Int) (q0 q1 : Bool) (p0 p1 p2 p3 p4 p5 p6 p8 : Int) (p7 : Bool) (a : Act) (w : World) (hB : S47 pb p0 p1 p2 p3 p4 p5 p6 w) (hb : pb < w.heap.size) (l2 : (rn : Int) ≤ 65536) (hfr : Fr 375 a) (t1 : a.tmps[1]?.getD undef = .slice na nn nn) (t2 : a.tmps[2]?.getD undef = .slice ra rn rn) (t3 : a.tmps[3]?.getD undef = .pointer (some ⟨pb, 0, none⟩)) (t8 : a.tmps[8]?.getD undef = .bool ad) (t9 : a.tmps[9]?.getD undef = .int .u32 l) (t12 : a.tmps[12]?.getD undef = .int .u64 z) (t13 : a.tmps[13]?.getD undef = .int .u64 o) (t14 : a.tmps[14]?.getD undef = .int .u64 e) (t15 : a.tmps[15]?.getD undef = .int .u64 p) (t16 : a.tmps[16]?.getD undef = .bool q0) (t17 : a.tmps[17]?.getD undef = .bool q1) (t148 : a.tmps[148]?.getD undef = .int .u64 p0) (t157 : a.tmps[157]?.getD undef = .agg #[.int .u64 p1, .int .u64 p2, .int .u64 p3, .int .u64 p4]) (t159 : a.tmps[159]?.getD undef = .int .u64 p5) (t161 : a.tmps[161]?.getD undef = .int .u64 p6) (t163 : a.tmps[163]?.getD undef = .int .i64 rn) :
    wpOp Try.prog (regOps (nthC 14 (bodyC Try.f8))) (NP (R47 na ra nn rn pb ad l z o e p q0 q1 p0 p1 p2 p3 p4 p5 p6 w)) 19 (fun a' w' => (S47 pb p0 p1 p2 p3 p4 p5 p6) w' ∧ wpAnyH Try.prog .any (regOps (nthC 14 (bodyC Try.f8))) (NP (R47 na ra nn rn pb ad l z o e p q0 q1 p0 p1 p2 p3 p4 p5 p6 w)) (S47 pb p0 p1 p2 p3 p4 p5 p6) 3 (#[true, true, true, true, true, true, true, true, true, true, true, true, true, true, true, true, true, false, false, false, false].setIfInBounds 19 true) a' w') a w.drew := by
  have hmk := fun wx => run_mk (P := Try.prog) 30 31 (.int .u64 0) 1 8 (by exact Try.underlying30) Try.info31 rn (by omega) (by omega) wx
  have hS0 : (S47 pb p0 p1 p2 p3 p4 p5 p6) w.drew := hB
  have hS1 := keep47 pb p0 p1 p2 p3 p4 p5 p6 w.drew (.cells zeroS 41) hb hS0
  have e1 : (w.drew.alloc (.cells zeroS 41)).heap.size = w.heap.size + 1 := by simp
  have hB1 : IsB (w.drew.alloc (.cells zeroS 41)) w.heap.size zeroS 41 := IsB.new _ _ _
  have k1 : Kept [] w (w.drew.alloc (.cells zeroS 41)) := (Kept.refl _ _).drew.alloc _
  refine act1 19 20 _ (.pointer (some ⟨w.heap.size, 0, none⟩)) (w.drew.alloc (.cells zeroS 41)) #[true, true, true, true, true, true, true, true, true, true, true, true, true, true, true, true, true, false, false, true, false] r47_i19 r47_d19 (by decide) r47_g19 rfl hfr ?_ hS1 ?_
  · simp only [execOp, r47_o19, Sem.run_bind, run_alloc41]; rfl
  generalize w.drew.alloc (.cells zeroS 41) = w1 at *
  intro a1 fr1 t20 ho
  replace t1 := (ho 1 (by decide)).trans t1
  replace t2 := (ho 2 (by decide)).trans t2
  replace t3 := (ho 3 (by decide)).trans t3
  replace t8 := (ho 8 (by decide)).trans t8
  replace t9 := (ho 9 (by decide)).trans t9
  replace t12 := (ho 12 (by decide)).trans t12
  replace t13 := (ho 13 (by decide)).trans t13
  replace t14 := (ho 14 (by decide)).trans t14
  replace t15 := (ho 15 (by decide)).trans t15
  replace t16 := (ho 16 (by decide)).trans t16
  replace t17 := (ho 17 (by decide)).trans t17
  replace t148 := (ho 148 (by decide)).trans t148
  replace t157 := (ho 157 (by decide)).trans t157
  replace t159 := (ho 159 (by decide)).trans t159
  replace t161 := (ho 161 (by decide)).trans t161
  replace t163 := (ho 163 (by decide)).trans t163
  clear hfr ho
  have hS2 := keep47 pb p0 p1 p2 p3 p4 p5 p6 w1 (.cells (madeCells #[.int .u64 0] rn) 31) (by omega) hS1
  have hD2 : IsB (w1.alloc (.cells (madeCells #[.int .u64 0] rn) 31)) w1.heap.size (madeCells #[.int .u64 0] rn) 31 := IsB.new _ _ _
  refine only1 17 r47_B1 (act1 17 164 _ (.slice (some ⟨w.heap.size + 1, 0, none⟩) rn rn) (w1.alloc (.cells (madeCells #[.int .u64 0] rn) 31)) #[true, true, true, true, true, true, true, true, true, true, true, true, true, true, true, true, true, true, false, true, false] r47_i17 r47_d17 (by decide) r47_g17 rfl fr1 ?_ hS2 ?_)
  · rw [← e1]; simp only [execOp, r47_o17]; clear hB1 k1 hD2 hS2 hS1 hS0 e1; go_simp
  rw [e1] at hD2
  have hB2 := hB1.alloc (.cells (madeCells #[.int .u64 0] rn) 31)
  have k2 := k1.alloc (.cells (madeCells #[.int .u64 0] rn) 31)
  have e2 : (w1.alloc (.cells (madeCells #[.int .u64 0] rn) 31)).heap.size = w.heap.size + 2 := by simp; omega
  generalize w1.alloc (.cells (madeCells #[.int .u64 0] rn) 31) = w2 at *
  intro a2 fr2 t164 ho
  replace t1 := (ho 1 (by decide)).trans t1
  replace t2 := (ho 2 (by decide)).trans t2
  replace t3 := (ho 3 (by decide)).trans t3
  replace t8 := (ho 8 (by decide)).trans t8
  replace t9 := (ho 9 (by decide)).trans t9
  replace t12 := (ho 12 (by decide)).trans t12
  replace t13 := (ho 13 (by decide)).trans t13
  replace t14 := (ho 14 (by decide)).trans t14
  replace t15 := (ho 15 (by decide)).trans t15
  replace t16 := (ho 16 (by decide)).trans t16
  replace t17 := (ho 17 (by decide)).trans t17
  replace t148 := (ho 148 (by decide)).trans t148
  replace t157 := (ho 157 (by decide)).trans t157
  replace t159 := (ho 159 (by decide)).trans t159
  replace t161 := (ho 161 (by decide)).trans t161
  replace t163 := (ho 163 (by decide)).trans t163
  replace t20 := (ho 20 (by decide)).trans t20
  clear fr1 ho
  refine take1 18 165 _ (.agg (sumA p0 p1 p2 p3 p4 p5 p6 (w.heap.size + 1) rn)) #[true, true, true, true, true, true, true, true, true, true, true, true, true, true, true, true, true, true, true, true, false] r47_i18 r47_d18 (by decide) r47_s r47_B2f r47_B2r r47_g18 rfl hS2 fr2 ?_ ?_
  · intro wx hx; simp only [execOp, r47_o18, sumA]; clear hx hS2 hS1 hS0 hB hmk hD2 k1 k2 hB1 hB2; go_simp
  intro a3 fr3 t165 ho
  replace t1 := (ho 1 (by decide)).trans t1
  replace t2 := (ho 2 (by decide)).trans t2
  replace t3 := (ho 3 (by decide)).trans t3
  replace t8 := (ho 8 (by decide)).trans t8
  replace t9 := (ho 9 (by decide)).trans t9
  replace t12 := (ho 12 (by decide)).trans t12
  replace t13 := (ho 13 (by decide)).trans t13
  replace t14 := (ho 14 (by decide)).trans t14
  replace t15 := (ho 15 (by decide)).trans t15
  replace t16 := (ho 16 (by decide)).trans t16
  replace t17 := (ho 17 (by decide)).trans t17
  replace t148 := (ho 148 (by decide)).trans t148
  replace t157 := (ho 157 (by decide)).trans t157
  replace t159 := (ho 159 (by decide)).trans t159
  replace t161 := (ho 161 (by decide)).trans t161
  replace t163 := (ho 163 (by decide)).trans t163
  replace t20 := (ho 20 (by decide)).trans t20
  clear fr2 ho
  refine only1 20 r47_A3 (act0 20 _ (w2.setRow w.heap.size (sumA p0 p1 p2 p3 p4 p5 p6 (w.heap.size + 1) rn)) #[true, true, true, true, true, true, true, true, true, true, true, true, true, true, true, true, true, true, true, true, true] r47_i20 r47_d20 r47_g20 rfl ?_ (keepR47 pb p0 p1 p2 p3 p4 p5 p6 w2 _ _ (by omega) hS2) ?_)
  · exact exec_store r47_o20 ((sl_at _ _).trans t20) ((sl_at _ _).trans t165) (run_store_row hB2 Try.size41 rfl (sumA_one _ _ _ _ _ _ _ _ _))
  refine wpAnyH_done r47_A4 ?_ _
  refine ⟨w.heap.size, w.heap.size + 1, fr3, ⟨(sl_at _ _).trans t1, (sl_at _ _).trans t2, (sl_at _ _).trans t3, (sl_at _ _).trans t8, (sl_at _ _).trans t9, (sl_at _ _).trans t12, (sl_at _ _).trans t13, (sl_at _ _).trans t14, (sl_at _ _).trans t15, (sl_at _ _).trans t16, (sl_at _ _).trans t17, (sl_at _ _).trans t20, trivial⟩, ?_, by omega, by omega, by omega, ?_, ?_⟩
  · exact k2.row _ _ (.inr (by omega))
  · exact hB2.row _
  · exact hD2.row_off _ (by omega)

set_option maxRecDepth 10000 in
set_option maxHeartbeats 1000000 in
/-- the Summary is built -/
theorem l8_14 (na ra : Option Addr) (nn rn pb : Nat) (ad : Bool) (l z o e p : Int) (q0 q1 : Bool) (p0 p1 p2 p3 p4 p5 p6 p8 : Int) (p7 : Bool) (a : Act) (w : World) (Q : Exit → Act → World → Prop) (hfr : Fr 375 a) (hs : Slots [(1, .slice na nn nn), (2, .slice ra rn rn), (3, .pointer (some ⟨pb, 0, none⟩)), (8, .bool ad), (9, .int .u32 l), (12, .int .u64 z), (13, .int .u64 o), (14, .int .u64 e), (15, .int .u64 p), (16, .bool q0), (17, .bool q1)] a)
    (l2 : (rn : Int) ≤ 65536) (hP : IsB w pb (priorA p0 p1 p2 p3 p4 p5 p6 p7 p8) 78)
    (hQ : ∀ a' w' bs drb, Fr 375 a' → Slots [(1, .slice na nn nn), (2, .slice ra rn rn), (3, .pointer (some ⟨pb, 0, none⟩)), (8, .bool ad), (9, .int .u32 l), (12, .int .u64 z), (13, .int .u64 o), (14, .int .u64 e), (15, .int .u64 p), (16, .bool q0), (17, .bool q1), (20, .pointer (some ⟨bs, 0, none⟩))] a' → Kept [] w w' → w.heap.size ≤ bs → w.heap.size ≤ drb → bs ≠ drb → IsB w' bs (sumOf p0 p1 p2 p3 p4 p5 p6 none drb rn).arr 41 → IsB w' drb (madeCells #[.int .u64 0] rn) 31 → Q .normal a' w') :
    Code.wp Try.prog (nthC 14 (bodyC Try.f8)) Q a w := by
  obtain ⟨t1, t2, t3, t8, t9, t12, t13, t14, t15, t16, t17, -⟩ := hs
  replace t1 : a.tmps[1]?.getD undef = .slice na nn nn := (sl_at a 1).symm.trans t1
  replace t2 : a.tmps[2]?.getD undef = .slice ra rn rn := (sl_at a 2).symm.trans t2
  replace t3 : a.tmps[3]?.getD undef = .pointer (some ⟨pb, 0, none⟩) := (sl_at a 3).symm.trans t3
  replace t8 : a.tmps[8]?.getD undef = .bool ad := (sl_at a 8).symm.trans t8
  replace t9 : a.tmps[9]?.getD undef = .int .u32 l := (sl_at a 9).symm.trans t9
  replace t12 : a.tmps[12]?.getD undef = .int .u64 z := (sl_at a 12).symm.trans t12
  replace t13 : a.tmps[13]?.getD undef = .int .u64 o := (sl_at a 13).symm.trans t13
  replace t14 : a.tmps[14]?.getD undef = .int .u64 e := (sl_at a 14).symm.trans t14
  replace t15 : a.tmps[15]?.getD undef = .int .u64 p := (sl_at a 15).symm.trans t15
  replace t16 : a.tmps[16]?.getD undef = .bool q0 := (sl_at a 16).symm.trans t16
  replace t17 : a.tmps[17]?.getD undef = .bool q1 := (sl_at a 17).symm.trans t17
  have hB : (S47 pb p0 p1 p2 p3 p4 p5 p6) w := ⟨hP.cell 0, hP.cell 1, hP.cell 2, hP.cell 3, hP.cell 4, hP.cell 5, hP.cell 6⟩
  have hS0 : (S47 pb p0 p1 p2 p3 p4 p5 p6) w.drew := hB
  have hb := hP.lt
  clear hP
  refine wp_navR (S47 pb p0 p1 p2 p3 p4 p5 p6) (R47 na ra nn rn pb ad l z o e p q0 q1 p0 p1 p2 p3 p4 p5 p6 w) 21 #[false, false, false, false, false, false, false, false, false, false, false, false, false, false, false, false, false, false, false, false, false] (by kernel_rfl) (by kernel_rfl) (by kernel_rfl) rfl ?_ (fun a' w' ⟨bs, drb, h1, h2, h3, h4, h5, h6, h7, h8⟩ => hQ a' w' bs drb h1 h2 h3 h4 h5 h6 h7 h8)
  clear hQ
  refine take1 0 147 _ (.pointer (some ⟨pb, 0, none⟩)) #[true, false, false, false, false, false, false, false, false, false, false, false, false, false, false, false, false, false, false, false, false] r47_i0 r47_d0 (by decide) r47_s r47_f0 r47_r0 r47_g0 rfl hS0 hfr ?_ ?_
  · intro wx hx; obtain ⟨h0, h1, h2, h3, h4, h5, h6⟩ := hx; simp only [execOp, r47_o0]; go_simp
  intro a1 fr1 t147 ho
  replace t1 := (ho 1 (by decide)).trans t1
  replace t2 := (ho 2 (by decide)).trans t2
  replace t3 := (ho 3 (by decide)).trans t3
  replace t8 := (ho 8 (by decide)).trans t8
  replace t9 := (ho 9 (by decide)).trans t9
  replace t12 := (ho 12 (by decide)).trans t12
  replace t13 := (ho 13 (by decide)).trans t13
  replace t14 := (ho 14 (by decide)).trans t14
  replace t15 := (ho 15 (by decide)).trans t15
  replace t16 := (ho 16 (by decide)).trans t16
  replace t17 := (ho 17 (by decide)).trans t17
  clear hfr ho
  refine take1 1 148 _ (.int .u64 p0) #[true, true, false, false, false, false, false, false, false, false, false, false, false, false, false, false, false, false, false, false, false] r47_i1 r47_d1 (by decide) r47_s r47_f1 r47_r1 r47_g1 rfl hS0 fr1 ?_ ?_
  · intro wx hx; obtain ⟨h0, h1, h2, h3, h4, h5, h6⟩ := hx; simp only [execOp, r47_o1]; go_simp
  intro a2 fr2 t148 ho
  replace t1 := (ho 1 (by decide)).trans t1
  replace t2 := (ho 2 (by decide)).trans t2
  replace t3 := (ho 3 (by decide)).trans t3
  replace t8 := (ho 8 (by decide)).trans t8
  replace t9 := (ho 9 (by decide)).trans t9
  replace t12 := (ho 12 (by decide)).trans t12
  replace t13 := (ho 13 (by decide)).trans t13
  replace t14 := (ho 14 (by decide)).trans t14
  replace t15 := (ho 15 (by decide)).trans t15
  replace t16 := (ho 16 (by decide)).trans t16
  replace t17 := (ho 17 (by decide)).trans t17
  replace t147 := (ho 147 (by decide)).trans t147
  clear fr1 ho
  clear t147
  refine take1 2 149 _ (.pointer (some ⟨pb, 1, none⟩)) #[true, true, true, false, false, false, false, false, false, false, false, false, false, false, false, false, false, false, false, false, false] r47_i2 r47_d2 (by decide) r47_s r47_f2 r47_r2 r47_g2 rfl hS0 fr2 ?_ ?_
  · intro wx hx; obtain ⟨h0, h1, h2, h3, h4, h5, h6⟩ := hx; simp only [execOp, r47_o2]; go_simp
  intro a3 fr3 t149 ho
  replace t1 := (ho 1 (by decide)).trans t1
  replace t2 := (ho 2 (by decide)).trans t2
  replace t3 := (ho 3 (by decide)).trans t3
  replace t8 := (ho 8 (by decide)).trans t8
  replace t9 := (ho 9 (by decide)).trans t9
  replace t12 := (ho 12 (by decide)).trans t12
  replace t13 := (ho 13 (by decide)).trans t13
  replace t14 := (ho 14 (by decide)).trans t14
  replace t15 := (ho 15 (by decide)).trans t15
  replace t16 := (ho 16 (by decide)).trans t16
  replace t17 := (ho 17 (by decide)).trans t17
  replace t148 := (ho 148 (by decide)).trans t148
  clear fr2 ho
  refine take1 3 150 _ (.int .u64 p1) #[true, true, true, true, false, false, false, false, false, false, false, false, false, false, false, false, false, false, false, false, false] r47_i3 r47_d3 (by decide) r47_s r47_f3 r47_r3 r47_g3 rfl hS0 fr3 ?_ ?_
  · intro wx hx; obtain ⟨h0, h1, h2, h3, h4, h5, h6⟩ := hx; simp only [execOp, r47_o3]; go_simp
  intro a4 fr4 t150 ho
  replace t1 := (ho 1 (by decide)).trans t1
  replace t2 := (ho 2 (by decide)).trans t2
  replace t3 := (ho 3 (by decide)).trans t3
  replace t8 := (ho 8 (by decide)).trans t8
  replace t9 := (ho 9 (by decide)).trans t9
  replace t12 := (ho 12 (by decide)).trans t12
  replace t13 := (ho 13 (by decide)).trans t13
  replace t14 := (ho 14 (by decide)).trans t14
  replace t15 := (ho 15 (by decide)).trans t15
  replace t16 := (ho 16 (by decide)).trans t16
  replace t17 := (ho 17 (by decide)).trans t17
  replace t148 := (ho 148 (by decide)).trans t148
  replace t149 := (ho 149 (by decide)).trans t149
  clear fr3 ho
  clear t149
  refine take1 4 151 _ (.pointer (some ⟨pb, 2, none⟩)) #[true, true, true, true, true, false, false, false, false, false, false, false, false, false, false, false, false, false, false, false, false] r47_i4 r47_d4 (by decide) r47_s r47_f4 r47_r4 r47_g4 rfl hS0 fr4 ?_ ?_
  · intro wx hx; obtain ⟨h0, h1, h2, h3, h4, h5, h6⟩ := hx; simp only [execOp, r47_o4]; go_simp
  intro a5 fr5 t151 ho
  replace t1 := (ho 1 (by decide)).trans t1
  replace t2 := (ho 2 (by decide)).trans t2
  replace t3 := (ho 3 (by decide)).trans t3
  replace t8 := (ho 8 (by decide)).trans t8
  replace t9 := (ho 9 (by decide)).trans t9
  replace t12 := (ho 12 (by decide)).trans t12
  replace t13 := (ho 13 (by decide)).trans t13
  replace t14 := (ho 14 (by decide)).trans t14
  replace t15 := (ho 15 (by decide)).trans t15
  replace t16 := (ho 16 (by decide)).trans t16
  replace t17 := (ho 17 (by decide)).trans t17
  replace t148 := (ho 148 (by decide)).trans t148
  replace t150 := (ho 150 (by decide)).trans t150
  clear fr4 ho
  refine take1 5 152 _ (.int .u64 p2) #[true, true, true, true, true, true, false, false, false, false, false, false, false, false, false, false, false, false, false, false, false] r47_i5 r47_d5 (by decide) r47_s r47_f5 r47_r5 r47_g5 rfl hS0 fr5 ?_ ?_
  · intro wx hx; obtain ⟨h0, h1, h2, h3, h4, h5, h6⟩ := hx; simp only [execOp, r47_o5]; go_simp
  intro a6 fr6 t152 ho
  replace t1 := (ho 1 (by decide)).trans t1
  replace t2 := (ho 2 (by decide)).trans t2
  replace t3 := (ho 3 (by decide)).trans t3
  replace t8 := (ho 8 (by decide)).trans t8
  replace t9 := (ho 9 (by decide)).trans t9
  replace t12 := (ho 12 (by decide)).trans t12
  replace t13 := (ho 13 (by decide)).trans t13
  replace t14 := (ho 14 (by decide)).trans t14
  replace t15 := (ho 15 (by decide)).trans t15
  replace t16 := (ho 16 (by decide)).trans t16
  replace t17 := (ho 17 (by decide)).trans t17
  replace t148 := (ho 148 (by decide)).trans t148
  replace t150 := (ho 150 (by decide)).trans t150
  replace t151 := (ho 151 (by decide)).trans t151
  clear fr5 ho
  clear t151
  refine take1 6 153 _ (.pointer (some ⟨pb, 3, none⟩)) #[true, true, true, true, true, true, true, false, false, false, false, false, false, false, false, false, false, false, false, false, false] r47_i6 r47_d6 (by decide) r47_s r47_f6 r47_r6 r47_g6 rfl hS0 fr6 ?_ ?_
  · intro wx hx; obtain ⟨h0, h1, h2, h3, h4, h5, h6⟩ := hx; simp only [execOp, r47_o6]; go_simp
  intro a7 fr7 t153 ho
  replace t1 := (ho 1 (by decide)).trans t1
  replace t2 := (ho 2 (by decide)).trans t2
  replace t3 := (ho 3 (by decide)).trans t3
  replace t8 := (ho 8 (by decide)).trans t8
  replace t9 := (ho 9 (by decide)).trans t9
  replace t12 := (ho 12 (by decide)).trans t12
  replace t13 := (ho 13 (by decide)).trans t13
  replace t14 := (ho 14 (by decide)).trans t14
  replace t15 := (ho 15 (by decide)).trans t15
  replace t16 := (ho 16 (by decide)).trans t16
  replace t17 := (ho 17 (by decide)).trans t17
  replace t148 := (ho 148 (by decide)).trans t148
  replace t150 := (ho 150 (by decide)).trans t150
  replace t152 := (ho 152 (by decide)).trans t152
  clear fr6 ho
  refine take1 7 154 _ (.int .u64 p3) #[true, true, true, true, true, true, true, true, false, false, false, false, false, false, false, false, false, false, false, false, false] r47_i7 r47_d7 (by decide) r47_s r47_f7 r47_r7 r47_g7 rfl hS0 fr7 ?_ ?_
  · intro wx hx; obtain ⟨h0, h1, h2, h3, h4, h5, h6⟩ := hx; simp only [execOp, r47_o7]; go_simp
  intro a8 fr8 t154 ho
  replace t1 := (ho 1 (by decide)).trans t1
  replace t2 := (ho 2 (by decide)).trans t2
  replace t3 := (ho 3 (by decide)).trans t3
  replace t8 := (ho 8 (by decide)).trans t8
  replace t9 := (ho 9 (by decide)).trans t9
  replace t12 := (ho 12 (by decide)).trans t12
  replace t13 := (ho 13 (by decide)).trans t13
  replace t14 := (ho 14 (by decide)).trans t14
  replace t15 := (ho 15 (by decide)).trans t15
  replace t16 := (ho 16 (by decide)).trans t16
  replace t17 := (ho 17 (by decide)).trans t17
  replace t148 := (ho 148 (by decide)).trans t148
  replace t150 := (ho 150 (by decide)).trans t150
  replace t152 := (ho 152 (by decide)).trans t152
  replace t153 := (ho 153 (by decide)).trans t153
  clear fr7 ho
  clear t153
  refine take1 8 155 _ (.pointer (some ⟨pb, 4, none⟩)) #[true, true, true, true, true, true, true, true, true, false, false, false, false, false, false, false, false, false, false, false, false] r47_i8 r47_d8 (by decide) r47_s r47_f8 r47_r8 r47_g8 rfl hS0 fr8 ?_ ?_
  · intro wx hx; obtain ⟨h0, h1, h2, h3, h4, h5, h6⟩ := hx; simp only [execOp, r47_o8]; go_simp
  intro a9 fr9 t155 ho
  replace t1 := (ho 1 (by decide)).trans t1
  replace t2 := (ho 2 (by decide)).trans t2
  replace t3 := (ho 3 (by decide)).trans t3
  replace t8 := (ho 8 (by decide)).trans t8
  replace t9 := (ho 9 (by decide)).trans t9
  replace t12 := (ho 12 (by decide)).trans t12
  replace t13 := (ho 13 (by decide)).trans t13
  replace t14 := (ho 14 (by decide)).trans t14
  replace t15 := (ho 15 (by decide)).trans t15
  replace t16 := (ho 16 (by decide)).trans t16
  replace t17 := (ho 17 (by decide)).trans t17
  replace t148 := (ho 148 (by decide)).trans t148
  replace t150 := (ho 150 (by decide)).trans t150
  replace t152 := (ho 152 (by decide)).trans t152
  replace t154 := (ho 154 (by decide)).trans t154
  clear fr8 ho
  refine take1 9 156 _ (.int .u64 p4) #[true, true, true, true, true, true, true, true, true, true, false, false, false, false, false, false, false, false, false, false, false] r47_i9 r47_d9 (by decide) r47_s r47_f9 r47_r9 r47_g9 rfl hS0 fr9 ?_ ?_
  · intro wx hx; obtain ⟨h0, h1, h2, h3, h4, h5, h6⟩ := hx; simp only [execOp, r47_o9]; go_simp
  intro a10 fr10 t156 ho
  replace t1 := (ho 1 (by decide)).trans t1
  replace t2 := (ho 2 (by decide)).trans t2
  replace t3 := (ho 3 (by decide)).trans t3
  replace t8 := (ho 8 (by decide)).trans t8
  replace t9 := (ho 9 (by decide)).trans t9
  replace t12 := (ho 12 (by decide)).trans t12
  replace t13 := (ho 13 (by decide)).trans t13
  replace t14 := (ho 14 (by decide)).trans t14
  replace t15 := (ho 15 (by decide)).trans t15
  replace t16 := (ho 16 (by decide)).trans t16
  replace t17 := (ho 17 (by decide)).trans t17
  replace t148 := (ho 148 (by decide)).trans t148
  replace t150 := (ho 150 (by decide)).trans t150
  replace t152 := (ho 152 (by decide)).trans t152
  replace t154 := (ho 154 (by decide)).trans t154
  replace t155 := (ho 155 (by decide)).trans t155
  clear fr9 ho
  clear t155
  refine take1 10 157 _ (.agg #[.int .u64 p1, .int .u64 p2, .int .u64 p3, .int .u64 p4]) #[true, true, true, true, true, true, true, true, true, true, true, false, false, false, false, false, false, false, false, false, false] r47_i10 r47_d10 (by decide) r47_s r47_f10 r47_r10 r47_g10 rfl hS0 fr10 ?_ ?_
  · intro wx hx; obtain ⟨h0, h1, h2, h3, h4, h5, h6⟩ := hx; simp only [execOp, r47_o10]; go_simp
  intro a11 fr11 t157 ho
  replace t1 := (ho 1 (by decide)).trans t1
  replace t2 := (ho 2 (by decide)).trans t2
  replace t3 := (ho 3 (by decide)).trans t3
  replace t8 := (ho 8 (by decide)).trans t8
  replace t9 := (ho 9 (by decide)).trans t9
  replace t12 := (ho 12 (by decide)).trans t12
  replace t13 := (ho 13 (by decide)).trans t13
  replace t14 := (ho 14 (by decide)).trans t14
  replace t15 := (ho 15 (by decide)).trans t15
  replace t16 := (ho 16 (by decide)).trans t16
  replace t17 := (ho 17 (by decide)).trans t17
  replace t148 := (ho 148 (by decide)).trans t148
  replace t150 := (ho 150 (by decide)).trans t150
  replace t152 := (ho 152 (by decide)).trans t152
  replace t154 := (ho 154 (by decide)).trans t154
  replace t156 := (ho 156 (by decide)).trans t156
  clear fr10 ho
  clear t150 t152 t154 t156
  refine take1 11 158 _ (.pointer (some ⟨pb, 5, none⟩)) #[true, true, true, true, true, true, true, true, true, true, true, true, false, false, false, false, false, false, false, false, false] r47_i11 r47_d11 (by decide) r47_s r47_f11 r47_r11 r47_g11 rfl hS0 fr11 ?_ ?_
  · intro wx hx; obtain ⟨h0, h1, h2, h3, h4, h5, h6⟩ := hx; simp only [execOp, r47_o11]; go_simp
  intro a12 fr12 t158 ho
  replace t1 := (ho 1 (by decide)).trans t1
  replace t2 := (ho 2 (by decide)).trans t2
  replace t3 := (ho 3 (by decide)).trans t3
  replace t8 := (ho 8 (by decide)).trans t8
  replace t9 := (ho 9 (by decide)).trans t9
  replace t12 := (ho 12 (by decide)).trans t12
  replace t13 := (ho 13 (by decide)).trans t13
  replace t14 := (ho 14 (by decide)).trans t14
  replace t15 := (ho 15 (by decide)).trans t15
  replace t16 := (ho 16 (by decide)).trans t16
  replace t17 := (ho 17 (by decide)).trans t17
  replace t148 := (ho 148 (by decide)).trans t148
  replace t157 := (ho 157 (by decide)).trans t157
  clear fr11 ho
  refine take1 12 159 _ (.int .u64 p5) #[true, true, true, true, true, true, true, true, true, true, true, true, true, false, false, false, false, false, false, false, false] r47_i12 r47_d12 (by decide) r47_s r47_f12 r47_r12 r47_g12 rfl hS0 fr12 ?_ ?_
  · intro wx hx; obtain ⟨h0, h1, h2, h3, h4, h5, h6⟩ := hx; simp only [execOp, r47_o12]; go_simp
  intro a13 fr13 t159 ho
  replace t1 := (ho 1 (by decide)).trans t1
  replace t2 := (ho 2 (by decide)).trans t2
  replace t3 := (ho 3 (by decide)).trans t3
  replace t8 := (ho 8 (by decide)).trans t8
  replace t9 := (ho 9 (by decide)).trans t9
  replace t12 := (ho 12 (by decide)).trans t12
  replace t13 := (ho 13 (by decide)).trans t13
  replace t14 := (ho 14 (by decide)).trans t14
  replace t15 := (ho 15 (by decide)).trans t15
  replace t16 := (ho 16 (by decide)).trans t16
  replace t17 := (ho 17 (by decide)).trans t17
  replace t148 := (ho 148 (by decide)).trans t148
  replace t157 := (ho 157 (by decide)).trans t157
  replace t158 := (ho 158 (by decide)).trans t158
  clear fr12 ho
  clear t158
  refine take1 13 160 _ (.pointer (some ⟨pb, 6, none⟩)) #[true, true, true, true, true, true, true, true, true, true, true, true, true, true, false, false, false, false, false, false, false] r47_i13 r47_d13 (by decide) r47_s r47_f13 r47_r13 r47_g13 rfl hS0 fr13 ?_ ?_
  · intro wx hx; obtain ⟨h0, h1, h2, h3, h4, h5, h6⟩ := hx; simp only [execOp, r47_o13]; go_simp
  intro a14 fr14 t160 ho
  replace t1 := (ho 1 (by decide)).trans t1
  replace t2 := (ho 2 (by decide)).trans t2
  replace t3 := (ho 3 (by decide)).trans t3
  replace t8 := (ho 8 (by decide)).trans t8
  replace t9 := (ho 9 (by decide)).trans t9
  replace t12 := (ho 12 (by decide)).trans t12
  replace t13 := (ho 13 (by decide)).trans t13
  replace t14 := (ho 14 (by decide)).trans t14
  replace t15 := (ho 15 (by decide)).trans t15
  replace t16 := (ho 16 (by decide)).trans t16
  replace t17 := (ho 17 (by decide)).trans t17
  replace t148 := (ho 148 (by decide)).trans t148
  replace t157 := (ho 157 (by decide)).trans t157
  replace t159 := (ho 159 (by decide)).trans t159
  clear fr13 ho
  refine take1 14 161 _ (.int .u64 p6) #[true, true, true, true, true, true, true, true, true, true, true, true, true, true, true, false, false, false, false, false, false] r47_i14 r47_d14 (by decide) r47_s r47_f14 r47_r14 r47_g14 rfl hS0 fr14 ?_ ?_
  · intro wx hx; obtain ⟨h0, h1, h2, h3, h4, h5, h6⟩ := hx; simp only [execOp, r47_o14]; go_simp
  intro a15 fr15 t161 ho
  replace t1 := (ho 1 (by decide)).trans t1
  replace t2 := (ho 2 (by decide)).trans t2
  replace t3 := (ho 3 (by decide)).trans t3
  replace t8 := (ho 8 (by decide)).trans t8
  replace t9 := (ho 9 (by decide)).trans t9
  replace t12 := (ho 12 (by decide)).trans t12
  replace t13 := (ho 13 (by decide)).trans t13
  replace t14 := (ho 14 (by decide)).trans t14
  replace t15 := (ho 15 (by decide)).trans t15
  replace t16 := (ho 16 (by decide)).trans t16
  replace t17 := (ho 17 (by decide)).trans t17
  replace t148 := (ho 148 (by decide)).trans t148
  replace t157 := (ho 157 (by decide)).trans t157
  replace t159 := (ho 159 (by decide)).trans t159
  replace t160 := (ho 160 (by decide)).trans t160
  clear fr14 ho
  clear t160
  refine take1 15 162 _ (.slice ra rn rn) #[true, true, true, true, true, true, true, true, true, true, true, true, true, true, true, true, false, false, false, false, false] r47_i15 r47_d15 (by decide) r47_s r47_f15 r47_r15 r47_g15 rfl hS0 fr15 ?_ ?_
  · intro wx hx; obtain ⟨h0, h1, h2, h3, h4, h5, h6⟩ := hx; simp only [execOp, r47_o15]; go_simp
  intro a16 fr16 t162 ho
  replace t1 := (ho 1 (by decide)).trans t1
  replace t2 := (ho 2 (by decide)).trans t2
  replace t3 := (ho 3 (by decide)).trans t3
  replace t8 := (ho 8 (by decide)).trans t8
  replace t9 := (ho 9 (by decide)).trans t9
  replace t12 := (ho 12 (by decide)).trans t12
  replace t13 := (ho 13 (by decide)).trans t13
  replace t14 := (ho 14 (by decide)).trans t14
  replace t15 := (ho 15 (by decide)).trans t15
  replace t16 := (ho 16 (by decide)).trans t16
  replace t17 := (ho 17 (by decide)).trans t17
  replace t148 := (ho 148 (by decide)).trans t148
  replace t157 := (ho 157 (by decide)).trans t157
  replace t159 := (ho 159 (by decide)).trans t159
  replace t161 := (ho 161 (by decide)).trans t161
  clear fr15 ho
  refine take1 16 163 _ (.int .i64 rn) #[true, true, true, true, true, true, true, true, true, true, true, true, true, true, true, true, true, false, false, false, false] r47_i16 r47_d16 (by decide) r47_s r47_f16 r47_r16 r47_g16 rfl hS0 fr16 ?_ ?_
  · intro wx hx; obtain ⟨h0, h1, h2, h3, h4, h5, h6⟩ := hx; simp only [execOp, r47_o16]; go_simp
  intro a17 fr17 t163 ho
  replace t1 := (ho 1 (by decide)).trans t1
  replace t2 := (ho 2 (by decide)).trans t2
  replace t3 := (ho 3 (by decide)).trans t3
  replace t8 := (ho 8 (by decide)).trans t8
  replace t9 := (ho 9 (by decide)).trans t9
  replace t12 := (ho 12 (by decide)).trans t12
  replace t13 := (ho 13 (by decide)).trans t13
  replace t14 := (ho 14 (by decide)).trans t14
  replace t15 := (ho 15 (by decide)).trans t15
  replace t16 := (ho 16 (by decide)).trans t16
  replace t17 := (ho 17 (by decide)).trans t17
  replace t148 := (ho 148 (by decide)).trans t148
  replace t157 := (ho 157 (by decide)).trans t157
  replace t159 := (ho 159 (by decide)).trans t159
  replace t161 := (ho 161 (by decide)).trans t161
  replace t162 := (ho 162 (by decide)).trans t162
  clear fr16 ho
  clear t162
  exact both2 17 19 r47_b (r47_arr na ra nn rn pb ad l z o e p q0 q1 p0 p1 p2 p3 p4 p5 p6 p8 p7 _ w hB hb l2 fr17 t1 t2 t3 t8 t9 t12 t13 t14 t15 t16 t17 t148 t157 t159 t161 t163) (r47_sum na ra nn rn pb ad l z o e p q0 q1 p0 p1 p2 p3 p4 p5 p6 p8 p7 _ w hB hb l2 fr17 t1 t2 t3 t8 t9 t12 t13 t14 t15 t16 t17 t148 t157 t159 t161 t163)

end Go.Proofs.Qxb6602526a
