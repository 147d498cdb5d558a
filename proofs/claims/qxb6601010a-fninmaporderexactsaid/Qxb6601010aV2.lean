import Derived.Test.Qxb6601010aU2
namespace Go.Proofs.Qxb6601010a
open Go.RowKit
set_option linter.unusedSimpArgs false
set_option linter.unusedVariables false

theorem r31_s : Region.noSelect (regOps (hdC (hdC (inC (inC (tlC (inC (hdC (tlC (inC (inC (tlC (bodyC Try.f31))))))))))))) = true := by kernel_rfl
theorem r31_i0 : (regOps (hdC (hdC (inC (inC (tlC (inC (hdC (tlC (inC (inC (tlC (bodyC Try.f31)))))))))))))[0]? = some (regOp (hdC (hdC (inC (inC (tlC (inC (hdC (tlC (inC (inC (tlC (bodyC Try.f31)))))))))))) 0) := by kernel_rfl
theorem r31_d0 : (regOp (hdC (hdC (inC (inC (tlC (inC (hdC (tlC (inC (inC (tlC (bodyC Try.f31)))))))))))) 0).dst = some 18 := by kernel_rfl
theorem r31_g0 : (regOp (hdC (hdC (inC (inC (tlC (inC (hdC (tlC (inC (inC (tlC (bodyC Try.f31)))))))))))) 0).guard = none := by kernel_rfl
theorem r31_o0 : (regOp (hdC (hdC (inC (inC (tlC (inC (hdC (tlC (inC (inC (tlC (bodyC Try.f31)))))))))))) 0).op = Op.move (.tmp 9) := by kernel_rfl
theorem r31_i1 : (regOps (hdC (hdC (inC (inC (tlC (inC (hdC (tlC (inC (inC (tlC (bodyC Try.f31)))))))))))))[1]? = some (regOp (hdC (hdC (inC (inC (tlC (inC (hdC (tlC (inC (inC (tlC (bodyC Try.f31)))))))))))) 1) := by kernel_rfl
theorem r31_d1 : (regOp (hdC (hdC (inC (inC (tlC (inC (hdC (tlC (inC (inC (tlC (bodyC Try.f31)))))))))))) 1).dst = some 19 := by kernel_rfl
theorem r31_g1 : (regOp (hdC (hdC (inC (inC (tlC (inC (hdC (tlC (inC (inC (tlC (bodyC Try.f31)))))))))))) 1).guard = none := by kernel_rfl
theorem r31_o1 : (regOp (hdC (hdC (inC (inC (tlC (inC (hdC (tlC (inC (inC (tlC (bodyC Try.f31)))))))))))) 1).op = Op.move (.tmp 1) := by kernel_rfl
theorem r31_i2 : (regOps (hdC (hdC (inC (inC (tlC (inC (hdC (tlC (inC (inC (tlC (bodyC Try.f31)))))))))))))[2]? = some (regOp (hdC (hdC (inC (inC (tlC (inC (hdC (tlC (inC (inC (tlC (bodyC Try.f31)))))))))))) 2) := by kernel_rfl
theorem r31_d2 : (regOp (hdC (hdC (inC (inC (tlC (inC (hdC (tlC (inC (inC (tlC (bodyC Try.f31)))))))))))) 2).dst = some 20 := by kernel_rfl
theorem r31_g2 : (regOp (hdC (hdC (inC (inC (tlC (inC (hdC (tlC (inC (inC (tlC (bodyC Try.f31)))))))))))) 2).guard = none := by kernel_rfl
theorem r31_o2 : (regOp (hdC (hdC (inC (inC (tlC (inC (hdC (tlC (inC (inC (tlC (bodyC Try.f31)))))))))))) 2).op = Op.binOp .gtr 3 (.tmp 18) (.tmp 19) 3 := by kernel_rfl
theorem r31_i3 : (regOps (hdC (hdC (inC (inC (tlC (inC (hdC (tlC (inC (inC (tlC (bodyC Try.f31)))))))))))))[3]? = some (regOp (hdC (hdC (inC (inC (tlC (inC (hdC (tlC (inC (inC (tlC (bodyC Try.f31)))))))))))) 3) := by kernel_rfl
theorem r31_d3 : (regOp (hdC (hdC (inC (inC (tlC (inC (hdC (tlC (inC (inC (tlC (bodyC Try.f31)))))))))))) 3).dst = some 21 := by kernel_rfl
theorem r31_g3 : (regOp (hdC (hdC (inC (inC (tlC (inC (hdC (tlC (inC (inC (tlC (bodyC Try.f31)))))))))))) 3).guard = none := by kernel_rfl
theorem r31_o3 : (regOp (hdC (hdC (inC (inC (tlC (inC (hdC (tlC (inC (inC (tlC (bodyC Try.f31)))))))))))) 3).op = Op.move (.tmp 20) := by kernel_rfl
theorem r31_i4 : (regOps (hdC (hdC (inC (inC (tlC (inC (hdC (tlC (inC (inC (tlC (bodyC Try.f31)))))))))))))[4]? = some (regOp (hdC (hdC (inC (inC (tlC (inC (hdC (tlC (inC (inC (tlC (bodyC Try.f31)))))))))))) 4) := by kernel_rfl
theorem r31_d4 : (regOp (hdC (hdC (inC (inC (tlC (inC (hdC (tlC (inC (inC (tlC (bodyC Try.f31)))))))))))) 4).dst = some 22 := by kernel_rfl
theorem r31_g4 : (regOp (hdC (hdC (inC (inC (tlC (inC (hdC (tlC (inC (inC (tlC (bodyC Try.f31)))))))))))) 4).guard = some (3, true) := by kernel_rfl
theorem r31_o4 : (regOp (hdC (hdC (inC (inC (tlC (inC (hdC (tlC (inC (inC (tlC (bodyC Try.f31)))))))))))) 4).op = Op.move (.tmp 3) := by kernel_rfl
theorem r31_i5 : (regOps (hdC (hdC (inC (inC (tlC (inC (hdC (tlC (inC (inC (tlC (bodyC Try.f31)))))))))))))[5]? = some (regOp (hdC (hdC (inC (inC (tlC (inC (hdC (tlC (inC (inC (tlC (bodyC Try.f31)))))))))))) 5) := by kernel_rfl
theorem r31_d5 : (regOp (hdC (hdC (inC (inC (tlC (inC (hdC (tlC (inC (inC (tlC (bodyC Try.f31)))))))))))) 5).dst = some 23 := by kernel_rfl
theorem r31_g5 : (regOp (hdC (hdC (inC (inC (tlC (inC (hdC (tlC (inC (inC (tlC (bodyC Try.f31)))))))))))) 5).guard = some (3, true) := by kernel_rfl
theorem r31_o5 : (regOp (hdC (hdC (inC (inC (tlC (inC (hdC (tlC (inC (inC (tlC (bodyC Try.f31)))))))))))) 5).op = Op.move (.tmp 0) := by kernel_rfl
theorem r31_i6 : (regOps (hdC (hdC (inC (inC (tlC (inC (hdC (tlC (inC (inC (tlC (bodyC Try.f31)))))))))))))[6]? = some (regOp (hdC (hdC (inC (inC (tlC (inC (hdC (tlC (inC (inC (tlC (bodyC Try.f31)))))))))))) 6) := by kernel_rfl
theorem r31_d6 : (regOp (hdC (hdC (inC (inC (tlC (inC (hdC (tlC (inC (inC (tlC (bodyC Try.f31)))))))))))) 6).dst = some 24 := by kernel_rfl
theorem r31_g6 : (regOp (hdC (hdC (inC (inC (tlC (inC (hdC (tlC (inC (inC (tlC (bodyC Try.f31)))))))))))) 6).guard = some (3, true) := by kernel_rfl
theorem r31_o6 : (regOp (hdC (hdC (inC (inC (tlC (inC (hdC (tlC (inC (inC (tlC (bodyC Try.f31)))))))))))) 6).op = Op.move (.tmp 9) := by kernel_rfl
theorem r31_i7 : (regOps (hdC (hdC (inC (inC (tlC (inC (hdC (tlC (inC (inC (tlC (bodyC Try.f31)))))))))))))[7]? = some (regOp (hdC (hdC (inC (inC (tlC (inC (hdC (tlC (inC (inC (tlC (bodyC Try.f31)))))))))))) 7) := by kernel_rfl
theorem r31_d7 : (regOp (hdC (hdC (inC (inC (tlC (inC (hdC (tlC (inC (inC (tlC (bodyC Try.f31)))))))))))) 7).dst = some 25 := by kernel_rfl
theorem r31_g7 : (regOp (hdC (hdC (inC (inC (tlC (inC (hdC (tlC (inC (inC (tlC (bodyC Try.f31)))))))))))) 7).guard = some (3, true) := by kernel_rfl
theorem r31_o7 : (regOp (hdC (hdC (inC (inC (tlC (inC (hdC (tlC (inC (inC (tlC (bodyC Try.f31)))))))))))) 7).op = Op.indexAddr 34 (.tmp 23) (.tmp 24) := by kernel_rfl
theorem r31_i8 : (regOps (hdC (hdC (inC (inC (tlC (inC (hdC (tlC (inC (inC (tlC (bodyC Try.f31)))))))))))))[8]? = some (regOp (hdC (hdC (inC (inC (tlC (inC (hdC (tlC (inC (inC (tlC (bodyC Try.f31)))))))))))) 8) := by kernel_rfl
theorem r31_d8 : (regOp (hdC (hdC (inC (inC (tlC (inC (hdC (tlC (inC (inC (tlC (bodyC Try.f31)))))))))))) 8).dst = some 26 := by kernel_rfl
theorem r31_g8 : (regOp (hdC (hdC (inC (inC (tlC (inC (hdC (tlC (inC (inC (tlC (bodyC Try.f31)))))))))))) 8).guard = some (3, true) := by kernel_rfl
theorem r31_o8 : (regOp (hdC (hdC (inC (inC (tlC (inC (hdC (tlC (inC (inC (tlC (bodyC Try.f31)))))))))))) 8).op = Op.load 39 (.tmp 25) := by kernel_rfl
theorem r31_i9 : (regOps (hdC (hdC (inC (inC (tlC (inC (hdC (tlC (inC (inC (tlC (bodyC Try.f31)))))))))))))[9]? = some (regOp (hdC (hdC (inC (inC (tlC (inC (hdC (tlC (inC (inC (tlC (bodyC Try.f31)))))))))))) 9) := by kernel_rfl
theorem r31_d9 : (regOp (hdC (hdC (inC (inC (tlC (inC (hdC (tlC (inC (inC (tlC (bodyC Try.f31)))))))))))) 9).dst = some 27 := by kernel_rfl
theorem r31_g9 : (regOp (hdC (hdC (inC (inC (tlC (inC (hdC (tlC (inC (inC (tlC (bodyC Try.f31)))))))))))) 9).guard = some (3, true) := by kernel_rfl
theorem r31_o9 : (regOp (hdC (hdC (inC (inC (tlC (inC (hdC (tlC (inC (inC (tlC (bodyC Try.f31)))))))))))) 9).op = Op.move (.tmp 0) := by kernel_rfl
theorem r31_i10 : (regOps (hdC (hdC (inC (inC (tlC (inC (hdC (tlC (inC (inC (tlC (bodyC Try.f31)))))))))))))[10]? = some (regOp (hdC (hdC (inC (inC (tlC (inC (hdC (tlC (inC (inC (tlC (bodyC Try.f31)))))))))))) 10) := by kernel_rfl
theorem r31_d10 : (regOp (hdC (hdC (inC (inC (tlC (inC (hdC (tlC (inC (inC (tlC (bodyC Try.f31)))))))))))) 10).dst = some 28 := by kernel_rfl
theorem r31_g10 : (regOp (hdC (hdC (inC (inC (tlC (inC (hdC (tlC (inC (inC (tlC (bodyC Try.f31)))))))))))) 10).guard = some (3, true) := by kernel_rfl
theorem r31_o10 : (regOp (hdC (hdC (inC (inC (tlC (inC (hdC (tlC (inC (inC (tlC (bodyC Try.f31)))))))))))) 10).op = Op.move (.tmp 9) := by kernel_rfl
theorem r31_i11 : (regOps (hdC (hdC (inC (inC (tlC (inC (hdC (tlC (inC (inC (tlC (bodyC Try.f31)))))))))))))[11]? = some (regOp (hdC (hdC (inC (inC (tlC (inC (hdC (tlC (inC (inC (tlC (bodyC Try.f31)))))))))))) 11) := by kernel_rfl
theorem r31_d11 : (regOp (hdC (hdC (inC (inC (tlC (inC (hdC (tlC (inC (inC (tlC (bodyC Try.f31)))))))))))) 11).dst = some 29 := by kernel_rfl
theorem r31_g11 : (regOp (hdC (hdC (inC (inC (tlC (inC (hdC (tlC (inC (inC (tlC (bodyC Try.f31)))))))))))) 11).guard = some (3, true) := by kernel_rfl
theorem r31_o11 : (regOp (hdC (hdC (inC (inC (tlC (inC (hdC (tlC (inC (inC (tlC (bodyC Try.f31)))))))))))) 11).op = Op.binOp .sub 3 (.tmp 28) (.const (.int .i64 1)) 3 := by kernel_rfl
theorem r31_i12 : (regOps (hdC (hdC (inC (inC (tlC (inC (hdC (tlC (inC (inC (tlC (bodyC Try.f31)))))))))))))[12]? = some (regOp (hdC (hdC (inC (inC (tlC (inC (hdC (tlC (inC (inC (tlC (bodyC Try.f31)))))))))))) 12) := by kernel_rfl
theorem r31_d12 : (regOp (hdC (hdC (inC (inC (tlC (inC (hdC (tlC (inC (inC (tlC (bodyC Try.f31)))))))))))) 12).dst = some 30 := by kernel_rfl
theorem r31_g12 : (regOp (hdC (hdC (inC (inC (tlC (inC (hdC (tlC (inC (inC (tlC (bodyC Try.f31)))))))))))) 12).guard = some (3, true) := by kernel_rfl
theorem r31_o12 : (regOp (hdC (hdC (inC (inC (tlC (inC (hdC (tlC (inC (inC (tlC (bodyC Try.f31)))))))))))) 12).op = Op.indexAddr 34 (.tmp 27) (.tmp 29) := by kernel_rfl
theorem r31_i13 : (regOps (hdC (hdC (inC (inC (tlC (inC (hdC (tlC (inC (inC (tlC (bodyC Try.f31)))))))))))))[13]? = some (regOp (hdC (hdC (inC (inC (tlC (inC (hdC (tlC (inC (inC (tlC (bodyC Try.f31)))))))))))) 13) := by kernel_rfl
theorem r31_d13 : (regOp (hdC (hdC (inC (inC (tlC (inC (hdC (tlC (inC (inC (tlC (bodyC Try.f31)))))))))))) 13).dst = some 31 := by kernel_rfl
theorem r31_g13 : (regOp (hdC (hdC (inC (inC (tlC (inC (hdC (tlC (inC (inC (tlC (bodyC Try.f31)))))))))))) 13).guard = some (3, true) := by kernel_rfl
theorem r31_o13 : (regOp (hdC (hdC (inC (inC (tlC (inC (hdC (tlC (inC (inC (tlC (bodyC Try.f31)))))))))))) 13).op = Op.load 39 (.tmp 30) := by kernel_rfl
theorem r31_i14 : (regOps (hdC (hdC (inC (inC (tlC (inC (hdC (tlC (inC (inC (tlC (bodyC Try.f31)))))))))))))[14]? = some (regOp (hdC (hdC (inC (inC (tlC (inC (hdC (tlC (inC (inC (tlC (bodyC Try.f31)))))))))))) 14) := by kernel_rfl
theorem r31_d14 : (regOp (hdC (hdC (inC (inC (tlC (inC (hdC (tlC (inC (inC (tlC (bodyC Try.f31)))))))))))) 14).dst = some 32 := by kernel_rfl
theorem r31_g14 : (regOp (hdC (hdC (inC (inC (tlC (inC (hdC (tlC (inC (inC (tlC (bodyC Try.f31)))))))))))) 14).guard = some (3, true) := by kernel_rfl
theorem r31_o14 : (regOp (hdC (hdC (inC (inC (tlC (inC (hdC (tlC (inC (inC (tlC (bodyC Try.f31)))))))))))) 14).op = Op.call { callee := .value (.tmp 22), args := #[.tmp 26, .tmp 31], argTypes := #[39, 39] } := by kernel_rfl
theorem r31_i15 : (regOps (hdC (hdC (inC (inC (tlC (inC (hdC (tlC (inC (inC (tlC (bodyC Try.f31)))))))))))))[15]? = some (regOp (hdC (hdC (inC (inC (tlC (inC (hdC (tlC (inC (inC (tlC (bodyC Try.f31)))))))))))) 15) := by kernel_rfl
theorem r31_d15 : (regOp (hdC (hdC (inC (inC (tlC (inC (hdC (tlC (inC (inC (tlC (bodyC Try.f31)))))))))))) 15).dst = some 33 := by kernel_rfl
theorem r31_g15 : (regOp (hdC (hdC (inC (inC (tlC (inC (hdC (tlC (inC (inC (tlC (bodyC Try.f31)))))))))))) 15).guard = some (3, true) := by kernel_rfl
theorem r31_o15 : (regOp (hdC (hdC (inC (inC (tlC (inC (hdC (tlC (inC (inC (tlC (bodyC Try.f31)))))))))))) 15).op = Op.binOp .lss 3 (.tmp 32) (.const (.int .i64 0)) 3 := by kernel_rfl
theorem r31_i16 : (regOps (hdC (hdC (inC (inC (tlC (inC (hdC (tlC (inC (inC (tlC (bodyC Try.f31)))))))))))))[16]? = some (regOp (hdC (hdC (inC (inC (tlC (inC (hdC (tlC (inC (inC (tlC (bodyC Try.f31)))))))))))) 16) := by kernel_rfl
theorem r31_d16 : (regOp (hdC (hdC (inC (inC (tlC (inC (hdC (tlC (inC (inC (tlC (bodyC Try.f31)))))))))))) 16).dst = some 34 := by kernel_rfl
theorem r31_g16 : (regOp (hdC (hdC (inC (inC (tlC (inC (hdC (tlC (inC (inC (tlC (bodyC Try.f31)))))))))))) 16).guard = none := by kernel_rfl
theorem r31_o16 : (regOp (hdC (hdC (inC (inC (tlC (inC (hdC (tlC (inC (inC (tlC (bodyC Try.f31)))))))))))) 16).op = Op.pick (.tmp 21) (.tmp 33) (.const (.bool false)) := by kernel_rfl
theorem r31_f0 : Region.free .any (regOps (hdC (hdC (inC (inC (tlC (inC (hdC (tlC (inC (inC (tlC (bodyC Try.f31))))))))))))) #[false, false, false, false, false, false, false, false, false, false, false, false, false, false, false, false, false] 0 = true := by kernel_rfl
theorem r31_r0 : (Region.ready .any (regOps (hdC (hdC (inC (inC (tlC (inC (hdC (tlC (inC (inC (tlC (bodyC Try.f31))))))))))))) #[false, false, false, false, false, false, false, false, false, false, false, false, false, false, false, false, false]).contains 0 = true := by kernel_rfl
theorem r31_f1 : Region.free .any (regOps (hdC (hdC (inC (inC (tlC (inC (hdC (tlC (inC (inC (tlC (bodyC Try.f31))))))))))))) #[true, false, false, false, false, false, false, false, false, false, false, false, false, false, false, false, false] 1 = true := by kernel_rfl
theorem r31_r1 : (Region.ready .any (regOps (hdC (hdC (inC (inC (tlC (inC (hdC (tlC (inC (inC (tlC (bodyC Try.f31))))))))))))) #[true, false, false, false, false, false, false, false, false, false, false, false, false, false, false, false, false]).contains 1 = true := by kernel_rfl
theorem r31_f2 : Region.free .any (regOps (hdC (hdC (inC (inC (tlC (inC (hdC (tlC (inC (inC (tlC (bodyC Try.f31))))))))))))) #[true, true, false, false, false, false, false, false, false, false, false, false, false, false, false, false, false] 2 = true := by kernel_rfl
theorem r31_r2 : (Region.ready .any (regOps (hdC (hdC (inC (inC (tlC (inC (hdC (tlC (inC (inC (tlC (bodyC Try.f31))))))))))))) #[true, true, false, false, false, false, false, false, false, false, false, false, false, false, false, false, false]).contains 2 = true := by kernel_rfl
theorem r31_f3 : Region.free .any (regOps (hdC (hdC (inC (inC (tlC (inC (hdC (tlC (inC (inC (tlC (bodyC Try.f31))))))))))))) #[true, true, true, false, false, false, false, false, false, false, false, false, false, false, false, false, false] 3 = true := by kernel_rfl
theorem r31_r3 : (Region.ready .any (regOps (hdC (hdC (inC (inC (tlC (inC (hdC (tlC (inC (inC (tlC (bodyC Try.f31))))))))))))) #[true, true, true, false, false, false, false, false, false, false, false, false, false, false, false, false, false]).contains 3 = true := by kernel_rfl
theorem r31_f4 : Region.free .any (regOps (hdC (hdC (inC (inC (tlC (inC (hdC (tlC (inC (inC (tlC (bodyC Try.f31))))))))))))) #[true, true, true, true, false, false, false, false, false, false, false, false, false, false, false, false, false] 4 = true := by kernel_rfl
theorem r31_r4 : (Region.ready .any (regOps (hdC (hdC (inC (inC (tlC (inC (hdC (tlC (inC (inC (tlC (bodyC Try.f31))))))))))))) #[true, true, true, true, false, false, false, false, false, false, false, false, false, false, false, false, false]).contains 4 = true := by kernel_rfl
theorem r31_f5 : Region.free .any (regOps (hdC (hdC (inC (inC (tlC (inC (hdC (tlC (inC (inC (tlC (bodyC Try.f31))))))))))))) #[true, true, true, true, true, false, false, false, false, false, false, false, false, false, false, false, false] 5 = true := by kernel_rfl
theorem r31_r5 : (Region.ready .any (regOps (hdC (hdC (inC (inC (tlC (inC (hdC (tlC (inC (inC (tlC (bodyC Try.f31))))))))))))) #[true, true, true, true, true, false, false, false, false, false, false, false, false, false, false, false, false]).contains 5 = true := by kernel_rfl
theorem r31_f6 : Region.free .any (regOps (hdC (hdC (inC (inC (tlC (inC (hdC (tlC (inC (inC (tlC (bodyC Try.f31))))))))))))) #[true, true, true, true, true, true, false, false, false, false, false, false, false, false, false, false, false] 6 = true := by kernel_rfl
theorem r31_r6 : (Region.ready .any (regOps (hdC (hdC (inC (inC (tlC (inC (hdC (tlC (inC (inC (tlC (bodyC Try.f31))))))))))))) #[true, true, true, true, true, true, false, false, false, false, false, false, false, false, false, false, false]).contains 6 = true := by kernel_rfl
theorem r31_f7 : Region.free .any (regOps (hdC (hdC (inC (inC (tlC (inC (hdC (tlC (inC (inC (tlC (bodyC Try.f31))))))))))))) #[true, true, true, true, true, true, true, false, false, false, false, false, false, false, false, false, false] 7 = true := by kernel_rfl
theorem r31_r7 : (Region.ready .any (regOps (hdC (hdC (inC (inC (tlC (inC (hdC (tlC (inC (inC (tlC (bodyC Try.f31))))))))))))) #[true, true, true, true, true, true, true, false, false, false, false, false, false, false, false, false, false]).contains 7 = true := by kernel_rfl
theorem r31_f8 : Region.free .any (regOps (hdC (hdC (inC (inC (tlC (inC (hdC (tlC (inC (inC (tlC (bodyC Try.f31))))))))))))) #[true, true, true, true, true, true, true, true, false, false, false, false, false, false, false, false, false] 8 = true := by kernel_rfl
theorem r31_r8 : (Region.ready .any (regOps (hdC (hdC (inC (inC (tlC (inC (hdC (tlC (inC (inC (tlC (bodyC Try.f31))))))))))))) #[true, true, true, true, true, true, true, true, false, false, false, false, false, false, false, false, false]).contains 8 = true := by kernel_rfl
theorem r31_f9 : Region.free .any (regOps (hdC (hdC (inC (inC (tlC (inC (hdC (tlC (inC (inC (tlC (bodyC Try.f31))))))))))))) #[true, true, true, true, true, true, true, true, true, false, false, false, false, false, false, false, false] 9 = true := by kernel_rfl
theorem r31_r9 : (Region.ready .any (regOps (hdC (hdC (inC (inC (tlC (inC (hdC (tlC (inC (inC (tlC (bodyC Try.f31))))))))))))) #[true, true, true, true, true, true, true, true, true, false, false, false, false, false, false, false, false]).contains 9 = true := by kernel_rfl
theorem r31_f10 : Region.free .any (regOps (hdC (hdC (inC (inC (tlC (inC (hdC (tlC (inC (inC (tlC (bodyC Try.f31))))))))))))) #[true, true, true, true, true, true, true, true, true, true, false, false, false, false, false, false, false] 10 = true := by kernel_rfl
theorem r31_r10 : (Region.ready .any (regOps (hdC (hdC (inC (inC (tlC (inC (hdC (tlC (inC (inC (tlC (bodyC Try.f31))))))))))))) #[true, true, true, true, true, true, true, true, true, true, false, false, false, false, false, false, false]).contains 10 = true := by kernel_rfl
theorem r31_f11 : Region.free .any (regOps (hdC (hdC (inC (inC (tlC (inC (hdC (tlC (inC (inC (tlC (bodyC Try.f31))))))))))))) #[true, true, true, true, true, true, true, true, true, true, true, false, false, false, false, false, false] 11 = true := by kernel_rfl
theorem r31_r11 : (Region.ready .any (regOps (hdC (hdC (inC (inC (tlC (inC (hdC (tlC (inC (inC (tlC (bodyC Try.f31))))))))))))) #[true, true, true, true, true, true, true, true, true, true, true, false, false, false, false, false, false]).contains 11 = true := by kernel_rfl
theorem r31_f12 : Region.free .any (regOps (hdC (hdC (inC (inC (tlC (inC (hdC (tlC (inC (inC (tlC (bodyC Try.f31))))))))))))) #[true, true, true, true, true, true, true, true, true, true, true, true, false, false, false, false, false] 12 = true := by kernel_rfl
theorem r31_r12 : (Region.ready .any (regOps (hdC (hdC (inC (inC (tlC (inC (hdC (tlC (inC (inC (tlC (bodyC Try.f31))))))))))))) #[true, true, true, true, true, true, true, true, true, true, true, true, false, false, false, false, false]).contains 12 = true := by kernel_rfl
theorem r31_f13 : Region.free .any (regOps (hdC (hdC (inC (inC (tlC (inC (hdC (tlC (inC (inC (tlC (bodyC Try.f31))))))))))))) #[true, true, true, true, true, true, true, true, true, true, true, true, true, false, false, false, false] 13 = true := by kernel_rfl
theorem r31_r13 : (Region.ready .any (regOps (hdC (hdC (inC (inC (tlC (inC (hdC (tlC (inC (inC (tlC (bodyC Try.f31))))))))))))) #[true, true, true, true, true, true, true, true, true, true, true, true, true, false, false, false, false]).contains 13 = true := by kernel_rfl
theorem r31_r14 : Region.ready .any (regOps (hdC (hdC (inC (inC (tlC (inC (hdC (tlC (inC (inC (tlC (bodyC Try.f31))))))))))))) #[true, true, true, true, true, true, true, true, true, true, true, true, true, true, false, false, false] = [14] := by kernel_rfl
theorem r31_f15 : Region.free .any (regOps (hdC (hdC (inC (inC (tlC (inC (hdC (tlC (inC (inC (tlC (bodyC Try.f31))))))))))))) #[true, true, true, true, true, true, true, true, true, true, true, true, true, true, true, false, false] 15 = true := by kernel_rfl
theorem r31_r15 : (Region.ready .any (regOps (hdC (hdC (inC (inC (tlC (inC (hdC (tlC (inC (inC (tlC (bodyC Try.f31))))))))))))) #[true, true, true, true, true, true, true, true, true, true, true, true, true, true, true, false, false]).contains 15 = true := by kernel_rfl
theorem r31_f16 : Region.free .any (regOps (hdC (hdC (inC (inC (tlC (inC (hdC (tlC (inC (inC (tlC (bodyC Try.f31))))))))))))) #[true, true, true, true, true, true, true, true, true, true, true, true, true, true, true, true, false] 16 = true := by kernel_rfl
theorem r31_r16 : (Region.ready .any (regOps (hdC (hdC (inC (inC (tlC (inC (hdC (tlC (inC (inC (tlC (bodyC Try.f31))))))))))))) #[true, true, true, true, true, true, true, true, true, true, true, true, true, true, true, true, false]).contains 16 = true := by kernel_rfl
theorem r31_re : Region.ready .any (regOps (hdC (hdC (inC (inC (tlC (inC (hdC (tlC (inC (inC (tlC (bodyC Try.f31))))))))))))) #[true, true, true, true, true, true, true, true, true, true, true, true, true, true, true, true, true] = [] := by kernel_rfl

set_option maxRecDepth 10000 in
set_option maxHeartbeats 1000000 in
theorem r31 (b n c lo hi i j j1 : Nat) (ej ej1 : Hd) (cv : Int) (G : World → Prop) (a : Act) (w : World) (Q : Exit → Act → World → Prop) (hfr : Fr 53 a) (hs : Slots [(0, .slice (some ⟨b, 0, none⟩) n c), (1, .int .i64 (lo : Nat)), (2, .int .i64 (hi : Nat)), (3, .func (.func 27) #[] #[]), (8, .int .i64 (i : Nat)), (9, .int .i64 (j : Nat))] a)
    (hj10 : IntKind.i64.wrap ((j : Int) - 1) = (j1 : Int))
    (lj : (j : Int) < n) (lj1 : (j1 : Int) < n) (hSw : (fun w' : World => w'.cell? ⟨b, j * 2, none⟩ = some (.string ej.nm) ∧ w'.cell? ⟨b, j * 2 + 1, none⟩ = some (.slice (some ⟨ej.vb, 0, none⟩) 2 2) ∧ w'.cell? ⟨b, j1 * 2, none⟩ = some (.string ej1.nm) ∧ w'.cell? ⟨b, j1 * 2 + 1, none⟩ = some (.slice (some ⟨ej1.vb, 0, none⟩) 2 2)) w) (lo1 : (lo : Int) < j)
    (hcall : Calls Try.prog 27 #[.agg #[.string ej.nm, .slice (some ⟨ej.vb, 0, none⟩) 2 2], .agg #[.string ej1.nm, .slice (some ⟨ej1.vb, 0, none⟩) 2 2]] w.drew fun e w' => e = .returned (.int .i64 cv) ∧ (fun w' : World => w'.cell? ⟨b, j * 2, none⟩ = some (.string ej.nm) ∧ w'.cell? ⟨b, j * 2 + 1, none⟩ = some (.slice (some ⟨ej.vb, 0, none⟩) 2 2) ∧ w'.cell? ⟨b, j1 * 2, none⟩ = some (.string ej1.nm) ∧ w'.cell? ⟨b, j1 * 2 + 1, none⟩ = some (.slice (some ⟨ej1.vb, 0, none⟩) 2 2)) w' ∧ G w')
    (hQ : ∀ a' w', G w' → Fr 53 a' → Slots [(0, .slice (some ⟨b, 0, none⟩) n c), (1, .int .i64 (lo : Nat)), (2, .int .i64 (hi : Nat)), (3, .func (.func 27) #[] #[]), (8, .int .i64 (i : Nat)), (9, .int .i64 (j : Nat)), (34, .bool (decide (cv < 0)))] a' → Q .normal a' w') :
    Code.wp Try.prog (hdC (hdC (inC (inC (tlC (inC (hdC (tlC (inC (inC (tlC (bodyC Try.f31)))))))))))) Q a w := by
  obtain ⟨t0, t1, t2, t3, t8, t9, -⟩ := hs
  replace t0 : a.tmps[0]?.getD undef = .slice (some ⟨b, 0, none⟩) n c := (sl_at a 0).symm.trans t0
  replace t1 : a.tmps[1]?.getD undef = .int .i64 (lo : Nat) := (sl_at a 1).symm.trans t1
  replace t2 : a.tmps[2]?.getD undef = .int .i64 (hi : Nat) := (sl_at a 2).symm.trans t2
  replace t3 : a.tmps[3]?.getD undef = .func (.func 27) #[] #[] := (sl_at a 3).symm.trans t3
  replace t8 : a.tmps[8]?.getD undef = .int .i64 (i : Nat) := (sl_at a 8).symm.trans t8
  replace t9 : a.tmps[9]?.getD undef = .int .i64 (j : Nat) := (sl_at a 9).symm.trans t9
  have hS0 : (fun w' : World => w'.cell? ⟨b, j * 2, none⟩ = some (.string ej.nm) ∧ w'.cell? ⟨b, j * 2 + 1, none⟩ = some (.slice (some ⟨ej.vb, 0, none⟩) 2 2) ∧ w'.cell? ⟨b, j1 * 2, none⟩ = some (.string ej1.nm) ∧ w'.cell? ⟨b, j1 * 2 + 1, none⟩ = some (.slice (some ⟨ej1.vb, 0, none⟩) 2 2)) w.drew := hSw
  clear hSw
  refine wp_navR (fun w' : World => w'.cell? ⟨b, j * 2, none⟩ = some (.string ej.nm) ∧ w'.cell? ⟨b, j * 2 + 1, none⟩ = some (.slice (some ⟨ej.vb, 0, none⟩) 2 2) ∧ w'.cell? ⟨b, j1 * 2, none⟩ = some (.string ej1.nm) ∧ w'.cell? ⟨b, j1 * 2 + 1, none⟩ = some (.slice (some ⟨ej1.vb, 0, none⟩) 2 2)) (fun a' w' => G w' ∧ Fr 53 a' ∧ Slots [(0, .slice (some ⟨b, 0, none⟩) n c), (1, .int .i64 (lo : Nat)), (2, .int .i64 (hi : Nat)), (3, .func (.func 27) #[] #[]), (8, .int .i64 (i : Nat)), (9, .int .i64 (j : Nat)), (34, .bool (decide (cv < 0)))] a') 17 #[false, false, false, false, false, false, false, false, false, false, false, false, false, false, false, false, false] (by kernel_rfl) (by kernel_rfl) (by kernel_rfl) rfl ?_ (fun a' w' ⟨h1, h2, h3⟩ => hQ a' w' h1 h2 h3)
  clear hQ
  refine take1w 0 18 _ (.int .i64 (j : Nat)) #[true, false, false, false, false, false, false, false, false, false, false, false, false, false, false, false, false] r31_i0 r31_d0 (by decide) r31_s r31_f0 r31_r0 (wanted_none r31_g0) rfl hS0 hfr ?_ ?_
  · intro wx hx; obtain ⟨h0, h1, h2, h3⟩ := hx; simp only [execOp, r31_o0]; go_simp
  intro a1 fr1 t18 ho
  replace t0 := (ho 0 (by decide)).trans t0
  replace t1 := (ho 1 (by decide)).trans t1
  replace t2 := (ho 2 (by decide)).trans t2
  replace t3 := (ho 3 (by decide)).trans t3
  replace t8 := (ho 8 (by decide)).trans t8
  replace t9 := (ho 9 (by decide)).trans t9
  clear hfr ho
  refine take1w 1 19 _ (.int .i64 (lo : Nat)) #[true, true, false, false, false, false, false, false, false, false, false, false, false, false, false, false, false] r31_i1 r31_d1 (by decide) r31_s r31_f1 r31_r1 (wanted_none r31_g1) rfl hS0 fr1 ?_ ?_
  · intro wx hx; obtain ⟨h0, h1, h2, h3⟩ := hx; simp only [execOp, r31_o1]; go_simp
  intro a2 fr2 t19 ho
  replace t0 := (ho 0 (by decide)).trans t0
  replace t1 := (ho 1 (by decide)).trans t1
  replace t2 := (ho 2 (by decide)).trans t2
  replace t3 := (ho 3 (by decide)).trans t3
  replace t8 := (ho 8 (by decide)).trans t8
  replace t9 := (ho 9 (by decide)).trans t9
  replace t18 := (ho 18 (by decide)).trans t18
  clear fr1 ho
  refine take1w 2 20 _ (.bool true) #[true, true, true, false, false, false, false, false, false, false, false, false, false, false, false, false, false] r31_i2 r31_d2 (by decide) r31_s r31_f2 r31_r2 (wanted_none r31_g2) rfl hS0 fr2 ?_ ?_
  · intro wx hx; obtain ⟨h0, h1, h2, h3⟩ := hx; simp only [execOp, r31_o2]; go_simp
  intro a3 fr3 t20 ho
  replace t0 := (ho 0 (by decide)).trans t0
  replace t1 := (ho 1 (by decide)).trans t1
  replace t2 := (ho 2 (by decide)).trans t2
  replace t3 := (ho 3 (by decide)).trans t3
  replace t8 := (ho 8 (by decide)).trans t8
  replace t9 := (ho 9 (by decide)).trans t9
  replace t18 := (ho 18 (by decide)).trans t18
  replace t19 := (ho 19 (by decide)).trans t19
  clear fr2 ho
  refine take1w 3 21 _ (.bool true) #[true, true, true, true, false, false, false, false, false, false, false, false, false, false, false, false, false] r31_i3 r31_d3 (by decide) r31_s r31_f3 r31_r3 (wanted_none r31_g3) rfl hS0 fr3 ?_ ?_
  · intro wx hx; obtain ⟨h0, h1, h2, h3⟩ := hx; simp only [execOp, r31_o3]; go_simp
  intro a4 fr4 t21 ho
  replace t0 := (ho 0 (by decide)).trans t0
  replace t1 := (ho 1 (by decide)).trans t1
  replace t2 := (ho 2 (by decide)).trans t2
  replace t3 := (ho 3 (by decide)).trans t3
  replace t8 := (ho 8 (by decide)).trans t8
  replace t9 := (ho 9 (by decide)).trans t9
  replace t18 := (ho 18 (by decide)).trans t18
  replace t19 := (ho 19 (by decide)).trans t19
  replace t20 := (ho 20 (by decide)).trans t20
  clear fr3 ho
  refine take1w 4 22 _ (.func (.func 27) #[] #[]) #[true, true, true, true, true, false, false, false, false, false, false, false, false, false, false, false, false] r31_i4 r31_d4 (by decide) r31_s r31_f4 r31_r4 (wanted_of r31_g4 r31_i3 r31_d3 t21) rfl hS0 fr4 ?_ ?_
  · intro wx hx; obtain ⟨h0, h1, h2, h3⟩ := hx; simp only [execOp, r31_o4]; go_simp
  intro a5 fr5 t22 ho
  replace t0 := (ho 0 (by decide)).trans t0
  replace t1 := (ho 1 (by decide)).trans t1
  replace t2 := (ho 2 (by decide)).trans t2
  replace t3 := (ho 3 (by decide)).trans t3
  replace t8 := (ho 8 (by decide)).trans t8
  replace t9 := (ho 9 (by decide)).trans t9
  replace t18 := (ho 18 (by decide)).trans t18
  replace t19 := (ho 19 (by decide)).trans t19
  replace t20 := (ho 20 (by decide)).trans t20
  replace t21 := (ho 21 (by decide)).trans t21
  clear fr4 ho
  refine take1w 5 23 _ (.slice (some ⟨b, 0, none⟩) n c) #[true, true, true, true, true, true, false, false, false, false, false, false, false, false, false, false, false] r31_i5 r31_d5 (by decide) r31_s r31_f5 r31_r5 (wanted_of r31_g5 r31_i3 r31_d3 t21) rfl hS0 fr5 ?_ ?_
  · intro wx hx; obtain ⟨h0, h1, h2, h3⟩ := hx; simp only [execOp, r31_o5]; go_simp
  intro a6 fr6 t23 ho
  replace t0 := (ho 0 (by decide)).trans t0
  replace t1 := (ho 1 (by decide)).trans t1
  replace t2 := (ho 2 (by decide)).trans t2
  replace t3 := (ho 3 (by decide)).trans t3
  replace t8 := (ho 8 (by decide)).trans t8
  replace t9 := (ho 9 (by decide)).trans t9
  replace t18 := (ho 18 (by decide)).trans t18
  replace t19 := (ho 19 (by decide)).trans t19
  replace t20 := (ho 20 (by decide)).trans t20
  replace t21 := (ho 21 (by decide)).trans t21
  replace t22 := (ho 22 (by decide)).trans t22
  clear fr5 ho
  refine take1w 6 24 _ (.int .i64 (j : Nat)) #[true, true, true, true, true, true, true, false, false, false, false, false, false, false, false, false, false] r31_i6 r31_d6 (by decide) r31_s r31_f6 r31_r6 (wanted_of r31_g6 r31_i3 r31_d3 t21) rfl hS0 fr6 ?_ ?_
  · intro wx hx; obtain ⟨h0, h1, h2, h3⟩ := hx; simp only [execOp, r31_o6]; go_simp
  intro a7 fr7 t24 ho
  replace t0 := (ho 0 (by decide)).trans t0
  replace t1 := (ho 1 (by decide)).trans t1
  replace t2 := (ho 2 (by decide)).trans t2
  replace t3 := (ho 3 (by decide)).trans t3
  replace t8 := (ho 8 (by decide)).trans t8
  replace t9 := (ho 9 (by decide)).trans t9
  replace t18 := (ho 18 (by decide)).trans t18
  replace t19 := (ho 19 (by decide)).trans t19
  replace t20 := (ho 20 (by decide)).trans t20
  replace t21 := (ho 21 (by decide)).trans t21
  replace t22 := (ho 22 (by decide)).trans t22
  replace t23 := (ho 23 (by decide)).trans t23
  clear fr6 ho
  refine take1w 7 25 _ (.pointer (some ⟨b, j * 2, none⟩)) #[true, true, true, true, true, true, true, true, false, false, false, false, false, false, false, false, false] r31_i7 r31_d7 (by decide) r31_s r31_f7 r31_r7 (wanted_of r31_g7 r31_i3 r31_d3 t21) rfl hS0 fr7 ?_ ?_
  · intro wx hx; obtain ⟨h0, h1, h2, h3⟩ := hx; simp only [execOp, r31_o7]; go_simp
  intro a8 fr8 t25 ho
  replace t0 := (ho 0 (by decide)).trans t0
  replace t1 := (ho 1 (by decide)).trans t1
  replace t2 := (ho 2 (by decide)).trans t2
  replace t3 := (ho 3 (by decide)).trans t3
  replace t8 := (ho 8 (by decide)).trans t8
  replace t9 := (ho 9 (by decide)).trans t9
  replace t18 := (ho 18 (by decide)).trans t18
  replace t19 := (ho 19 (by decide)).trans t19
  replace t20 := (ho 20 (by decide)).trans t20
  replace t21 := (ho 21 (by decide)).trans t21
  replace t22 := (ho 22 (by decide)).trans t22
  replace t23 := (ho 23 (by decide)).trans t23
  replace t24 := (ho 24 (by decide)).trans t24
  clear fr7 ho
  refine take1w 8 26 _ (.agg #[.string ej.nm, .slice (some ⟨ej.vb, 0, none⟩) 2 2]) #[true, true, true, true, true, true, true, true, true, false, false, false, false, false, false, false, false] r31_i8 r31_d8 (by decide) r31_s r31_f8 r31_r8 (wanted_of r31_g8 r31_i3 r31_d3 t21) rfl hS0 fr8 ?_ ?_
  · intro wx hx; obtain ⟨h0, h1, h2, h3⟩ := hx; simp only [execOp, r31_o8]; go_simp
  intro a9 fr9 t26 ho
  replace t0 := (ho 0 (by decide)).trans t0
  replace t1 := (ho 1 (by decide)).trans t1
  replace t2 := (ho 2 (by decide)).trans t2
  replace t3 := (ho 3 (by decide)).trans t3
  replace t8 := (ho 8 (by decide)).trans t8
  replace t9 := (ho 9 (by decide)).trans t9
  replace t18 := (ho 18 (by decide)).trans t18
  replace t19 := (ho 19 (by decide)).trans t19
  replace t20 := (ho 20 (by decide)).trans t20
  replace t21 := (ho 21 (by decide)).trans t21
  replace t22 := (ho 22 (by decide)).trans t22
  replace t23 := (ho 23 (by decide)).trans t23
  replace t24 := (ho 24 (by decide)).trans t24
  replace t25 := (ho 25 (by decide)).trans t25
  clear fr8 ho
  refine take1w 9 27 _ (.slice (some ⟨b, 0, none⟩) n c) #[true, true, true, true, true, true, true, true, true, true, false, false, false, false, false, false, false] r31_i9 r31_d9 (by decide) r31_s r31_f9 r31_r9 (wanted_of r31_g9 r31_i3 r31_d3 t21) rfl hS0 fr9 ?_ ?_
  · intro wx hx; obtain ⟨h0, h1, h2, h3⟩ := hx; simp only [execOp, r31_o9]; go_simp
  intro a10 fr10 t27 ho
  replace t0 := (ho 0 (by decide)).trans t0
  replace t1 := (ho 1 (by decide)).trans t1
  replace t2 := (ho 2 (by decide)).trans t2
  replace t3 := (ho 3 (by decide)).trans t3
  replace t8 := (ho 8 (by decide)).trans t8
  replace t9 := (ho 9 (by decide)).trans t9
  replace t18 := (ho 18 (by decide)).trans t18
  replace t19 := (ho 19 (by decide)).trans t19
  replace t20 := (ho 20 (by decide)).trans t20
  replace t21 := (ho 21 (by decide)).trans t21
  replace t22 := (ho 22 (by decide)).trans t22
  replace t23 := (ho 23 (by decide)).trans t23
  replace t24 := (ho 24 (by decide)).trans t24
  replace t25 := (ho 25 (by decide)).trans t25
  replace t26 := (ho 26 (by decide)).trans t26
  clear fr9 ho
  refine take1w 10 28 _ (.int .i64 (j : Nat)) #[true, true, true, true, true, true, true, true, true, true, true, false, false, false, false, false, false] r31_i10 r31_d10 (by decide) r31_s r31_f10 r31_r10 (wanted_of r31_g10 r31_i3 r31_d3 t21) rfl hS0 fr10 ?_ ?_
  · intro wx hx; obtain ⟨h0, h1, h2, h3⟩ := hx; simp only [execOp, r31_o10]; go_simp
  intro a11 fr11 t28 ho
  replace t0 := (ho 0 (by decide)).trans t0
  replace t1 := (ho 1 (by decide)).trans t1
  replace t2 := (ho 2 (by decide)).trans t2
  replace t3 := (ho 3 (by decide)).trans t3
  replace t8 := (ho 8 (by decide)).trans t8
  replace t9 := (ho 9 (by decide)).trans t9
  replace t18 := (ho 18 (by decide)).trans t18
  replace t19 := (ho 19 (by decide)).trans t19
  replace t20 := (ho 20 (by decide)).trans t20
  replace t21 := (ho 21 (by decide)).trans t21
  replace t22 := (ho 22 (by decide)).trans t22
  replace t23 := (ho 23 (by decide)).trans t23
  replace t24 := (ho 24 (by decide)).trans t24
  replace t25 := (ho 25 (by decide)).trans t25
  replace t26 := (ho 26 (by decide)).trans t26
  replace t27 := (ho 27 (by decide)).trans t27
  clear fr10 ho
  refine take1w 11 29 _ (.int .i64 (j1 : Nat)) #[true, true, true, true, true, true, true, true, true, true, true, true, false, false, false, false, false] r31_i11 r31_d11 (by decide) r31_s r31_f11 r31_r11 (wanted_of r31_g11 r31_i3 r31_d3 t21) rfl hS0 fr11 ?_ ?_
  · intro wx hx; obtain ⟨h0, h1, h2, h3⟩ := hx; simp only [execOp, r31_o11]; go_simp
  intro a12 fr12 t29 ho
  replace t0 := (ho 0 (by decide)).trans t0
  replace t1 := (ho 1 (by decide)).trans t1
  replace t2 := (ho 2 (by decide)).trans t2
  replace t3 := (ho 3 (by decide)).trans t3
  replace t8 := (ho 8 (by decide)).trans t8
  replace t9 := (ho 9 (by decide)).trans t9
  replace t18 := (ho 18 (by decide)).trans t18
  replace t19 := (ho 19 (by decide)).trans t19
  replace t20 := (ho 20 (by decide)).trans t20
  replace t21 := (ho 21 (by decide)).trans t21
  replace t22 := (ho 22 (by decide)).trans t22
  replace t23 := (ho 23 (by decide)).trans t23
  replace t24 := (ho 24 (by decide)).trans t24
  replace t25 := (ho 25 (by decide)).trans t25
  replace t26 := (ho 26 (by decide)).trans t26
  replace t27 := (ho 27 (by decide)).trans t27
  replace t28 := (ho 28 (by decide)).trans t28
  clear fr11 ho
  refine take1w 12 30 _ (.pointer (some ⟨b, j1 * 2, none⟩)) #[true, true, true, true, true, true, true, true, true, true, true, true, true, false, false, false, false] r31_i12 r31_d12 (by decide) r31_s r31_f12 r31_r12 (wanted_of r31_g12 r31_i3 r31_d3 t21) rfl hS0 fr12 ?_ ?_
  · intro wx hx; obtain ⟨h0, h1, h2, h3⟩ := hx; simp only [execOp, r31_o12]; go_simp
  intro a13 fr13 t30 ho
  replace t0 := (ho 0 (by decide)).trans t0
  replace t1 := (ho 1 (by decide)).trans t1
  replace t2 := (ho 2 (by decide)).trans t2
  replace t3 := (ho 3 (by decide)).trans t3
  replace t8 := (ho 8 (by decide)).trans t8
  replace t9 := (ho 9 (by decide)).trans t9
  replace t18 := (ho 18 (by decide)).trans t18
  replace t19 := (ho 19 (by decide)).trans t19
  replace t20 := (ho 20 (by decide)).trans t20
  replace t21 := (ho 21 (by decide)).trans t21
  replace t22 := (ho 22 (by decide)).trans t22
  replace t23 := (ho 23 (by decide)).trans t23
  replace t24 := (ho 24 (by decide)).trans t24
  replace t25 := (ho 25 (by decide)).trans t25
  replace t26 := (ho 26 (by decide)).trans t26
  replace t27 := (ho 27 (by decide)).trans t27
  replace t28 := (ho 28 (by decide)).trans t28
  replace t29 := (ho 29 (by decide)).trans t29
  clear fr12 ho
  refine take1w 13 31 _ (.agg #[.string ej1.nm, .slice (some ⟨ej1.vb, 0, none⟩) 2 2]) #[true, true, true, true, true, true, true, true, true, true, true, true, true, true, false, false, false] r31_i13 r31_d13 (by decide) r31_s r31_f13 r31_r13 (wanted_of r31_g13 r31_i3 r31_d3 t21) rfl hS0 fr13 ?_ ?_
  · intro wx hx; obtain ⟨h0, h1, h2, h3⟩ := hx; simp only [execOp, r31_o13]; go_simp
  intro a14 fr14 t31 ho
  replace t0 := (ho 0 (by decide)).trans t0
  replace t1 := (ho 1 (by decide)).trans t1
  replace t2 := (ho 2 (by decide)).trans t2
  replace t3 := (ho 3 (by decide)).trans t3
  replace t8 := (ho 8 (by decide)).trans t8
  replace t9 := (ho 9 (by decide)).trans t9
  replace t18 := (ho 18 (by decide)).trans t18
  replace t19 := (ho 19 (by decide)).trans t19
  replace t20 := (ho 20 (by decide)).trans t20
  replace t21 := (ho 21 (by decide)).trans t21
  replace t22 := (ho 22 (by decide)).trans t22
  replace t23 := (ho 23 (by decide)).trans t23
  replace t24 := (ho 24 (by decide)).trans t24
  replace t25 := (ho 25 (by decide)).trans t25
  replace t26 := (ho 26 (by decide)).trans t26
  replace t27 := (ho 27 (by decide)).trans t27
  replace t28 := (ho 28 (by decide)).trans t28
  replace t29 := (ho 29 (by decide)).trans t29
  replace t30 := (ho 30 (by decide)).trans t30
  clear fr13 ho
  refine only1 14 r31_r14 (actCw 14 32 _ (.int .i64 cv) 27 #[.agg #[.string ej.nm, .slice (some ⟨ej.vb, 0, none⟩) 2 2], .agg #[.string ej1.nm, .slice (some ⟨ej1.vb, 0, none⟩) 2 2]] G #[true, true, true, true, true, true, true, true, true, true, true, true, true, true, true, false, false] r31_i14 r31_d14 (by decide) (wanted_of r31_g14 r31_i3 r31_d3 t21) rfl fr14 ?_ hcall ?_)
  · simp only [execOp, r31_o14]; clear hcall; go_simp
  intro a15 w15 hSE hG fr15 t32 ho
  replace t0 := (ho 0 (by decide)).trans t0
  replace t1 := (ho 1 (by decide)).trans t1
  replace t2 := (ho 2 (by decide)).trans t2
  replace t3 := (ho 3 (by decide)).trans t3
  replace t8 := (ho 8 (by decide)).trans t8
  replace t9 := (ho 9 (by decide)).trans t9
  replace t18 := (ho 18 (by decide)).trans t18
  replace t19 := (ho 19 (by decide)).trans t19
  replace t20 := (ho 20 (by decide)).trans t20
  replace t21 := (ho 21 (by decide)).trans t21
  replace t22 := (ho 22 (by decide)).trans t22
  replace t23 := (ho 23 (by decide)).trans t23
  replace t24 := (ho 24 (by decide)).trans t24
  replace t25 := (ho 25 (by decide)).trans t25
  replace t26 := (ho 26 (by decide)).trans t26
  replace t27 := (ho 27 (by decide)).trans t27
  replace t28 := (ho 28 (by decide)).trans t28
  replace t29 := (ho 29 (by decide)).trans t29
  replace t30 := (ho 30 (by decide)).trans t30
  replace t31 := (ho 31 (by decide)).trans t31
  clear fr14 ho hcall
  refine take1w 15 33 _ (.bool (decide (cv < 0))) #[true, true, true, true, true, true, true, true, true, true, true, true, true, true, true, true, false] r31_i15 r31_d15 (by decide) r31_s r31_f15 r31_r15 (wanted_of r31_g15 r31_i3 r31_d3 t21) rfl hSE fr15 ?_ ?_
  · intro wx hx; obtain ⟨h0, h1, h2, h3⟩ := hx; simp only [execOp, r31_o15]; go_simp
  intro a16 fr16 t33 ho
  replace t0 := (ho 0 (by decide)).trans t0
  replace t1 := (ho 1 (by decide)).trans t1
  replace t2 := (ho 2 (by decide)).trans t2
  replace t3 := (ho 3 (by decide)).trans t3
  replace t8 := (ho 8 (by decide)).trans t8
  replace t9 := (ho 9 (by decide)).trans t9
  replace t18 := (ho 18 (by decide)).trans t18
  replace t19 := (ho 19 (by decide)).trans t19
  replace t20 := (ho 20 (by decide)).trans t20
  replace t21 := (ho 21 (by decide)).trans t21
  replace t22 := (ho 22 (by decide)).trans t22
  replace t23 := (ho 23 (by decide)).trans t23
  replace t24 := (ho 24 (by decide)).trans t24
  replace t25 := (ho 25 (by decide)).trans t25
  replace t26 := (ho 26 (by decide)).trans t26
  replace t27 := (ho 27 (by decide)).trans t27
  replace t28 := (ho 28 (by decide)).trans t28
  replace t29 := (ho 29 (by decide)).trans t29
  replace t30 := (ho 30 (by decide)).trans t30
  replace t31 := (ho 31 (by decide)).trans t31
  replace t32 := (ho 32 (by decide)).trans t32
  clear fr15 ho
  refine take1w 16 34 _ (.bool (decide (cv < 0))) #[true, true, true, true, true, true, true, true, true, true, true, true, true, true, true, true, true] r31_i16 r31_d16 (by decide) r31_s r31_f16 r31_r16 (wanted_none r31_g16) rfl hSE fr16 ?_ ?_
  · intro wx hx; obtain ⟨h0, h1, h2, h3⟩ := hx; simp only [execOp, r31_o16]; go_simp
  intro a17 fr17 t34 ho
  replace t0 := (ho 0 (by decide)).trans t0
  replace t1 := (ho 1 (by decide)).trans t1
  replace t2 := (ho 2 (by decide)).trans t2
  replace t3 := (ho 3 (by decide)).trans t3
  replace t8 := (ho 8 (by decide)).trans t8
  replace t9 := (ho 9 (by decide)).trans t9
  replace t18 := (ho 18 (by decide)).trans t18
  replace t19 := (ho 19 (by decide)).trans t19
  replace t20 := (ho 20 (by decide)).trans t20
  replace t21 := (ho 21 (by decide)).trans t21
  replace t22 := (ho 22 (by decide)).trans t22
  replace t23 := (ho 23 (by decide)).trans t23
  replace t24 := (ho 24 (by decide)).trans t24
  replace t25 := (ho 25 (by decide)).trans t25
  replace t26 := (ho 26 (by decide)).trans t26
  replace t27 := (ho 27 (by decide)).trans t27
  replace t28 := (ho 28 (by decide)).trans t28
  replace t29 := (ho 29 (by decide)).trans t29
  replace t30 := (ho 30 (by decide)).trans t30
  replace t31 := (ho 31 (by decide)).trans t31
  replace t32 := (ho 32 (by decide)).trans t32
  replace t33 := (ho 33 (by decide)).trans t33
  clear fr16 ho
  refine wpAnyH_done r31_re ?_ _
  exact ⟨hG, fr17, (sl_at _ _).trans t0, (sl_at _ _).trans t1, (sl_at _ _).trans t2, (sl_at _ _).trans t3, (sl_at _ _).trans t8, (sl_at _ _).trans t9, (sl_at _ _).trans t34, trivial⟩

theorem w31_s : Region.noSelect (regOps (inC (hdC (tlC (inC (inC (tlC (inC (hdC (tlC (inC (inC (tlC (bodyC Try.f31)))))))))))))) = true := by kernel_rfl
theorem w31_i0 : (regOps (inC (hdC (tlC (inC (inC (tlC (inC (hdC (tlC (inC (inC (tlC (bodyC Try.f31))))))))))))))[0]? = some (regOp (inC (hdC (tlC (inC (inC (tlC (inC (hdC (tlC (inC (inC (tlC (bodyC Try.f31))))))))))))) 0) := by kernel_rfl
theorem w31_d0 : (regOp (inC (hdC (tlC (inC (inC (tlC (inC (hdC (tlC (inC (inC (tlC (bodyC Try.f31))))))))))))) 0).dst = some 37 := by kernel_rfl
theorem w31_g0 : (regOp (inC (hdC (tlC (inC (inC (tlC (inC (hdC (tlC (inC (inC (tlC (bodyC Try.f31))))))))))))) 0).guard = none := by kernel_rfl
theorem w31_o0 : (regOp (inC (hdC (tlC (inC (inC (tlC (inC (hdC (tlC (inC (inC (tlC (bodyC Try.f31))))))))))))) 0).op = Op.move (.tmp 0) := by kernel_rfl
theorem w31_i1 : (regOps (inC (hdC (tlC (inC (inC (tlC (inC (hdC (tlC (inC (inC (tlC (bodyC Try.f31))))))))))))))[1]? = some (regOp (inC (hdC (tlC (inC (inC (tlC (inC (hdC (tlC (inC (inC (tlC (bodyC Try.f31))))))))))))) 1) := by kernel_rfl
theorem w31_d1 : (regOp (inC (hdC (tlC (inC (inC (tlC (inC (hdC (tlC (inC (inC (tlC (bodyC Try.f31))))))))))))) 1).dst = some 38 := by kernel_rfl
theorem w31_g1 : (regOp (inC (hdC (tlC (inC (inC (tlC (inC (hdC (tlC (inC (inC (tlC (bodyC Try.f31))))))))))))) 1).guard = none := by kernel_rfl
theorem w31_o1 : (regOp (inC (hdC (tlC (inC (inC (tlC (inC (hdC (tlC (inC (inC (tlC (bodyC Try.f31))))))))))))) 1).op = Op.move (.tmp 9) := by kernel_rfl
theorem w31_i2 : (regOps (inC (hdC (tlC (inC (inC (tlC (inC (hdC (tlC (inC (inC (tlC (bodyC Try.f31))))))))))))))[2]? = some (regOp (inC (hdC (tlC (inC (inC (tlC (inC (hdC (tlC (inC (inC (tlC (bodyC Try.f31))))))))))))) 2) := by kernel_rfl
theorem w31_d2 : (regOp (inC (hdC (tlC (inC (inC (tlC (inC (hdC (tlC (inC (inC (tlC (bodyC Try.f31))))))))))))) 2).dst = some 39 := by kernel_rfl
theorem w31_g2 : (regOp (inC (hdC (tlC (inC (inC (tlC (inC (hdC (tlC (inC (inC (tlC (bodyC Try.f31))))))))))))) 2).guard = none := by kernel_rfl
theorem w31_o2 : (regOp (inC (hdC (tlC (inC (inC (tlC (inC (hdC (tlC (inC (inC (tlC (bodyC Try.f31))))))))))))) 2).op = Op.move (.tmp 0) := by kernel_rfl
theorem w31_i3 : (regOps (inC (hdC (tlC (inC (inC (tlC (inC (hdC (tlC (inC (inC (tlC (bodyC Try.f31))))))))))))))[3]? = some (regOp (inC (hdC (tlC (inC (inC (tlC (inC (hdC (tlC (inC (inC (tlC (bodyC Try.f31))))))))))))) 3) := by kernel_rfl
theorem w31_d3 : (regOp (inC (hdC (tlC (inC (inC (tlC (inC (hdC (tlC (inC (inC (tlC (bodyC Try.f31))))))))))))) 3).dst = some 40 := by kernel_rfl
theorem w31_g3 : (regOp (inC (hdC (tlC (inC (inC (tlC (inC (hdC (tlC (inC (inC (tlC (bodyC Try.f31))))))))))))) 3).guard = none := by kernel_rfl
theorem w31_o3 : (regOp (inC (hdC (tlC (inC (inC (tlC (inC (hdC (tlC (inC (inC (tlC (bodyC Try.f31))))))))))))) 3).op = Op.move (.tmp 9) := by kernel_rfl
theorem w31_i4 : (regOps (inC (hdC (tlC (inC (inC (tlC (inC (hdC (tlC (inC (inC (tlC (bodyC Try.f31))))))))))))))[4]? = some (regOp (inC (hdC (tlC (inC (inC (tlC (inC (hdC (tlC (inC (inC (tlC (bodyC Try.f31))))))))))))) 4) := by kernel_rfl
theorem w31_d4 : (regOp (inC (hdC (tlC (inC (inC (tlC (inC (hdC (tlC (inC (inC (tlC (bodyC Try.f31))))))))))))) 4).dst = some 41 := by kernel_rfl
theorem w31_g4 : (regOp (inC (hdC (tlC (inC (inC (tlC (inC (hdC (tlC (inC (inC (tlC (bodyC Try.f31))))))))))))) 4).guard = none := by kernel_rfl
theorem w31_o4 : (regOp (inC (hdC (tlC (inC (inC (tlC (inC (hdC (tlC (inC (inC (tlC (bodyC Try.f31))))))))))))) 4).op = Op.binOp .sub 3 (.tmp 40) (.const (.int .i64 1)) 3 := by kernel_rfl
theorem w31_i5 : (regOps (inC (hdC (tlC (inC (inC (tlC (inC (hdC (tlC (inC (inC (tlC (bodyC Try.f31))))))))))))))[5]? = some (regOp (inC (hdC (tlC (inC (inC (tlC (inC (hdC (tlC (inC (inC (tlC (bodyC Try.f31))))))))))))) 5) := by kernel_rfl
theorem w31_d5 : (regOp (inC (hdC (tlC (inC (inC (tlC (inC (hdC (tlC (inC (inC (tlC (bodyC Try.f31))))))))))))) 5).dst = some 42 := by kernel_rfl
theorem w31_g5 : (regOp (inC (hdC (tlC (inC (inC (tlC (inC (hdC (tlC (inC (inC (tlC (bodyC Try.f31))))))))))))) 5).guard = none := by kernel_rfl
theorem w31_o5 : (regOp (inC (hdC (tlC (inC (inC (tlC (inC (hdC (tlC (inC (inC (tlC (bodyC Try.f31))))))))))))) 5).op = Op.move (.tmp 0) := by kernel_rfl
theorem w31_i6 : (regOps (inC (hdC (tlC (inC (inC (tlC (inC (hdC (tlC (inC (inC (tlC (bodyC Try.f31))))))))))))))[6]? = some (regOp (inC (hdC (tlC (inC (inC (tlC (inC (hdC (tlC (inC (inC (tlC (bodyC Try.f31))))))))))))) 6) := by kernel_rfl
theorem w31_d6 : (regOp (inC (hdC (tlC (inC (inC (tlC (inC (hdC (tlC (inC (inC (tlC (bodyC Try.f31))))))))))))) 6).dst = some 43 := by kernel_rfl
theorem w31_g6 : (regOp (inC (hdC (tlC (inC (inC (tlC (inC (hdC (tlC (inC (inC (tlC (bodyC Try.f31))))))))))))) 6).guard = none := by kernel_rfl
theorem w31_o6 : (regOp (inC (hdC (tlC (inC (inC (tlC (inC (hdC (tlC (inC (inC (tlC (bodyC Try.f31))))))))))))) 6).op = Op.move (.tmp 9) := by kernel_rfl
theorem w31_i7 : (regOps (inC (hdC (tlC (inC (inC (tlC (inC (hdC (tlC (inC (inC (tlC (bodyC Try.f31))))))))))))))[7]? = some (regOp (inC (hdC (tlC (inC (inC (tlC (inC (hdC (tlC (inC (inC (tlC (bodyC Try.f31))))))))))))) 7) := by kernel_rfl
theorem w31_d7 : (regOp (inC (hdC (tlC (inC (inC (tlC (inC (hdC (tlC (inC (inC (tlC (bodyC Try.f31))))))))))))) 7).dst = some 44 := by kernel_rfl
theorem w31_g7 : (regOp (inC (hdC (tlC (inC (inC (tlC (inC (hdC (tlC (inC (inC (tlC (bodyC Try.f31))))))))))))) 7).guard = none := by kernel_rfl
theorem w31_o7 : (regOp (inC (hdC (tlC (inC (inC (tlC (inC (hdC (tlC (inC (inC (tlC (bodyC Try.f31))))))))))))) 7).op = Op.binOp .sub 3 (.tmp 43) (.const (.int .i64 1)) 3 := by kernel_rfl
theorem w31_i8 : (regOps (inC (hdC (tlC (inC (inC (tlC (inC (hdC (tlC (inC (inC (tlC (bodyC Try.f31))))))))))))))[8]? = some (regOp (inC (hdC (tlC (inC (inC (tlC (inC (hdC (tlC (inC (inC (tlC (bodyC Try.f31))))))))))))) 8) := by kernel_rfl
theorem w31_d8 : (regOp (inC (hdC (tlC (inC (inC (tlC (inC (hdC (tlC (inC (inC (tlC (bodyC Try.f31))))))))))))) 8).dst = some 45 := by kernel_rfl
theorem w31_g8 : (regOp (inC (hdC (tlC (inC (inC (tlC (inC (hdC (tlC (inC (inC (tlC (bodyC Try.f31))))))))))))) 8).guard = none := by kernel_rfl
theorem w31_o8 : (regOp (inC (hdC (tlC (inC (inC (tlC (inC (hdC (tlC (inC (inC (tlC (bodyC Try.f31))))))))))))) 8).op = Op.indexAddr 34 (.tmp 42) (.tmp 44) := by kernel_rfl
theorem w31_i9 : (regOps (inC (hdC (tlC (inC (inC (tlC (inC (hdC (tlC (inC (inC (tlC (bodyC Try.f31))))))))))))))[9]? = some (regOp (inC (hdC (tlC (inC (inC (tlC (inC (hdC (tlC (inC (inC (tlC (bodyC Try.f31))))))))))))) 9) := by kernel_rfl
theorem w31_d9 : (regOp (inC (hdC (tlC (inC (inC (tlC (inC (hdC (tlC (inC (inC (tlC (bodyC Try.f31))))))))))))) 9).dst = some 46 := by kernel_rfl
theorem w31_g9 : (regOp (inC (hdC (tlC (inC (inC (tlC (inC (hdC (tlC (inC (inC (tlC (bodyC Try.f31))))))))))))) 9).guard = none := by kernel_rfl
theorem w31_o9 : (regOp (inC (hdC (tlC (inC (inC (tlC (inC (hdC (tlC (inC (inC (tlC (bodyC Try.f31))))))))))))) 9).op = Op.load 39 (.tmp 45) := by kernel_rfl
theorem w31_i10 : (regOps (inC (hdC (tlC (inC (inC (tlC (inC (hdC (tlC (inC (inC (tlC (bodyC Try.f31))))))))))))))[10]? = some (regOp (inC (hdC (tlC (inC (inC (tlC (inC (hdC (tlC (inC (inC (tlC (bodyC Try.f31))))))))))))) 10) := by kernel_rfl
theorem w31_d10 : (regOp (inC (hdC (tlC (inC (inC (tlC (inC (hdC (tlC (inC (inC (tlC (bodyC Try.f31))))))))))))) 10).dst = some 47 := by kernel_rfl
theorem w31_g10 : (regOp (inC (hdC (tlC (inC (inC (tlC (inC (hdC (tlC (inC (inC (tlC (bodyC Try.f31))))))))))))) 10).guard = none := by kernel_rfl
theorem w31_o10 : (regOp (inC (hdC (tlC (inC (inC (tlC (inC (hdC (tlC (inC (inC (tlC (bodyC Try.f31))))))))))))) 10).op = Op.move (.tmp 0) := by kernel_rfl
theorem w31_i11 : (regOps (inC (hdC (tlC (inC (inC (tlC (inC (hdC (tlC (inC (inC (tlC (bodyC Try.f31))))))))))))))[11]? = some (regOp (inC (hdC (tlC (inC (inC (tlC (inC (hdC (tlC (inC (inC (tlC (bodyC Try.f31))))))))))))) 11) := by kernel_rfl
theorem w31_d11 : (regOp (inC (hdC (tlC (inC (inC (tlC (inC (hdC (tlC (inC (inC (tlC (bodyC Try.f31))))))))))))) 11).dst = some 48 := by kernel_rfl
theorem w31_g11 : (regOp (inC (hdC (tlC (inC (inC (tlC (inC (hdC (tlC (inC (inC (tlC (bodyC Try.f31))))))))))))) 11).guard = none := by kernel_rfl
theorem w31_o11 : (regOp (inC (hdC (tlC (inC (inC (tlC (inC (hdC (tlC (inC (inC (tlC (bodyC Try.f31))))))))))))) 11).op = Op.move (.tmp 9) := by kernel_rfl
theorem w31_i12 : (regOps (inC (hdC (tlC (inC (inC (tlC (inC (hdC (tlC (inC (inC (tlC (bodyC Try.f31))))))))))))))[12]? = some (regOp (inC (hdC (tlC (inC (inC (tlC (inC (hdC (tlC (inC (inC (tlC (bodyC Try.f31))))))))))))) 12) := by kernel_rfl
theorem w31_d12 : (regOp (inC (hdC (tlC (inC (inC (tlC (inC (hdC (tlC (inC (inC (tlC (bodyC Try.f31))))))))))))) 12).dst = some 49 := by kernel_rfl
theorem w31_g12 : (regOp (inC (hdC (tlC (inC (inC (tlC (inC (hdC (tlC (inC (inC (tlC (bodyC Try.f31))))))))))))) 12).guard = none := by kernel_rfl
theorem w31_o12 : (regOp (inC (hdC (tlC (inC (inC (tlC (inC (hdC (tlC (inC (inC (tlC (bodyC Try.f31))))))))))))) 12).op = Op.indexAddr 34 (.tmp 47) (.tmp 48) := by kernel_rfl
theorem w31_i13 : (regOps (inC (hdC (tlC (inC (inC (tlC (inC (hdC (tlC (inC (inC (tlC (bodyC Try.f31))))))))))))))[13]? = some (regOp (inC (hdC (tlC (inC (inC (tlC (inC (hdC (tlC (inC (inC (tlC (bodyC Try.f31))))))))))))) 13) := by kernel_rfl
theorem w31_d13 : (regOp (inC (hdC (tlC (inC (inC (tlC (inC (hdC (tlC (inC (inC (tlC (bodyC Try.f31))))))))))))) 13).dst = some 50 := by kernel_rfl
theorem w31_g13 : (regOp (inC (hdC (tlC (inC (inC (tlC (inC (hdC (tlC (inC (inC (tlC (bodyC Try.f31))))))))))))) 13).guard = none := by kernel_rfl
theorem w31_o13 : (regOp (inC (hdC (tlC (inC (inC (tlC (inC (hdC (tlC (inC (inC (tlC (bodyC Try.f31))))))))))))) 13).op = Op.load 39 (.tmp 49) := by kernel_rfl
theorem w31_i14 : (regOps (inC (hdC (tlC (inC (inC (tlC (inC (hdC (tlC (inC (inC (tlC (bodyC Try.f31))))))))))))))[14]? = some (regOp (inC (hdC (tlC (inC (inC (tlC (inC (hdC (tlC (inC (inC (tlC (bodyC Try.f31))))))))))))) 14) := by kernel_rfl
theorem w31_d14 : (regOp (inC (hdC (tlC (inC (inC (tlC (inC (hdC (tlC (inC (inC (tlC (bodyC Try.f31))))))))))))) 14).dst = some 51 := by kernel_rfl
theorem w31_g14 : (regOp (inC (hdC (tlC (inC (inC (tlC (inC (hdC (tlC (inC (inC (tlC (bodyC Try.f31))))))))))))) 14).guard = none := by kernel_rfl
theorem w31_o14 : (regOp (inC (hdC (tlC (inC (inC (tlC (inC (hdC (tlC (inC (inC (tlC (bodyC Try.f31))))))))))))) 14).op = Op.indexAddr 34 (.tmp 37) (.tmp 38) := by kernel_rfl
theorem w31_i15 : (regOps (inC (hdC (tlC (inC (inC (tlC (inC (hdC (tlC (inC (inC (tlC (bodyC Try.f31))))))))))))))[15]? = some (regOp (inC (hdC (tlC (inC (inC (tlC (inC (hdC (tlC (inC (inC (tlC (bodyC Try.f31))))))))))))) 15) := by kernel_rfl
theorem w31_d15 : (regOp (inC (hdC (tlC (inC (inC (tlC (inC (hdC (tlC (inC (inC (tlC (bodyC Try.f31))))))))))))) 15).dst = none := by kernel_rfl
theorem w31_g15 : (regOp (inC (hdC (tlC (inC (inC (tlC (inC (hdC (tlC (inC (inC (tlC (bodyC Try.f31))))))))))))) 15).guard = none := by kernel_rfl
theorem w31_o15 : (regOp (inC (hdC (tlC (inC (inC (tlC (inC (hdC (tlC (inC (inC (tlC (bodyC Try.f31))))))))))))) 15).op = Op.store 39 (.tmp 51) (.tmp 46) := by kernel_rfl
theorem w31_i16 : (regOps (inC (hdC (tlC (inC (inC (tlC (inC (hdC (tlC (inC (inC (tlC (bodyC Try.f31))))))))))))))[16]? = some (regOp (inC (hdC (tlC (inC (inC (tlC (inC (hdC (tlC (inC (inC (tlC (bodyC Try.f31))))))))))))) 16) := by kernel_rfl
theorem w31_d16 : (regOp (inC (hdC (tlC (inC (inC (tlC (inC (hdC (tlC (inC (inC (tlC (bodyC Try.f31))))))))))))) 16).dst = some 52 := by kernel_rfl
theorem w31_g16 : (regOp (inC (hdC (tlC (inC (inC (tlC (inC (hdC (tlC (inC (inC (tlC (bodyC Try.f31))))))))))))) 16).guard = none := by kernel_rfl
theorem w31_o16 : (regOp (inC (hdC (tlC (inC (inC (tlC (inC (hdC (tlC (inC (inC (tlC (bodyC Try.f31))))))))))))) 16).op = Op.indexAddr 34 (.tmp 39) (.tmp 41) := by kernel_rfl
theorem w31_i17 : (regOps (inC (hdC (tlC (inC (inC (tlC (inC (hdC (tlC (inC (inC (tlC (bodyC Try.f31))))))))))))))[17]? = some (regOp (inC (hdC (tlC (inC (inC (tlC (inC (hdC (tlC (inC (inC (tlC (bodyC Try.f31))))))))))))) 17) := by kernel_rfl
theorem w31_d17 : (regOp (inC (hdC (tlC (inC (inC (tlC (inC (hdC (tlC (inC (inC (tlC (bodyC Try.f31))))))))))))) 17).dst = none := by kernel_rfl
theorem w31_g17 : (regOp (inC (hdC (tlC (inC (inC (tlC (inC (hdC (tlC (inC (inC (tlC (bodyC Try.f31))))))))))))) 17).guard = none := by kernel_rfl
theorem w31_o17 : (regOp (inC (hdC (tlC (inC (inC (tlC (inC (hdC (tlC (inC (inC (tlC (bodyC Try.f31))))))))))))) 17).op = Op.store 39 (.tmp 52) (.tmp 50) := by kernel_rfl
theorem w31_f0 : Region.free .any (regOps (inC (hdC (tlC (inC (inC (tlC (inC (hdC (tlC (inC (inC (tlC (bodyC Try.f31)))))))))))))) #[false, false, false, false, false, false, false, false, false, false, false, false, false, false, false, false, false, false] 0 = true := by kernel_rfl
theorem w31_r0 : (Region.ready .any (regOps (inC (hdC (tlC (inC (inC (tlC (inC (hdC (tlC (inC (inC (tlC (bodyC Try.f31)))))))))))))) #[false, false, false, false, false, false, false, false, false, false, false, false, false, false, false, false, false, false]).contains 0 = true := by kernel_rfl
theorem w31_f1 : Region.free .any (regOps (inC (hdC (tlC (inC (inC (tlC (inC (hdC (tlC (inC (inC (tlC (bodyC Try.f31)))))))))))))) #[true, false, false, false, false, false, false, false, false, false, false, false, false, false, false, false, false, false] 1 = true := by kernel_rfl
theorem w31_r1 : (Region.ready .any (regOps (inC (hdC (tlC (inC (inC (tlC (inC (hdC (tlC (inC (inC (tlC (bodyC Try.f31)))))))))))))) #[true, false, false, false, false, false, false, false, false, false, false, false, false, false, false, false, false, false]).contains 1 = true := by kernel_rfl
theorem w31_f2 : Region.free .any (regOps (inC (hdC (tlC (inC (inC (tlC (inC (hdC (tlC (inC (inC (tlC (bodyC Try.f31)))))))))))))) #[true, true, false, false, false, false, false, false, false, false, false, false, false, false, false, false, false, false] 2 = true := by kernel_rfl
theorem w31_r2 : (Region.ready .any (regOps (inC (hdC (tlC (inC (inC (tlC (inC (hdC (tlC (inC (inC (tlC (bodyC Try.f31)))))))))))))) #[true, true, false, false, false, false, false, false, false, false, false, false, false, false, false, false, false, false]).contains 2 = true := by kernel_rfl
theorem w31_f3 : Region.free .any (regOps (inC (hdC (tlC (inC (inC (tlC (inC (hdC (tlC (inC (inC (tlC (bodyC Try.f31)))))))))))))) #[true, true, true, false, false, false, false, false, false, false, false, false, false, false, false, false, false, false] 3 = true := by kernel_rfl
theorem w31_r3 : (Region.ready .any (regOps (inC (hdC (tlC (inC (inC (tlC (inC (hdC (tlC (inC (inC (tlC (bodyC Try.f31)))))))))))))) #[true, true, true, false, false, false, false, false, false, false, false, false, false, false, false, false, false, false]).contains 3 = true := by kernel_rfl
theorem w31_f4 : Region.free .any (regOps (inC (hdC (tlC (inC (inC (tlC (inC (hdC (tlC (inC (inC (tlC (bodyC Try.f31)))))))))))))) #[true, true, true, true, false, false, false, false, false, false, false, false, false, false, false, false, false, false] 4 = true := by kernel_rfl
theorem w31_r4 : (Region.ready .any (regOps (inC (hdC (tlC (inC (inC (tlC (inC (hdC (tlC (inC (inC (tlC (bodyC Try.f31)))))))))))))) #[true, true, true, true, false, false, false, false, false, false, false, false, false, false, false, false, false, false]).contains 4 = true := by kernel_rfl
theorem w31_f5 : Region.free .any (regOps (inC (hdC (tlC (inC (inC (tlC (inC (hdC (tlC (inC (inC (tlC (bodyC Try.f31)))))))))))))) #[true, true, true, true, true, false, false, false, false, false, false, false, false, false, false, false, false, false] 5 = true := by kernel_rfl
theorem w31_r5 : (Region.ready .any (regOps (inC (hdC (tlC (inC (inC (tlC (inC (hdC (tlC (inC (inC (tlC (bodyC Try.f31)))))))))))))) #[true, true, true, true, true, false, false, false, false, false, false, false, false, false, false, false, false, false]).contains 5 = true := by kernel_rfl
theorem w31_f6 : Region.free .any (regOps (inC (hdC (tlC (inC (inC (tlC (inC (hdC (tlC (inC (inC (tlC (bodyC Try.f31)))))))))))))) #[true, true, true, true, true, true, false, false, false, false, false, false, false, false, false, false, false, false] 6 = true := by kernel_rfl
theorem w31_r6 : (Region.ready .any (regOps (inC (hdC (tlC (inC (inC (tlC (inC (hdC (tlC (inC (inC (tlC (bodyC Try.f31)))))))))))))) #[true, true, true, true, true, true, false, false, false, false, false, false, false, false, false, false, false, false]).contains 6 = true := by kernel_rfl
theorem w31_f7 : Region.free .any (regOps (inC (hdC (tlC (inC (inC (tlC (inC (hdC (tlC (inC (inC (tlC (bodyC Try.f31)))))))))))))) #[true, true, true, true, true, true, true, false, false, false, false, false, false, false, false, false, false, false] 7 = true := by kernel_rfl
theorem w31_r7 : (Region.ready .any (regOps (inC (hdC (tlC (inC (inC (tlC (inC (hdC (tlC (inC (inC (tlC (bodyC Try.f31)))))))))))))) #[true, true, true, true, true, true, true, false, false, false, false, false, false, false, false, false, false, false]).contains 7 = true := by kernel_rfl
theorem w31_f8 : Region.free .any (regOps (inC (hdC (tlC (inC (inC (tlC (inC (hdC (tlC (inC (inC (tlC (bodyC Try.f31)))))))))))))) #[true, true, true, true, true, true, true, true, false, false, false, false, false, false, false, false, false, false] 8 = true := by kernel_rfl
theorem w31_r8 : (Region.ready .any (regOps (inC (hdC (tlC (inC (inC (tlC (inC (hdC (tlC (inC (inC (tlC (bodyC Try.f31)))))))))))))) #[true, true, true, true, true, true, true, true, false, false, false, false, false, false, false, false, false, false]).contains 8 = true := by kernel_rfl
theorem w31_f10 : Region.free .any (regOps (inC (hdC (tlC (inC (inC (tlC (inC (hdC (tlC (inC (inC (tlC (bodyC Try.f31)))))))))))))) #[true, true, true, true, true, true, true, true, true, false, false, false, false, false, false, false, false, false] 10 = true := by kernel_rfl
theorem w31_r10 : (Region.ready .any (regOps (inC (hdC (tlC (inC (inC (tlC (inC (hdC (tlC (inC (inC (tlC (bodyC Try.f31)))))))))))))) #[true, true, true, true, true, true, true, true, true, false, false, false, false, false, false, false, false, false]).contains 10 = true := by kernel_rfl
theorem w31_f11 : Region.free .any (regOps (inC (hdC (tlC (inC (inC (tlC (inC (hdC (tlC (inC (inC (tlC (bodyC Try.f31)))))))))))))) #[true, true, true, true, true, true, true, true, true, false, true, false, false, false, false, false, false, false] 11 = true := by kernel_rfl
theorem w31_r11 : (Region.ready .any (regOps (inC (hdC (tlC (inC (inC (tlC (inC (hdC (tlC (inC (inC (tlC (bodyC Try.f31)))))))))))))) #[true, true, true, true, true, true, true, true, true, false, true, false, false, false, false, false, false, false]).contains 11 = true := by kernel_rfl
theorem w31_f12 : Region.free .any (regOps (inC (hdC (tlC (inC (inC (tlC (inC (hdC (tlC (inC (inC (tlC (bodyC Try.f31)))))))))))))) #[true, true, true, true, true, true, true, true, true, false, true, true, false, false, false, false, false, false] 12 = true := by kernel_rfl
theorem w31_r12 : (Region.ready .any (regOps (inC (hdC (tlC (inC (inC (tlC (inC (hdC (tlC (inC (inC (tlC (bodyC Try.f31)))))))))))))) #[true, true, true, true, true, true, true, true, true, false, true, true, false, false, false, false, false, false]).contains 12 = true := by kernel_rfl
theorem w31_rl : Region.ready .any (regOps (inC (hdC (tlC (inC (inC (tlC (inC (hdC (tlC (inC (inC (tlC (bodyC Try.f31)))))))))))))) #[true, true, true, true, true, true, true, true, true, false, true, true, true, false, false, false, false, false] = [9, 13] := by kernel_rfl
theorem w31_ra : Region.ready .any (regOps (inC (hdC (tlC (inC (inC (tlC (inC (hdC (tlC (inC (inC (tlC (bodyC Try.f31)))))))))))))) #[true, true, true, true, true, true, true, true, true, true, true, true, true, false, false, false, false, false] = [13] := by kernel_rfl
theorem w31_rb : Region.ready .any (regOps (inC (hdC (tlC (inC (inC (tlC (inC (hdC (tlC (inC (inC (tlC (bodyC Try.f31)))))))))))))) #[true, true, true, true, true, true, true, true, true, false, true, true, true, true, false, false, false, false] = [9] := by kernel_rfl
theorem w31_f14 : Region.free .any (regOps (inC (hdC (tlC (inC (inC (tlC (inC (hdC (tlC (inC (inC (tlC (bodyC Try.f31)))))))))))))) #[true, true, true, true, true, true, true, true, true, true, true, true, true, true, false, false, false, false] 14 = true := by kernel_rfl
theorem w31_r14 : (Region.ready .any (regOps (inC (hdC (tlC (inC (inC (tlC (inC (hdC (tlC (inC (inC (tlC (bodyC Try.f31)))))))))))))) #[true, true, true, true, true, true, true, true, true, true, true, true, true, true, false, false, false, false]).contains 14 = true := by kernel_rfl
theorem w31_r15 : Region.ready .any (regOps (inC (hdC (tlC (inC (inC (tlC (inC (hdC (tlC (inC (inC (tlC (bodyC Try.f31)))))))))))))) #[true, true, true, true, true, true, true, true, true, true, true, true, true, true, true, false, false, false] = [15] := by kernel_rfl
theorem w31_f16 : Region.free .any (regOps (inC (hdC (tlC (inC (inC (tlC (inC (hdC (tlC (inC (inC (tlC (bodyC Try.f31)))))))))))))) #[true, true, true, true, true, true, true, true, true, true, true, true, true, true, true, true, false, false] 16 = true := by kernel_rfl
theorem w31_r16 : (Region.ready .any (regOps (inC (hdC (tlC (inC (inC (tlC (inC (hdC (tlC (inC (inC (tlC (bodyC Try.f31)))))))))))))) #[true, true, true, true, true, true, true, true, true, true, true, true, true, true, true, true, false, false]).contains 16 = true := by kernel_rfl
theorem w31_r17 : Region.ready .any (regOps (inC (hdC (tlC (inC (inC (tlC (inC (hdC (tlC (inC (inC (tlC (bodyC Try.f31)))))))))))))) #[true, true, true, true, true, true, true, true, true, true, true, true, true, true, true, true, true, false] = [17] := by kernel_rfl
theorem w31_re : Region.ready .any (regOps (inC (hdC (tlC (inC (inC (tlC (inC (hdC (tlC (inC (inC (tlC (bodyC Try.f31)))))))))))))) #[true, true, true, true, true, true, true, true, true, true, true, true, true, true, true, true, true, true] = [] := by kernel_rfl

set_option maxRecDepth 10000 in
set_option maxHeartbeats 1000000 in
theorem w31 (b n c lo hi i j j1 : Nat) (ej1 ej : Hd) (a : Act) (w : World) (Q : Exit → Act → World → Prop) (hfr : Fr 53 a) (hs : Slots [(0, .slice (some ⟨b, 0, none⟩) n c), (1, .int .i64 (lo : Nat)), (2, .int .i64 (hi : Nat)), (3, .func (.func 27) #[] #[]), (8, .int .i64 (i : Nat)), (9, .int .i64 (j : Nat))] a)
    (hj10 : IntKind.i64.wrap ((j : Int) - 1) = (j1 : Int))
    (lj1 : (j1 : Int) < n) (cj1 : w.cell? ⟨b, j1 * 2, none⟩ = some (.string ej1.nm)) (kj1 : w.cell? ⟨b, j1 * 2 + 1, none⟩ = some (.slice (some ⟨ej1.vb, 0, none⟩) 2 2)) (lj : (j : Int) < n) (cj : w.cell? ⟨b, j * 2, none⟩ = some (.string ej.nm)) (kj : w.cell? ⟨b, j * 2 + 1, none⟩ = some (.slice (some ⟨ej.vb, 0, none⟩) 2 2)) (hne : j ≠ j1) (fz : ∀ i, w.frozen? ⟨b, i, none⟩ = false)
    (hQ : ∀ a', Fr 53 a' → Slots [(0, .slice (some ⟨b, 0, none⟩) n c), (1, .int .i64 (lo : Nat)), (2, .int .i64 (hi : Nat)), (3, .func (.func 27) #[] #[]), (8, .int .i64 (i : Nat)), (9, .int .i64 (j : Nat))] a' → Q .normal a' (put2 (put2 w.drew b j ej1) b j1 ej)) :
    Code.wp Try.prog (inC (hdC (tlC (inC (inC (tlC (inC (hdC (tlC (inC (inC (tlC (bodyC Try.f31))))))))))))) Q a w := by
  obtain ⟨t0, t1, t2, t3, t8, t9, -⟩ := hs
  replace t0 : a.tmps[0]?.getD undef = .slice (some ⟨b, 0, none⟩) n c := (sl_at a 0).symm.trans t0
  replace t1 : a.tmps[1]?.getD undef = .int .i64 (lo : Nat) := (sl_at a 1).symm.trans t1
  replace t2 : a.tmps[2]?.getD undef = .int .i64 (hi : Nat) := (sl_at a 2).symm.trans t2
  replace t3 : a.tmps[3]?.getD undef = .func (.func 27) #[] #[] := (sl_at a 3).symm.trans t3
  replace t8 : a.tmps[8]?.getD undef = .int .i64 (i : Nat) := (sl_at a 8).symm.trans t8
  replace t9 : a.tmps[9]?.getD undef = .int .i64 (j : Nat) := (sl_at a 9).symm.trans t9
  have o1 : j * 2 ≠ j1 * 2 := by omega
  have o2 : j * 2 + 1 ≠ j1 * 2 := by omega
  have o3 : j * 2 ≠ j1 * 2 + 1 := by omega
  have o4 : j * 2 + 1 ≠ j1 * 2 + 1 := by omega
  have zj10 := fz (j1 * 2)
  have zj11 := fz (j1 * 2 + 1)
  have zj0 := fz (j * 2)
  have zj1 := fz (j * 2 + 1)
  clear fz
  refine wp_navR (fun _ => True) (fun a' w' => w' = put2 (put2 w.drew b j ej1) b j1 ej ∧ Fr 53 a' ∧ Slots [(0, .slice (some ⟨b, 0, none⟩) n c), (1, .int .i64 (lo : Nat)), (2, .int .i64 (hi : Nat)), (3, .func (.func 27) #[] #[]), (8, .int .i64 (i : Nat)), (9, .int .i64 (j : Nat))] a') 18 #[false, false, false, false, false, false, false, false, false, false, false, false, false, false, false, false, false, false] (by kernel_rfl) (by kernel_rfl) (by kernel_rfl) rfl ?_ (fun a' w' ⟨h1, h2, h3⟩ => by rw [h1]; exact hQ a' h2 h3)
  clear hQ
  refine take1 0 37 _ (.slice (some ⟨b, 0, none⟩) n c) #[true, false, false, false, false, false, false, false, false, false, false, false, false, false, false, false, false, false] w31_i0 w31_d0 (by decide) w31_s w31_f0 w31_r0 w31_g0 rfl trivial hfr ?_ ?_
  · intro wx _; simp only [execOp, w31_o0]; go_simp
  intro a1 fr1 t37 ho
  replace t0 := (ho 0 (by decide)).trans t0
  replace t1 := (ho 1 (by decide)).trans t1
  replace t2 := (ho 2 (by decide)).trans t2
  replace t3 := (ho 3 (by decide)).trans t3
  replace t8 := (ho 8 (by decide)).trans t8
  replace t9 := (ho 9 (by decide)).trans t9
  clear hfr ho
  refine take1 1 38 _ (.int .i64 (j : Nat)) #[true, true, false, false, false, false, false, false, false, false, false, false, false, false, false, false, false, false] w31_i1 w31_d1 (by decide) w31_s w31_f1 w31_r1 w31_g1 rfl trivial fr1 ?_ ?_
  · intro wx _; simp only [execOp, w31_o1]; go_simp
  intro a2 fr2 t38 ho
  replace t0 := (ho 0 (by decide)).trans t0
  replace t1 := (ho 1 (by decide)).trans t1
  replace t2 := (ho 2 (by decide)).trans t2
  replace t3 := (ho 3 (by decide)).trans t3
  replace t8 := (ho 8 (by decide)).trans t8
  replace t9 := (ho 9 (by decide)).trans t9
  replace t37 := (ho 37 (by decide)).trans t37
  clear fr1 ho
  refine take1 2 39 _ (.slice (some ⟨b, 0, none⟩) n c) #[true, true, true, false, false, false, false, false, false, false, false, false, false, false, false, false, false, false] w31_i2 w31_d2 (by decide) w31_s w31_f2 w31_r2 w31_g2 rfl trivial fr2 ?_ ?_
  · intro wx _; simp only [execOp, w31_o2]; go_simp
  intro a3 fr3 t39 ho
  replace t0 := (ho 0 (by decide)).trans t0
  replace t1 := (ho 1 (by decide)).trans t1
  replace t2 := (ho 2 (by decide)).trans t2
  replace t3 := (ho 3 (by decide)).trans t3
  replace t8 := (ho 8 (by decide)).trans t8
  replace t9 := (ho 9 (by decide)).trans t9
  replace t37 := (ho 37 (by decide)).trans t37
  replace t38 := (ho 38 (by decide)).trans t38
  clear fr2 ho
  refine take1 3 40 _ (.int .i64 (j : Nat)) #[true, true, true, true, false, false, false, false, false, false, false, false, false, false, false, false, false, false] w31_i3 w31_d3 (by decide) w31_s w31_f3 w31_r3 w31_g3 rfl trivial fr3 ?_ ?_
  · intro wx _; simp only [execOp, w31_o3]; go_simp
  intro a4 fr4 t40 ho
  replace t0 := (ho 0 (by decide)).trans t0
  replace t1 := (ho 1 (by decide)).trans t1
  replace t2 := (ho 2 (by decide)).trans t2
  replace t3 := (ho 3 (by decide)).trans t3
  replace t8 := (ho 8 (by decide)).trans t8
  replace t9 := (ho 9 (by decide)).trans t9
  replace t37 := (ho 37 (by decide)).trans t37
  replace t38 := (ho 38 (by decide)).trans t38
  replace t39 := (ho 39 (by decide)).trans t39
  clear fr3 ho
  refine take1 4 41 _ (.int .i64 (j1 : Nat)) #[true, true, true, true, true, false, false, false, false, false, false, false, false, false, false, false, false, false] w31_i4 w31_d4 (by decide) w31_s w31_f4 w31_r4 w31_g4 rfl trivial fr4 ?_ ?_
  · intro wx _; simp only [execOp, w31_o4]; go_simp
  intro a5 fr5 t41 ho
  replace t0 := (ho 0 (by decide)).trans t0
  replace t1 := (ho 1 (by decide)).trans t1
  replace t2 := (ho 2 (by decide)).trans t2
  replace t3 := (ho 3 (by decide)).trans t3
  replace t8 := (ho 8 (by decide)).trans t8
  replace t9 := (ho 9 (by decide)).trans t9
  replace t37 := (ho 37 (by decide)).trans t37
  replace t38 := (ho 38 (by decide)).trans t38
  replace t39 := (ho 39 (by decide)).trans t39
  replace t40 := (ho 40 (by decide)).trans t40
  clear fr4 ho
  refine take1 5 42 _ (.slice (some ⟨b, 0, none⟩) n c) #[true, true, true, true, true, true, false, false, false, false, false, false, false, false, false, false, false, false] w31_i5 w31_d5 (by decide) w31_s w31_f5 w31_r5 w31_g5 rfl trivial fr5 ?_ ?_
  · intro wx _; simp only [execOp, w31_o5]; go_simp
  intro a6 fr6 t42 ho
  replace t0 := (ho 0 (by decide)).trans t0
  replace t1 := (ho 1 (by decide)).trans t1
  replace t2 := (ho 2 (by decide)).trans t2
  replace t3 := (ho 3 (by decide)).trans t3
  replace t8 := (ho 8 (by decide)).trans t8
  replace t9 := (ho 9 (by decide)).trans t9
  replace t37 := (ho 37 (by decide)).trans t37
  replace t38 := (ho 38 (by decide)).trans t38
  replace t39 := (ho 39 (by decide)).trans t39
  replace t40 := (ho 40 (by decide)).trans t40
  replace t41 := (ho 41 (by decide)).trans t41
  clear fr5 ho
  refine take1 6 43 _ (.int .i64 (j : Nat)) #[true, true, true, true, true, true, true, false, false, false, false, false, false, false, false, false, false, false] w31_i6 w31_d6 (by decide) w31_s w31_f6 w31_r6 w31_g6 rfl trivial fr6 ?_ ?_
  · intro wx _; simp only [execOp, w31_o6]; go_simp
  intro a7 fr7 t43 ho
  replace t0 := (ho 0 (by decide)).trans t0
  replace t1 := (ho 1 (by decide)).trans t1
  replace t2 := (ho 2 (by decide)).trans t2
  replace t3 := (ho 3 (by decide)).trans t3
  replace t8 := (ho 8 (by decide)).trans t8
  replace t9 := (ho 9 (by decide)).trans t9
  replace t37 := (ho 37 (by decide)).trans t37
  replace t38 := (ho 38 (by decide)).trans t38
  replace t39 := (ho 39 (by decide)).trans t39
  replace t40 := (ho 40 (by decide)).trans t40
  replace t41 := (ho 41 (by decide)).trans t41
  replace t42 := (ho 42 (by decide)).trans t42
  clear fr6 ho
  refine take1 7 44 _ (.int .i64 (j1 : Nat)) #[true, true, true, true, true, true, true, true, false, false, false, false, false, false, false, false, false, false] w31_i7 w31_d7 (by decide) w31_s w31_f7 w31_r7 w31_g7 rfl trivial fr7 ?_ ?_
  · intro wx _; simp only [execOp, w31_o7]; go_simp
  intro a8 fr8 t44 ho
  replace t0 := (ho 0 (by decide)).trans t0
  replace t1 := (ho 1 (by decide)).trans t1
  replace t2 := (ho 2 (by decide)).trans t2
  replace t3 := (ho 3 (by decide)).trans t3
  replace t8 := (ho 8 (by decide)).trans t8
  replace t9 := (ho 9 (by decide)).trans t9
  replace t37 := (ho 37 (by decide)).trans t37
  replace t38 := (ho 38 (by decide)).trans t38
  replace t39 := (ho 39 (by decide)).trans t39
  replace t40 := (ho 40 (by decide)).trans t40
  replace t41 := (ho 41 (by decide)).trans t41
  replace t42 := (ho 42 (by decide)).trans t42
  replace t43 := (ho 43 (by decide)).trans t43
  clear fr7 ho
  refine take1 8 45 _ (.pointer (some ⟨b, j1 * 2, none⟩)) #[true, true, true, true, true, true, true, true, true, false, false, false, false, false, false, false, false, false] w31_i8 w31_d8 (by decide) w31_s w31_f8 w31_r8 w31_g8 rfl trivial fr8 ?_ ?_
  · intro wx _; simp only [execOp, w31_o8]; go_simp
  intro a9 fr9 t45 ho
  replace t0 := (ho 0 (by decide)).trans t0
  replace t1 := (ho 1 (by decide)).trans t1
  replace t2 := (ho 2 (by decide)).trans t2
  replace t3 := (ho 3 (by decide)).trans t3
  replace t8 := (ho 8 (by decide)).trans t8
  replace t9 := (ho 9 (by decide)).trans t9
  replace t37 := (ho 37 (by decide)).trans t37
  replace t38 := (ho 38 (by decide)).trans t38
  replace t39 := (ho 39 (by decide)).trans t39
  replace t40 := (ho 40 (by decide)).trans t40
  replace t41 := (ho 41 (by decide)).trans t41
  replace t42 := (ho 42 (by decide)).trans t42
  replace t43 := (ho 43 (by decide)).trans t43
  replace t44 := (ho 44 (by decide)).trans t44
  clear fr8 ho
  refine take1 10 47 _ (.slice (some ⟨b, 0, none⟩) n c) #[true, true, true, true, true, true, true, true, true, false, true, false, false, false, false, false, false, false] w31_i10 w31_d10 (by decide) w31_s w31_f10 w31_r10 w31_g10 rfl trivial fr9 ?_ ?_
  · intro wx _; simp only [execOp, w31_o10]; go_simp
  intro a10 fr10 t47 ho
  replace t0 := (ho 0 (by decide)).trans t0
  replace t1 := (ho 1 (by decide)).trans t1
  replace t2 := (ho 2 (by decide)).trans t2
  replace t3 := (ho 3 (by decide)).trans t3
  replace t8 := (ho 8 (by decide)).trans t8
  replace t9 := (ho 9 (by decide)).trans t9
  replace t37 := (ho 37 (by decide)).trans t37
  replace t38 := (ho 38 (by decide)).trans t38
  replace t39 := (ho 39 (by decide)).trans t39
  replace t40 := (ho 40 (by decide)).trans t40
  replace t41 := (ho 41 (by decide)).trans t41
  replace t42 := (ho 42 (by decide)).trans t42
  replace t43 := (ho 43 (by decide)).trans t43
  replace t44 := (ho 44 (by decide)).trans t44
  replace t45 := (ho 45 (by decide)).trans t45
  clear fr9 ho
  refine take1 11 48 _ (.int .i64 (j : Nat)) #[true, true, true, true, true, true, true, true, true, false, true, true, false, false, false, false, false, false] w31_i11 w31_d11 (by decide) w31_s w31_f11 w31_r11 w31_g11 rfl trivial fr10 ?_ ?_
  · intro wx _; simp only [execOp, w31_o11]; go_simp
  intro a11 fr11 t48 ho
  replace t0 := (ho 0 (by decide)).trans t0
  replace t1 := (ho 1 (by decide)).trans t1
  replace t2 := (ho 2 (by decide)).trans t2
  replace t3 := (ho 3 (by decide)).trans t3
  replace t8 := (ho 8 (by decide)).trans t8
  replace t9 := (ho 9 (by decide)).trans t9
  replace t37 := (ho 37 (by decide)).trans t37
  replace t38 := (ho 38 (by decide)).trans t38
  replace t39 := (ho 39 (by decide)).trans t39
  replace t40 := (ho 40 (by decide)).trans t40
  replace t41 := (ho 41 (by decide)).trans t41
  replace t42 := (ho 42 (by decide)).trans t42
  replace t43 := (ho 43 (by decide)).trans t43
  replace t44 := (ho 44 (by decide)).trans t44
  replace t45 := (ho 45 (by decide)).trans t45
  replace t47 := (ho 47 (by decide)).trans t47
  clear fr10 ho
  refine take1 12 49 _ (.pointer (some ⟨b, j * 2, none⟩)) #[true, true, true, true, true, true, true, true, true, false, true, true, true, false, false, false, false, false] w31_i12 w31_d12 (by decide) w31_s w31_f12 w31_r12 w31_g12 rfl trivial fr11 ?_ ?_
  · intro wx _; simp only [execOp, w31_o12]; go_simp
  intro a12 fr12 t49 ho
  replace t0 := (ho 0 (by decide)).trans t0
  replace t1 := (ho 1 (by decide)).trans t1
  replace t2 := (ho 2 (by decide)).trans t2
  replace t3 := (ho 3 (by decide)).trans t3
  replace t8 := (ho 8 (by decide)).trans t8
  replace t9 := (ho 9 (by decide)).trans t9
  replace t37 := (ho 37 (by decide)).trans t37
  replace t38 := (ho 38 (by decide)).trans t38
  replace t39 := (ho 39 (by decide)).trans t39
  replace t40 := (ho 40 (by decide)).trans t40
  replace t41 := (ho 41 (by decide)).trans t41
  replace t42 := (ho 42 (by decide)).trans t42
  replace t43 := (ho 43 (by decide)).trans t43
  replace t44 := (ho 44 (by decide)).trans t44
  replace t45 := (ho 45 (by decide)).trans t45
  replace t47 := (ho 47 (by decide)).trans t47
  replace t48 := (ho 48 (by decide)).trans t48
  clear fr11 ho
  refine both2 9 13 w31_rl ?_ ?_
  · refine act1 9 46 _ (.agg #[.string ej1.nm, .slice (some ⟨ej1.vb, 0, none⟩) 2 2]) w.drew #[true, true, true, true, true, true, true, true, true, true, true, true, true, false, false, false, false, false] w31_i9 w31_d9 (by decide) w31_g9 rfl fr12 ?_ trivial ?_
    · simp only [execOp, w31_o9]; go_simp
    intro a13 fr13 t46 ho
    replace t0 := (ho 0 (by decide)).trans t0
    replace t1 := (ho 1 (by decide)).trans t1
    replace t2 := (ho 2 (by decide)).trans t2
    replace t3 := (ho 3 (by decide)).trans t3
    replace t8 := (ho 8 (by decide)).trans t8
    replace t9 := (ho 9 (by decide)).trans t9
    replace t37 := (ho 37 (by decide)).trans t37
    replace t38 := (ho 38 (by decide)).trans t38
    replace t39 := (ho 39 (by decide)).trans t39
    replace t40 := (ho 40 (by decide)).trans t40
    replace t41 := (ho 41 (by decide)).trans t41
    replace t42 := (ho 42 (by decide)).trans t42
    replace t43 := (ho 43 (by decide)).trans t43
    replace t44 := (ho 44 (by decide)).trans t44
    replace t45 := (ho 45 (by decide)).trans t45
    replace t47 := (ho 47 (by decide)).trans t47
    replace t48 := (ho 48 (by decide)).trans t48
    replace t49 := (ho 49 (by decide)).trans t49
    clear ho
    refine only1 13 w31_ra (act1 13 50 _ (.agg #[.string ej.nm, .slice (some ⟨ej.vb, 0, none⟩) 2 2]) w.drew #[true, true, true, true, true, true, true, true, true, true, true, true, true, true, false, false, false, false] w31_i13 w31_d13 (by decide) w31_g13 rfl fr13 ?_ trivial ?_)
    · simp only [execOp, w31_o13]; go_simp
    intro a14 fr14 t50 ho
    replace t0 := (ho 0 (by decide)).trans t0
    replace t1 := (ho 1 (by decide)).trans t1
    replace t2 := (ho 2 (by decide)).trans t2
    replace t3 := (ho 3 (by decide)).trans t3
    replace t8 := (ho 8 (by decide)).trans t8
    replace t9 := (ho 9 (by decide)).trans t9
    replace t37 := (ho 37 (by decide)).trans t37
    replace t38 := (ho 38 (by decide)).trans t38
    replace t39 := (ho 39 (by decide)).trans t39
    replace t40 := (ho 40 (by decide)).trans t40
    replace t41 := (ho 41 (by decide)).trans t41
    replace t42 := (ho 42 (by decide)).trans t42
    replace t43 := (ho 43 (by decide)).trans t43
    replace t44 := (ho 44 (by decide)).trans t44
    replace t45 := (ho 45 (by decide)).trans t45
    replace t47 := (ho 47 (by decide)).trans t47
    replace t48 := (ho 48 (by decide)).trans t48
    replace t49 := (ho 49 (by decide)).trans t49
    replace t46 := (ho 46 (by decide)).trans t46
    clear ho
    refine take1 14 51 _ (.pointer (some ⟨b, j * 2, none⟩)) #[true, true, true, true, true, true, true, true, true, true, true, true, true, true, true, false, false, false] w31_i14 w31_d14 (by decide) w31_s w31_f14 w31_r14 w31_g14 rfl trivial fr14 ?_ ?_
    · intro wx _; simp only [execOp, w31_o14]; go_simp
    intro a15 fr15 t51 ho
    replace t0 := (ho 0 (by decide)).trans t0
    replace t1 := (ho 1 (by decide)).trans t1
    replace t2 := (ho 2 (by decide)).trans t2
    replace t3 := (ho 3 (by decide)).trans t3
    replace t8 := (ho 8 (by decide)).trans t8
    replace t9 := (ho 9 (by decide)).trans t9
    replace t37 := (ho 37 (by decide)).trans t37
    replace t38 := (ho 38 (by decide)).trans t38
    replace t39 := (ho 39 (by decide)).trans t39
    replace t40 := (ho 40 (by decide)).trans t40
    replace t41 := (ho 41 (by decide)).trans t41
    replace t42 := (ho 42 (by decide)).trans t42
    replace t43 := (ho 43 (by decide)).trans t43
    replace t44 := (ho 44 (by decide)).trans t44
    replace t45 := (ho 45 (by decide)).trans t45
    replace t47 := (ho 47 (by decide)).trans t47
    replace t48 := (ho 48 (by decide)).trans t48
    replace t49 := (ho 49 (by decide)).trans t49
    replace t46 := (ho 46 (by decide)).trans t46
    replace t50 := (ho 50 (by decide)).trans t50
    clear ho
    refine only1 15 w31_r15 (act0 15 _ (put2 w.drew b j ej1) #[true, true, true, true, true, true, true, true, true, true, true, true, true, true, true, true, false, false] w31_i15 w31_d15 w31_g15 rfl ?_ trivial ?_)
    · simp only [execOp, w31_o15]; unfold put2 Hd.val; go_simp
    refine take1 16 52 _ (.pointer (some ⟨b, j1 * 2, none⟩)) #[true, true, true, true, true, true, true, true, true, true, true, true, true, true, true, true, true, false] w31_i16 w31_d16 (by decide) w31_s w31_f16 w31_r16 w31_g16 rfl trivial fr15 ?_ ?_
    · intro wx _; simp only [execOp, w31_o16]; go_simp
    intro a16 fr16 t52 ho
    replace t0 := (ho 0 (by decide)).trans t0
    replace t1 := (ho 1 (by decide)).trans t1
    replace t2 := (ho 2 (by decide)).trans t2
    replace t3 := (ho 3 (by decide)).trans t3
    replace t8 := (ho 8 (by decide)).trans t8
    replace t9 := (ho 9 (by decide)).trans t9
    replace t37 := (ho 37 (by decide)).trans t37
    replace t38 := (ho 38 (by decide)).trans t38
    replace t39 := (ho 39 (by decide)).trans t39
    replace t40 := (ho 40 (by decide)).trans t40
    replace t41 := (ho 41 (by decide)).trans t41
    replace t42 := (ho 42 (by decide)).trans t42
    replace t43 := (ho 43 (by decide)).trans t43
    replace t44 := (ho 44 (by decide)).trans t44
    replace t45 := (ho 45 (by decide)).trans t45
    replace t47 := (ho 47 (by decide)).trans t47
    replace t48 := (ho 48 (by decide)).trans t48
    replace t49 := (ho 49 (by decide)).trans t49
    replace t46 := (ho 46 (by decide)).trans t46
    replace t50 := (ho 50 (by decide)).trans t50
    replace t51 := (ho 51 (by decide)).trans t51
    clear ho
    refine only1 17 w31_r17 (act0 17 _ (put2 (put2 w.drew b j ej1) b j1 ej) #[true, true, true, true, true, true, true, true, true, true, true, true, true, true, true, true, true, true] w31_i17 w31_d17 w31_g17 rfl ?_ trivial ?_)
    · simp only [execOp, w31_o17]; unfold put2 Hd.val; go_simp
    refine wpAnyH_done w31_re ?_ _
    exact ⟨rfl, fr16, (sl_at _ _).trans t0, (sl_at _ _).trans t1, (sl_at _ _).trans t2, (sl_at _ _).trans t3, (sl_at _ _).trans t8, (sl_at _ _).trans t9, trivial⟩
  · refine act1 13 50 _ (.agg #[.string ej.nm, .slice (some ⟨ej.vb, 0, none⟩) 2 2]) w.drew #[true, true, true, true, true, true, true, true, true, false, true, true, true, true, false, false, false, false] w31_i13 w31_d13 (by decide) w31_g13 rfl fr12 ?_ trivial ?_
    · simp only [execOp, w31_o13]; go_simp
    intro a13 fr13 t50 ho
    replace t0 := (ho 0 (by decide)).trans t0
    replace t1 := (ho 1 (by decide)).trans t1
    replace t2 := (ho 2 (by decide)).trans t2
    replace t3 := (ho 3 (by decide)).trans t3
    replace t8 := (ho 8 (by decide)).trans t8
    replace t9 := (ho 9 (by decide)).trans t9
    replace t37 := (ho 37 (by decide)).trans t37
    replace t38 := (ho 38 (by decide)).trans t38
    replace t39 := (ho 39 (by decide)).trans t39
    replace t40 := (ho 40 (by decide)).trans t40
    replace t41 := (ho 41 (by decide)).trans t41
    replace t42 := (ho 42 (by decide)).trans t42
    replace t43 := (ho 43 (by decide)).trans t43
    replace t44 := (ho 44 (by decide)).trans t44
    replace t45 := (ho 45 (by decide)).trans t45
    replace t47 := (ho 47 (by decide)).trans t47
    replace t48 := (ho 48 (by decide)).trans t48
    replace t49 := (ho 49 (by decide)).trans t49
    clear ho
    refine only1 9 w31_rb (act1 9 46 _ (.agg #[.string ej1.nm, .slice (some ⟨ej1.vb, 0, none⟩) 2 2]) w.drew #[true, true, true, true, true, true, true, true, true, true, true, true, true, true, false, false, false, false] w31_i9 w31_d9 (by decide) w31_g9 rfl fr13 ?_ trivial ?_)
    · simp only [execOp, w31_o9]; go_simp
    intro a14 fr14 t46 ho
    replace t0 := (ho 0 (by decide)).trans t0
    replace t1 := (ho 1 (by decide)).trans t1
    replace t2 := (ho 2 (by decide)).trans t2
    replace t3 := (ho 3 (by decide)).trans t3
    replace t8 := (ho 8 (by decide)).trans t8
    replace t9 := (ho 9 (by decide)).trans t9
    replace t37 := (ho 37 (by decide)).trans t37
    replace t38 := (ho 38 (by decide)).trans t38
    replace t39 := (ho 39 (by decide)).trans t39
    replace t40 := (ho 40 (by decide)).trans t40
    replace t41 := (ho 41 (by decide)).trans t41
    replace t42 := (ho 42 (by decide)).trans t42
    replace t43 := (ho 43 (by decide)).trans t43
    replace t44 := (ho 44 (by decide)).trans t44
    replace t45 := (ho 45 (by decide)).trans t45
    replace t47 := (ho 47 (by decide)).trans t47
    replace t48 := (ho 48 (by decide)).trans t48
    replace t49 := (ho 49 (by decide)).trans t49
    replace t50 := (ho 50 (by decide)).trans t50
    clear ho
    refine take1 14 51 _ (.pointer (some ⟨b, j * 2, none⟩)) #[true, true, true, true, true, true, true, true, true, true, true, true, true, true, true, false, false, false] w31_i14 w31_d14 (by decide) w31_s w31_f14 w31_r14 w31_g14 rfl trivial fr14 ?_ ?_
    · intro wx _; simp only [execOp, w31_o14]; go_simp
    intro a15 fr15 t51 ho
    replace t0 := (ho 0 (by decide)).trans t0
    replace t1 := (ho 1 (by decide)).trans t1
    replace t2 := (ho 2 (by decide)).trans t2
    replace t3 := (ho 3 (by decide)).trans t3
    replace t8 := (ho 8 (by decide)).trans t8
    replace t9 := (ho 9 (by decide)).trans t9
    replace t37 := (ho 37 (by decide)).trans t37
    replace t38 := (ho 38 (by decide)).trans t38
    replace t39 := (ho 39 (by decide)).trans t39
    replace t40 := (ho 40 (by decide)).trans t40
    replace t41 := (ho 41 (by decide)).trans t41
    replace t42 := (ho 42 (by decide)).trans t42
    replace t43 := (ho 43 (by decide)).trans t43
    replace t44 := (ho 44 (by decide)).trans t44
    replace t45 := (ho 45 (by decide)).trans t45
    replace t47 := (ho 47 (by decide)).trans t47
    replace t48 := (ho 48 (by decide)).trans t48
    replace t49 := (ho 49 (by decide)).trans t49
    replace t46 := (ho 46 (by decide)).trans t46
    replace t50 := (ho 50 (by decide)).trans t50
    clear ho
    refine only1 15 w31_r15 (act0 15 _ (put2 w.drew b j ej1) #[true, true, true, true, true, true, true, true, true, true, true, true, true, true, true, true, false, false] w31_i15 w31_d15 w31_g15 rfl ?_ trivial ?_)
    · simp only [execOp, w31_o15]; unfold put2 Hd.val; go_simp
    refine take1 16 52 _ (.pointer (some ⟨b, j1 * 2, none⟩)) #[true, true, true, true, true, true, true, true, true, true, true, true, true, true, true, true, true, false] w31_i16 w31_d16 (by decide) w31_s w31_f16 w31_r16 w31_g16 rfl trivial fr15 ?_ ?_
    · intro wx _; simp only [execOp, w31_o16]; go_simp
    intro a16 fr16 t52 ho
    replace t0 := (ho 0 (by decide)).trans t0
    replace t1 := (ho 1 (by decide)).trans t1
    replace t2 := (ho 2 (by decide)).trans t2
    replace t3 := (ho 3 (by decide)).trans t3
    replace t8 := (ho 8 (by decide)).trans t8
    replace t9 := (ho 9 (by decide)).trans t9
    replace t37 := (ho 37 (by decide)).trans t37
    replace t38 := (ho 38 (by decide)).trans t38
    replace t39 := (ho 39 (by decide)).trans t39
    replace t40 := (ho 40 (by decide)).trans t40
    replace t41 := (ho 41 (by decide)).trans t41
    replace t42 := (ho 42 (by decide)).trans t42
    replace t43 := (ho 43 (by decide)).trans t43
    replace t44 := (ho 44 (by decide)).trans t44
    replace t45 := (ho 45 (by decide)).trans t45
    replace t47 := (ho 47 (by decide)).trans t47
    replace t48 := (ho 48 (by decide)).trans t48
    replace t49 := (ho 49 (by decide)).trans t49
    replace t46 := (ho 46 (by decide)).trans t46
    replace t50 := (ho 50 (by decide)).trans t50
    replace t51 := (ho 51 (by decide)).trans t51
    clear ho
    refine only1 17 w31_r17 (act0 17 _ (put2 (put2 w.drew b j ej1) b j1 ej) #[true, true, true, true, true, true, true, true, true, true, true, true, true, true, true, true, true, true] w31_i17 w31_d17 w31_g17 rfl ?_ trivial ?_)
    · simp only [execOp, w31_o17]; unfold put2 Hd.val; go_simp
    refine wpAnyH_done w31_re ?_ _
    exact ⟨rfl, fr16, (sl_at _ _).trans t0, (sl_at _ _).trans t1, (sl_at _ _).trans t2, (sl_at _ _).trans t3, (sl_at _ _).trans t8, (sl_at _ _).trans t9, trivial⟩

end Go.Proofs.Qxb6601010a
