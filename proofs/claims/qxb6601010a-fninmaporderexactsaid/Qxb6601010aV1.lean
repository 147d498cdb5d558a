import Derived.Test.Qxb6601010aU1
namespace Go.Proofs.Qxb6601010a
open Go.RowKit
set_option linter.unusedSimpArgs false
set_option linter.unusedVariables false

theorem s35_s : Region.noSelect (regOps (inC (hdC (tlC (inC (inC (tlC (bodyC Try.f35)))))))) = true := by kernel_rfl
theorem s35_i0 : (regOps (inC (hdC (tlC (inC (inC (tlC (bodyC Try.f35))))))))[0]? = some (regOp (inC (hdC (tlC (inC (inC (tlC (bodyC Try.f35))))))) 0) := by kernel_rfl
theorem s35_d0 : (regOp (inC (hdC (tlC (inC (inC (tlC (bodyC Try.f35))))))) 0).dst = some 16 := by kernel_rfl
theorem s35_g0 : (regOp (inC (hdC (tlC (inC (inC (tlC (bodyC Try.f35))))))) 0).guard = none := by kernel_rfl
theorem s35_o0 : (regOp (inC (hdC (tlC (inC (inC (tlC (bodyC Try.f35))))))) 0).op = Op.move (.tmp 0) := by kernel_rfl
theorem s35_i1 : (regOps (inC (hdC (tlC (inC (inC (tlC (bodyC Try.f35))))))))[1]? = some (regOp (inC (hdC (tlC (inC (inC (tlC (bodyC Try.f35))))))) 1) := by kernel_rfl
theorem s35_d1 : (regOp (inC (hdC (tlC (inC (inC (tlC (bodyC Try.f35))))))) 1).dst = some 17 := by kernel_rfl
theorem s35_g1 : (regOp (inC (hdC (tlC (inC (inC (tlC (bodyC Try.f35))))))) 1).guard = none := by kernel_rfl
theorem s35_o1 : (regOp (inC (hdC (tlC (inC (inC (tlC (bodyC Try.f35))))))) 1).op = Op.move (.tmp 1) := by kernel_rfl
theorem s35_i2 : (regOps (inC (hdC (tlC (inC (inC (tlC (bodyC Try.f35))))))))[2]? = some (regOp (inC (hdC (tlC (inC (inC (tlC (bodyC Try.f35))))))) 2) := by kernel_rfl
theorem s35_d2 : (regOp (inC (hdC (tlC (inC (inC (tlC (bodyC Try.f35))))))) 2).dst = some 18 := by kernel_rfl
theorem s35_g2 : (regOp (inC (hdC (tlC (inC (inC (tlC (bodyC Try.f35))))))) 2).guard = none := by kernel_rfl
theorem s35_o2 : (regOp (inC (hdC (tlC (inC (inC (tlC (bodyC Try.f35))))))) 2).op = Op.move (.tmp 10) := by kernel_rfl
theorem s35_i3 : (regOps (inC (hdC (tlC (inC (inC (tlC (bodyC Try.f35))))))))[3]? = some (regOp (inC (hdC (tlC (inC (inC (tlC (bodyC Try.f35))))))) 3) := by kernel_rfl
theorem s35_d3 : (regOp (inC (hdC (tlC (inC (inC (tlC (bodyC Try.f35))))))) 3).dst = some 19 := by kernel_rfl
theorem s35_g3 : (regOp (inC (hdC (tlC (inC (inC (tlC (bodyC Try.f35))))))) 3).guard = none := by kernel_rfl
theorem s35_o3 : (regOp (inC (hdC (tlC (inC (inC (tlC (bodyC Try.f35))))))) 3).op = Op.binOp .add 3 (.tmp 17) (.tmp 18) 3 := by kernel_rfl
theorem s35_i4 : (regOps (inC (hdC (tlC (inC (inC (tlC (bodyC Try.f35))))))))[4]? = some (regOp (inC (hdC (tlC (inC (inC (tlC (bodyC Try.f35))))))) 4) := by kernel_rfl
theorem s35_d4 : (regOp (inC (hdC (tlC (inC (inC (tlC (bodyC Try.f35))))))) 4).dst = some 20 := by kernel_rfl
theorem s35_g4 : (regOp (inC (hdC (tlC (inC (inC (tlC (bodyC Try.f35))))))) 4).guard = none := by kernel_rfl
theorem s35_o4 : (regOp (inC (hdC (tlC (inC (inC (tlC (bodyC Try.f35))))))) 4).op = Op.move (.tmp 0) := by kernel_rfl
theorem s35_i5 : (regOps (inC (hdC (tlC (inC (inC (tlC (bodyC Try.f35))))))))[5]? = some (regOp (inC (hdC (tlC (inC (inC (tlC (bodyC Try.f35))))))) 5) := by kernel_rfl
theorem s35_d5 : (regOp (inC (hdC (tlC (inC (inC (tlC (bodyC Try.f35))))))) 5).dst = some 21 := by kernel_rfl
theorem s35_g5 : (regOp (inC (hdC (tlC (inC (inC (tlC (bodyC Try.f35))))))) 5).guard = none := by kernel_rfl
theorem s35_o5 : (regOp (inC (hdC (tlC (inC (inC (tlC (bodyC Try.f35))))))) 5).op = Op.move (.tmp 2) := by kernel_rfl
theorem s35_i6 : (regOps (inC (hdC (tlC (inC (inC (tlC (bodyC Try.f35))))))))[6]? = some (regOp (inC (hdC (tlC (inC (inC (tlC (bodyC Try.f35))))))) 6) := by kernel_rfl
theorem s35_d6 : (regOp (inC (hdC (tlC (inC (inC (tlC (bodyC Try.f35))))))) 6).dst = some 22 := by kernel_rfl
theorem s35_g6 : (regOp (inC (hdC (tlC (inC (inC (tlC (bodyC Try.f35))))))) 6).guard = none := by kernel_rfl
theorem s35_o6 : (regOp (inC (hdC (tlC (inC (inC (tlC (bodyC Try.f35))))))) 6).op = Op.move (.tmp 10) := by kernel_rfl
theorem s35_i7 : (regOps (inC (hdC (tlC (inC (inC (tlC (bodyC Try.f35))))))))[7]? = some (regOp (inC (hdC (tlC (inC (inC (tlC (bodyC Try.f35))))))) 7) := by kernel_rfl
theorem s35_d7 : (regOp (inC (hdC (tlC (inC (inC (tlC (bodyC Try.f35))))))) 7).dst = some 23 := by kernel_rfl
theorem s35_g7 : (regOp (inC (hdC (tlC (inC (inC (tlC (bodyC Try.f35))))))) 7).guard = none := by kernel_rfl
theorem s35_o7 : (regOp (inC (hdC (tlC (inC (inC (tlC (bodyC Try.f35))))))) 7).op = Op.binOp .add 3 (.tmp 21) (.tmp 22) 3 := by kernel_rfl
theorem s35_i8 : (regOps (inC (hdC (tlC (inC (inC (tlC (bodyC Try.f35))))))))[8]? = some (regOp (inC (hdC (tlC (inC (inC (tlC (bodyC Try.f35))))))) 8) := by kernel_rfl
theorem s35_d8 : (regOp (inC (hdC (tlC (inC (inC (tlC (bodyC Try.f35))))))) 8).dst = some 24 := by kernel_rfl
theorem s35_g8 : (regOp (inC (hdC (tlC (inC (inC (tlC (bodyC Try.f35))))))) 8).guard = none := by kernel_rfl
theorem s35_o8 : (regOp (inC (hdC (tlC (inC (inC (tlC (bodyC Try.f35))))))) 8).op = Op.move (.tmp 0) := by kernel_rfl
theorem s35_i9 : (regOps (inC (hdC (tlC (inC (inC (tlC (bodyC Try.f35))))))))[9]? = some (regOp (inC (hdC (tlC (inC (inC (tlC (bodyC Try.f35))))))) 9) := by kernel_rfl
theorem s35_d9 : (regOp (inC (hdC (tlC (inC (inC (tlC (bodyC Try.f35))))))) 9).dst = some 25 := by kernel_rfl
theorem s35_g9 : (regOp (inC (hdC (tlC (inC (inC (tlC (bodyC Try.f35))))))) 9).guard = none := by kernel_rfl
theorem s35_o9 : (regOp (inC (hdC (tlC (inC (inC (tlC (bodyC Try.f35))))))) 9).op = Op.move (.tmp 2) := by kernel_rfl
theorem s35_i10 : (regOps (inC (hdC (tlC (inC (inC (tlC (bodyC Try.f35))))))))[10]? = some (regOp (inC (hdC (tlC (inC (inC (tlC (bodyC Try.f35))))))) 10) := by kernel_rfl
theorem s35_d10 : (regOp (inC (hdC (tlC (inC (inC (tlC (bodyC Try.f35))))))) 10).dst = some 26 := by kernel_rfl
theorem s35_g10 : (regOp (inC (hdC (tlC (inC (inC (tlC (bodyC Try.f35))))))) 10).guard = none := by kernel_rfl
theorem s35_o10 : (regOp (inC (hdC (tlC (inC (inC (tlC (bodyC Try.f35))))))) 10).op = Op.move (.tmp 10) := by kernel_rfl
theorem s35_i11 : (regOps (inC (hdC (tlC (inC (inC (tlC (bodyC Try.f35))))))))[11]? = some (regOp (inC (hdC (tlC (inC (inC (tlC (bodyC Try.f35))))))) 11) := by kernel_rfl
theorem s35_d11 : (regOp (inC (hdC (tlC (inC (inC (tlC (bodyC Try.f35))))))) 11).dst = some 27 := by kernel_rfl
theorem s35_g11 : (regOp (inC (hdC (tlC (inC (inC (tlC (bodyC Try.f35))))))) 11).guard = none := by kernel_rfl
theorem s35_o11 : (regOp (inC (hdC (tlC (inC (inC (tlC (bodyC Try.f35))))))) 11).op = Op.binOp .add 3 (.tmp 25) (.tmp 26) 3 := by kernel_rfl
theorem s35_i12 : (regOps (inC (hdC (tlC (inC (inC (tlC (bodyC Try.f35))))))))[12]? = some (regOp (inC (hdC (tlC (inC (inC (tlC (bodyC Try.f35))))))) 12) := by kernel_rfl
theorem s35_d12 : (regOp (inC (hdC (tlC (inC (inC (tlC (bodyC Try.f35))))))) 12).dst = some 28 := by kernel_rfl
theorem s35_g12 : (regOp (inC (hdC (tlC (inC (inC (tlC (bodyC Try.f35))))))) 12).guard = none := by kernel_rfl
theorem s35_o12 : (regOp (inC (hdC (tlC (inC (inC (tlC (bodyC Try.f35))))))) 12).op = Op.indexAddr 34 (.tmp 24) (.tmp 27) := by kernel_rfl
theorem s35_i13 : (regOps (inC (hdC (tlC (inC (inC (tlC (bodyC Try.f35))))))))[13]? = some (regOp (inC (hdC (tlC (inC (inC (tlC (bodyC Try.f35))))))) 13) := by kernel_rfl
theorem s35_d13 : (regOp (inC (hdC (tlC (inC (inC (tlC (bodyC Try.f35))))))) 13).dst = some 29 := by kernel_rfl
theorem s35_g13 : (regOp (inC (hdC (tlC (inC (inC (tlC (bodyC Try.f35))))))) 13).guard = none := by kernel_rfl
theorem s35_o13 : (regOp (inC (hdC (tlC (inC (inC (tlC (bodyC Try.f35))))))) 13).op = Op.load 39 (.tmp 28) := by kernel_rfl
theorem s35_i14 : (regOps (inC (hdC (tlC (inC (inC (tlC (bodyC Try.f35))))))))[14]? = some (regOp (inC (hdC (tlC (inC (inC (tlC (bodyC Try.f35))))))) 14) := by kernel_rfl
theorem s35_d14 : (regOp (inC (hdC (tlC (inC (inC (tlC (bodyC Try.f35))))))) 14).dst = some 30 := by kernel_rfl
theorem s35_g14 : (regOp (inC (hdC (tlC (inC (inC (tlC (bodyC Try.f35))))))) 14).guard = none := by kernel_rfl
theorem s35_o14 : (regOp (inC (hdC (tlC (inC (inC (tlC (bodyC Try.f35))))))) 14).op = Op.move (.tmp 0) := by kernel_rfl
theorem s35_i15 : (regOps (inC (hdC (tlC (inC (inC (tlC (bodyC Try.f35))))))))[15]? = some (regOp (inC (hdC (tlC (inC (inC (tlC (bodyC Try.f35))))))) 15) := by kernel_rfl
theorem s35_d15 : (regOp (inC (hdC (tlC (inC (inC (tlC (bodyC Try.f35))))))) 15).dst = some 31 := by kernel_rfl
theorem s35_g15 : (regOp (inC (hdC (tlC (inC (inC (tlC (bodyC Try.f35))))))) 15).guard = none := by kernel_rfl
theorem s35_o15 : (regOp (inC (hdC (tlC (inC (inC (tlC (bodyC Try.f35))))))) 15).op = Op.move (.tmp 1) := by kernel_rfl
theorem s35_i16 : (regOps (inC (hdC (tlC (inC (inC (tlC (bodyC Try.f35))))))))[16]? = some (regOp (inC (hdC (tlC (inC (inC (tlC (bodyC Try.f35))))))) 16) := by kernel_rfl
theorem s35_d16 : (regOp (inC (hdC (tlC (inC (inC (tlC (bodyC Try.f35))))))) 16).dst = some 32 := by kernel_rfl
theorem s35_g16 : (regOp (inC (hdC (tlC (inC (inC (tlC (bodyC Try.f35))))))) 16).guard = none := by kernel_rfl
theorem s35_o16 : (regOp (inC (hdC (tlC (inC (inC (tlC (bodyC Try.f35))))))) 16).op = Op.move (.tmp 10) := by kernel_rfl
theorem s35_i17 : (regOps (inC (hdC (tlC (inC (inC (tlC (bodyC Try.f35))))))))[17]? = some (regOp (inC (hdC (tlC (inC (inC (tlC (bodyC Try.f35))))))) 17) := by kernel_rfl
theorem s35_d17 : (regOp (inC (hdC (tlC (inC (inC (tlC (bodyC Try.f35))))))) 17).dst = some 33 := by kernel_rfl
theorem s35_g17 : (regOp (inC (hdC (tlC (inC (inC (tlC (bodyC Try.f35))))))) 17).guard = none := by kernel_rfl
theorem s35_o17 : (regOp (inC (hdC (tlC (inC (inC (tlC (bodyC Try.f35))))))) 17).op = Op.binOp .add 3 (.tmp 31) (.tmp 32) 3 := by kernel_rfl
theorem s35_i18 : (regOps (inC (hdC (tlC (inC (inC (tlC (bodyC Try.f35))))))))[18]? = some (regOp (inC (hdC (tlC (inC (inC (tlC (bodyC Try.f35))))))) 18) := by kernel_rfl
theorem s35_d18 : (regOp (inC (hdC (tlC (inC (inC (tlC (bodyC Try.f35))))))) 18).dst = some 34 := by kernel_rfl
theorem s35_g18 : (regOp (inC (hdC (tlC (inC (inC (tlC (bodyC Try.f35))))))) 18).guard = none := by kernel_rfl
theorem s35_o18 : (regOp (inC (hdC (tlC (inC (inC (tlC (bodyC Try.f35))))))) 18).op = Op.indexAddr 34 (.tmp 30) (.tmp 33) := by kernel_rfl
theorem s35_i19 : (regOps (inC (hdC (tlC (inC (inC (tlC (bodyC Try.f35))))))))[19]? = some (regOp (inC (hdC (tlC (inC (inC (tlC (bodyC Try.f35))))))) 19) := by kernel_rfl
theorem s35_d19 : (regOp (inC (hdC (tlC (inC (inC (tlC (bodyC Try.f35))))))) 19).dst = some 35 := by kernel_rfl
theorem s35_g19 : (regOp (inC (hdC (tlC (inC (inC (tlC (bodyC Try.f35))))))) 19).guard = none := by kernel_rfl
theorem s35_o19 : (regOp (inC (hdC (tlC (inC (inC (tlC (bodyC Try.f35))))))) 19).op = Op.load 39 (.tmp 34) := by kernel_rfl
theorem s35_i20 : (regOps (inC (hdC (tlC (inC (inC (tlC (bodyC Try.f35))))))))[20]? = some (regOp (inC (hdC (tlC (inC (inC (tlC (bodyC Try.f35))))))) 20) := by kernel_rfl
theorem s35_d20 : (regOp (inC (hdC (tlC (inC (inC (tlC (bodyC Try.f35))))))) 20).dst = some 36 := by kernel_rfl
theorem s35_g20 : (regOp (inC (hdC (tlC (inC (inC (tlC (bodyC Try.f35))))))) 20).guard = none := by kernel_rfl
theorem s35_o20 : (regOp (inC (hdC (tlC (inC (inC (tlC (bodyC Try.f35))))))) 20).op = Op.indexAddr 34 (.tmp 16) (.tmp 19) := by kernel_rfl
theorem s35_i21 : (regOps (inC (hdC (tlC (inC (inC (tlC (bodyC Try.f35))))))))[21]? = some (regOp (inC (hdC (tlC (inC (inC (tlC (bodyC Try.f35))))))) 21) := by kernel_rfl
theorem s35_d21 : (regOp (inC (hdC (tlC (inC (inC (tlC (bodyC Try.f35))))))) 21).dst = none := by kernel_rfl
theorem s35_g21 : (regOp (inC (hdC (tlC (inC (inC (tlC (bodyC Try.f35))))))) 21).guard = none := by kernel_rfl
theorem s35_o21 : (regOp (inC (hdC (tlC (inC (inC (tlC (bodyC Try.f35))))))) 21).op = Op.store 39 (.tmp 36) (.tmp 29) := by kernel_rfl
theorem s35_i22 : (regOps (inC (hdC (tlC (inC (inC (tlC (bodyC Try.f35))))))))[22]? = some (regOp (inC (hdC (tlC (inC (inC (tlC (bodyC Try.f35))))))) 22) := by kernel_rfl
theorem s35_d22 : (regOp (inC (hdC (tlC (inC (inC (tlC (bodyC Try.f35))))))) 22).dst = some 37 := by kernel_rfl
theorem s35_g22 : (regOp (inC (hdC (tlC (inC (inC (tlC (bodyC Try.f35))))))) 22).guard = none := by kernel_rfl
theorem s35_o22 : (regOp (inC (hdC (tlC (inC (inC (tlC (bodyC Try.f35))))))) 22).op = Op.indexAddr 34 (.tmp 20) (.tmp 23) := by kernel_rfl
theorem s35_i23 : (regOps (inC (hdC (tlC (inC (inC (tlC (bodyC Try.f35))))))))[23]? = some (regOp (inC (hdC (tlC (inC (inC (tlC (bodyC Try.f35))))))) 23) := by kernel_rfl
theorem s35_d23 : (regOp (inC (hdC (tlC (inC (inC (tlC (bodyC Try.f35))))))) 23).dst = none := by kernel_rfl
theorem s35_g23 : (regOp (inC (hdC (tlC (inC (inC (tlC (bodyC Try.f35))))))) 23).guard = none := by kernel_rfl
theorem s35_o23 : (regOp (inC (hdC (tlC (inC (inC (tlC (bodyC Try.f35))))))) 23).op = Op.store 39 (.tmp 37) (.tmp 35) := by kernel_rfl
theorem s35_f0 : Region.free .any (regOps (inC (hdC (tlC (inC (inC (tlC (bodyC Try.f35)))))))) #[false, false, false, false, false, false, false, false, false, false, false, false, false, false, false, false, false, false, false, false, false, false, false, false] 0 = true := by kernel_rfl
theorem s35_r0 : (Region.ready .any (regOps (inC (hdC (tlC (inC (inC (tlC (bodyC Try.f35)))))))) #[false, false, false, false, false, false, false, false, false, false, false, false, false, false, false, false, false, false, false, false, false, false, false, false]).contains 0 = true := by kernel_rfl
theorem s35_f1 : Region.free .any (regOps (inC (hdC (tlC (inC (inC (tlC (bodyC Try.f35)))))))) #[true, false, false, false, false, false, false, false, false, false, false, false, false, false, false, false, false, false, false, false, false, false, false, false] 1 = true := by kernel_rfl
theorem s35_r1 : (Region.ready .any (regOps (inC (hdC (tlC (inC (inC (tlC (bodyC Try.f35)))))))) #[true, false, false, false, false, false, false, false, false, false, false, false, false, false, false, false, false, false, false, false, false, false, false, false]).contains 1 = true := by kernel_rfl
theorem s35_f2 : Region.free .any (regOps (inC (hdC (tlC (inC (inC (tlC (bodyC Try.f35)))))))) #[true, true, false, false, false, false, false, false, false, false, false, false, false, false, false, false, false, false, false, false, false, false, false, false] 2 = true := by kernel_rfl
theorem s35_r2 : (Region.ready .any (regOps (inC (hdC (tlC (inC (inC (tlC (bodyC Try.f35)))))))) #[true, true, false, false, false, false, false, false, false, false, false, false, false, false, false, false, false, false, false, false, false, false, false, false]).contains 2 = true := by kernel_rfl
theorem s35_f3 : Region.free .any (regOps (inC (hdC (tlC (inC (inC (tlC (bodyC Try.f35)))))))) #[true, true, true, false, false, false, false, false, false, false, false, false, false, false, false, false, false, false, false, false, false, false, false, false] 3 = true := by kernel_rfl
theorem s35_r3 : (Region.ready .any (regOps (inC (hdC (tlC (inC (inC (tlC (bodyC Try.f35)))))))) #[true, true, true, false, false, false, false, false, false, false, false, false, false, false, false, false, false, false, false, false, false, false, false, false]).contains 3 = true := by kernel_rfl
theorem s35_f4 : Region.free .any (regOps (inC (hdC (tlC (inC (inC (tlC (bodyC Try.f35)))))))) #[true, true, true, true, false, false, false, false, false, false, false, false, false, false, false, false, false, false, false, false, false, false, false, false] 4 = true := by kernel_rfl
theorem s35_r4 : (Region.ready .any (regOps (inC (hdC (tlC (inC (inC (tlC (bodyC Try.f35)))))))) #[true, true, true, true, false, false, false, false, false, false, false, false, false, false, false, false, false, false, false, false, false, false, false, false]).contains 4 = true := by kernel_rfl
theorem s35_f5 : Region.free .any (regOps (inC (hdC (tlC (inC (inC (tlC (bodyC Try.f35)))))))) #[true, true, true, true, true, false, false, false, false, false, false, false, false, false, false, false, false, false, false, false, false, false, false, false] 5 = true := by kernel_rfl
theorem s35_r5 : (Region.ready .any (regOps (inC (hdC (tlC (inC (inC (tlC (bodyC Try.f35)))))))) #[true, true, true, true, true, false, false, false, false, false, false, false, false, false, false, false, false, false, false, false, false, false, false, false]).contains 5 = true := by kernel_rfl
theorem s35_f6 : Region.free .any (regOps (inC (hdC (tlC (inC (inC (tlC (bodyC Try.f35)))))))) #[true, true, true, true, true, true, false, false, false, false, false, false, false, false, false, false, false, false, false, false, false, false, false, false] 6 = true := by kernel_rfl
theorem s35_r6 : (Region.ready .any (regOps (inC (hdC (tlC (inC (inC (tlC (bodyC Try.f35)))))))) #[true, true, true, true, true, true, false, false, false, false, false, false, false, false, false, false, false, false, false, false, false, false, false, false]).contains 6 = true := by kernel_rfl
theorem s35_f7 : Region.free .any (regOps (inC (hdC (tlC (inC (inC (tlC (bodyC Try.f35)))))))) #[true, true, true, true, true, true, true, false, false, false, false, false, false, false, false, false, false, false, false, false, false, false, false, false] 7 = true := by kernel_rfl
theorem s35_r7 : (Region.ready .any (regOps (inC (hdC (tlC (inC (inC (tlC (bodyC Try.f35)))))))) #[true, true, true, true, true, true, true, false, false, false, false, false, false, false, false, false, false, false, false, false, false, false, false, false]).contains 7 = true := by kernel_rfl
theorem s35_f8 : Region.free .any (regOps (inC (hdC (tlC (inC (inC (tlC (bodyC Try.f35)))))))) #[true, true, true, true, true, true, true, true, false, false, false, false, false, false, false, false, false, false, false, false, false, false, false, false] 8 = true := by kernel_rfl
theorem s35_r8 : (Region.ready .any (regOps (inC (hdC (tlC (inC (inC (tlC (bodyC Try.f35)))))))) #[true, true, true, true, true, true, true, true, false, false, false, false, false, false, false, false, false, false, false, false, false, false, false, false]).contains 8 = true := by kernel_rfl
theorem s35_f9 : Region.free .any (regOps (inC (hdC (tlC (inC (inC (tlC (bodyC Try.f35)))))))) #[true, true, true, true, true, true, true, true, true, false, false, false, false, false, false, false, false, false, false, false, false, false, false, false] 9 = true := by kernel_rfl
theorem s35_r9 : (Region.ready .any (regOps (inC (hdC (tlC (inC (inC (tlC (bodyC Try.f35)))))))) #[true, true, true, true, true, true, true, true, true, false, false, false, false, false, false, false, false, false, false, false, false, false, false, false]).contains 9 = true := by kernel_rfl
theorem s35_f10 : Region.free .any (regOps (inC (hdC (tlC (inC (inC (tlC (bodyC Try.f35)))))))) #[true, true, true, true, true, true, true, true, true, true, false, false, false, false, false, false, false, false, false, false, false, false, false, false] 10 = true := by kernel_rfl
theorem s35_r10 : (Region.ready .any (regOps (inC (hdC (tlC (inC (inC (tlC (bodyC Try.f35)))))))) #[true, true, true, true, true, true, true, true, true, true, false, false, false, false, false, false, false, false, false, false, false, false, false, false]).contains 10 = true := by kernel_rfl
theorem s35_f11 : Region.free .any (regOps (inC (hdC (tlC (inC (inC (tlC (bodyC Try.f35)))))))) #[true, true, true, true, true, true, true, true, true, true, true, false, false, false, false, false, false, false, false, false, false, false, false, false] 11 = true := by kernel_rfl
theorem s35_r11 : (Region.ready .any (regOps (inC (hdC (tlC (inC (inC (tlC (bodyC Try.f35)))))))) #[true, true, true, true, true, true, true, true, true, true, true, false, false, false, false, false, false, false, false, false, false, false, false, false]).contains 11 = true := by kernel_rfl
theorem s35_f12 : Region.free .any (regOps (inC (hdC (tlC (inC (inC (tlC (bodyC Try.f35)))))))) #[true, true, true, true, true, true, true, true, true, true, true, true, false, false, false, false, false, false, false, false, false, false, false, false] 12 = true := by kernel_rfl
theorem s35_r12 : (Region.ready .any (regOps (inC (hdC (tlC (inC (inC (tlC (bodyC Try.f35)))))))) #[true, true, true, true, true, true, true, true, true, true, true, true, false, false, false, false, false, false, false, false, false, false, false, false]).contains 12 = true := by kernel_rfl
theorem s35_f14 : Region.free .any (regOps (inC (hdC (tlC (inC (inC (tlC (bodyC Try.f35)))))))) #[true, true, true, true, true, true, true, true, true, true, true, true, true, false, false, false, false, false, false, false, false, false, false, false] 14 = true := by kernel_rfl
theorem s35_r14 : (Region.ready .any (regOps (inC (hdC (tlC (inC (inC (tlC (bodyC Try.f35)))))))) #[true, true, true, true, true, true, true, true, true, true, true, true, true, false, false, false, false, false, false, false, false, false, false, false]).contains 14 = true := by kernel_rfl
theorem s35_f15 : Region.free .any (regOps (inC (hdC (tlC (inC (inC (tlC (bodyC Try.f35)))))))) #[true, true, true, true, true, true, true, true, true, true, true, true, true, false, true, false, false, false, false, false, false, false, false, false] 15 = true := by kernel_rfl
theorem s35_r15 : (Region.ready .any (regOps (inC (hdC (tlC (inC (inC (tlC (bodyC Try.f35)))))))) #[true, true, true, true, true, true, true, true, true, true, true, true, true, false, true, false, false, false, false, false, false, false, false, false]).contains 15 = true := by kernel_rfl
theorem s35_f16 : Region.free .any (regOps (inC (hdC (tlC (inC (inC (tlC (bodyC Try.f35)))))))) #[true, true, true, true, true, true, true, true, true, true, true, true, true, false, true, true, false, false, false, false, false, false, false, false] 16 = true := by kernel_rfl
theorem s35_r16 : (Region.ready .any (regOps (inC (hdC (tlC (inC (inC (tlC (bodyC Try.f35)))))))) #[true, true, true, true, true, true, true, true, true, true, true, true, true, false, true, true, false, false, false, false, false, false, false, false]).contains 16 = true := by kernel_rfl
theorem s35_f17 : Region.free .any (regOps (inC (hdC (tlC (inC (inC (tlC (bodyC Try.f35)))))))) #[true, true, true, true, true, true, true, true, true, true, true, true, true, false, true, true, true, false, false, false, false, false, false, false] 17 = true := by kernel_rfl
theorem s35_r17 : (Region.ready .any (regOps (inC (hdC (tlC (inC (inC (tlC (bodyC Try.f35)))))))) #[true, true, true, true, true, true, true, true, true, true, true, true, true, false, true, true, true, false, false, false, false, false, false, false]).contains 17 = true := by kernel_rfl
theorem s35_f18 : Region.free .any (regOps (inC (hdC (tlC (inC (inC (tlC (bodyC Try.f35)))))))) #[true, true, true, true, true, true, true, true, true, true, true, true, true, false, true, true, true, true, false, false, false, false, false, false] 18 = true := by kernel_rfl
theorem s35_r18 : (Region.ready .any (regOps (inC (hdC (tlC (inC (inC (tlC (bodyC Try.f35)))))))) #[true, true, true, true, true, true, true, true, true, true, true, true, true, false, true, true, true, true, false, false, false, false, false, false]).contains 18 = true := by kernel_rfl
theorem s35_rl : Region.ready .any (regOps (inC (hdC (tlC (inC (inC (tlC (bodyC Try.f35)))))))) #[true, true, true, true, true, true, true, true, true, true, true, true, true, false, true, true, true, true, true, false, false, false, false, false] = [13, 19] := by kernel_rfl
theorem s35_ra : Region.ready .any (regOps (inC (hdC (tlC (inC (inC (tlC (bodyC Try.f35)))))))) #[true, true, true, true, true, true, true, true, true, true, true, true, true, true, true, true, true, true, true, false, false, false, false, false] = [19] := by kernel_rfl
theorem s35_rb : Region.ready .any (regOps (inC (hdC (tlC (inC (inC (tlC (bodyC Try.f35)))))))) #[true, true, true, true, true, true, true, true, true, true, true, true, true, false, true, true, true, true, true, true, false, false, false, false] = [13] := by kernel_rfl
theorem s35_f20 : Region.free .any (regOps (inC (hdC (tlC (inC (inC (tlC (bodyC Try.f35)))))))) #[true, true, true, true, true, true, true, true, true, true, true, true, true, true, true, true, true, true, true, true, false, false, false, false] 20 = true := by kernel_rfl
theorem s35_r20 : (Region.ready .any (regOps (inC (hdC (tlC (inC (inC (tlC (bodyC Try.f35)))))))) #[true, true, true, true, true, true, true, true, true, true, true, true, true, true, true, true, true, true, true, true, false, false, false, false]).contains 20 = true := by kernel_rfl
theorem s35_r21 : Region.ready .any (regOps (inC (hdC (tlC (inC (inC (tlC (bodyC Try.f35)))))))) #[true, true, true, true, true, true, true, true, true, true, true, true, true, true, true, true, true, true, true, true, true, false, false, false] = [21] := by kernel_rfl
theorem s35_f22 : Region.free .any (regOps (inC (hdC (tlC (inC (inC (tlC (bodyC Try.f35)))))))) #[true, true, true, true, true, true, true, true, true, true, true, true, true, true, true, true, true, true, true, true, true, true, false, false] 22 = true := by kernel_rfl
theorem s35_r22 : (Region.ready .any (regOps (inC (hdC (tlC (inC (inC (tlC (bodyC Try.f35)))))))) #[true, true, true, true, true, true, true, true, true, true, true, true, true, true, true, true, true, true, true, true, true, true, false, false]).contains 22 = true := by kernel_rfl
theorem s35_r23 : Region.ready .any (regOps (inC (hdC (tlC (inC (inC (tlC (bodyC Try.f35)))))))) #[true, true, true, true, true, true, true, true, true, true, true, true, true, true, true, true, true, true, true, true, true, true, true, false] = [23] := by kernel_rfl
theorem s35_re : Region.ready .any (regOps (inC (hdC (tlC (inC (inC (tlC (bodyC Try.f35)))))))) #[true, true, true, true, true, true, true, true, true, true, true, true, true, true, true, true, true, true, true, true, true, true, true, true] = [] := by kernel_rfl

set_option maxRecDepth 10000 in
set_option maxHeartbeats 1000000 in
theorem s35 (b n c p q m i x y : Nat) (ey ex : Hd) (a : Act) (w : World) (Q : Exit → Act → World → Prop) (hfr : Fr 38 a) (hs : Slots [(0, .slice (some ⟨b, 0, none⟩) n c), (1, .int .i64 (p : Nat)), (2, .int .i64 (q : Nat)), (3, .int .i64 (m : Nat)), (4, .func (.func 27) #[] #[]), (10, .int .i64 (i : Nat))] a)
    (hx0 : IntKind.i64.wrap ((p : Int) + (i : Int)) = (x : Int)) (hy1 : IntKind.i64.wrap ((q : Int) + (i : Int)) = (y : Int))
    (ly : (y : Int) < n) (cy : w.cell? ⟨b, y * 2, none⟩ = some (.string ey.nm)) (ky : w.cell? ⟨b, y * 2 + 1, none⟩ = some (.slice (some ⟨ey.vb, 0, none⟩) 2 2)) (lx : (x : Int) < n) (cx : w.cell? ⟨b, x * 2, none⟩ = some (.string ex.nm)) (kx : w.cell? ⟨b, x * 2 + 1, none⟩ = some (.slice (some ⟨ex.vb, 0, none⟩) 2 2)) (hne : x ≠ y) (fz : ∀ i, w.frozen? ⟨b, i, none⟩ = false)
    (hQ : ∀ a', Fr 38 a' → Slots [(0, .slice (some ⟨b, 0, none⟩) n c), (1, .int .i64 (p : Nat)), (2, .int .i64 (q : Nat)), (3, .int .i64 (m : Nat)), (4, .func (.func 27) #[] #[]), (10, .int .i64 (i : Nat))] a' → Q .normal a' (put2 (put2 w.drew b x ey) b y ex)) :
    Code.wp Try.prog (inC (hdC (tlC (inC (inC (tlC (bodyC Try.f35))))))) Q a w := by
  obtain ⟨t0, t1, t2, t3, t4, t10, -⟩ := hs
  replace t0 : a.tmps[0]?.getD undef = .slice (some ⟨b, 0, none⟩) n c := (sl_at a 0).symm.trans t0
  replace t1 : a.tmps[1]?.getD undef = .int .i64 (p : Nat) := (sl_at a 1).symm.trans t1
  replace t2 : a.tmps[2]?.getD undef = .int .i64 (q : Nat) := (sl_at a 2).symm.trans t2
  replace t3 : a.tmps[3]?.getD undef = .int .i64 (m : Nat) := (sl_at a 3).symm.trans t3
  replace t4 : a.tmps[4]?.getD undef = .func (.func 27) #[] #[] := (sl_at a 4).symm.trans t4
  replace t10 : a.tmps[10]?.getD undef = .int .i64 (i : Nat) := (sl_at a 10).symm.trans t10
  have o1 : x * 2 ≠ y * 2 := by omega
  have o2 : x * 2 + 1 ≠ y * 2 := by omega
  have o3 : x * 2 ≠ y * 2 + 1 := by omega
  have o4 : x * 2 + 1 ≠ y * 2 + 1 := by omega
  have zy0 := fz (y * 2)
  have zy1 := fz (y * 2 + 1)
  have zx0 := fz (x * 2)
  have zx1 := fz (x * 2 + 1)
  clear fz
  refine wp_navR (fun _ => True) (fun a' w' => w' = put2 (put2 w.drew b x ey) b y ex ∧ Fr 38 a' ∧ Slots [(0, .slice (some ⟨b, 0, none⟩) n c), (1, .int .i64 (p : Nat)), (2, .int .i64 (q : Nat)), (3, .int .i64 (m : Nat)), (4, .func (.func 27) #[] #[]), (10, .int .i64 (i : Nat))] a') 24 #[false, false, false, false, false, false, false, false, false, false, false, false, false, false, false, false, false, false, false, false, false, false, false, false] (by kernel_rfl) (by kernel_rfl) (by kernel_rfl) rfl ?_ (fun a' w' ⟨h1, h2, h3⟩ => by rw [h1]; exact hQ a' h2 h3)
  clear hQ
  refine take1 0 16 _ (.slice (some ⟨b, 0, none⟩) n c) #[true, false, false, false, false, false, false, false, false, false, false, false, false, false, false, false, false, false, false, false, false, false, false, false] s35_i0 s35_d0 (by decide) s35_s s35_f0 s35_r0 s35_g0 rfl trivial hfr ?_ ?_
  · intro wx _; simp only [execOp, s35_o0]; go_simp
  intro a1 fr1 t16 ho
  replace t0 := (ho 0 (by decide)).trans t0
  replace t1 := (ho 1 (by decide)).trans t1
  replace t2 := (ho 2 (by decide)).trans t2
  replace t3 := (ho 3 (by decide)).trans t3
  replace t4 := (ho 4 (by decide)).trans t4
  replace t10 := (ho 10 (by decide)).trans t10
  clear hfr ho
  refine take1 1 17 _ (.int .i64 (p : Nat)) #[true, true, false, false, false, false, false, false, false, false, false, false, false, false, false, false, false, false, false, false, false, false, false, false] s35_i1 s35_d1 (by decide) s35_s s35_f1 s35_r1 s35_g1 rfl trivial fr1 ?_ ?_
  · intro wx _; simp only [execOp, s35_o1]; go_simp
  intro a2 fr2 t17 ho
  replace t0 := (ho 0 (by decide)).trans t0
  replace t1 := (ho 1 (by decide)).trans t1
  replace t2 := (ho 2 (by decide)).trans t2
  replace t3 := (ho 3 (by decide)).trans t3
  replace t4 := (ho 4 (by decide)).trans t4
  replace t10 := (ho 10 (by decide)).trans t10
  replace t16 := (ho 16 (by decide)).trans t16
  clear fr1 ho
  refine take1 2 18 _ (.int .i64 (i : Nat)) #[true, true, true, false, false, false, false, false, false, false, false, false, false, false, false, false, false, false, false, false, false, false, false, false] s35_i2 s35_d2 (by decide) s35_s s35_f2 s35_r2 s35_g2 rfl trivial fr2 ?_ ?_
  · intro wx _; simp only [execOp, s35_o2]; go_simp
  intro a3 fr3 t18 ho
  replace t0 := (ho 0 (by decide)).trans t0
  replace t1 := (ho 1 (by decide)).trans t1
  replace t2 := (ho 2 (by decide)).trans t2
  replace t3 := (ho 3 (by decide)).trans t3
  replace t4 := (ho 4 (by decide)).trans t4
  replace t10 := (ho 10 (by decide)).trans t10
  replace t16 := (ho 16 (by decide)).trans t16
  replace t17 := (ho 17 (by decide)).trans t17
  clear fr2 ho
  refine take1 3 19 _ (.int .i64 (x : Nat)) #[true, true, true, true, false, false, false, false, false, false, false, false, false, false, false, false, false, false, false, false, false, false, false, false] s35_i3 s35_d3 (by decide) s35_s s35_f3 s35_r3 s35_g3 rfl trivial fr3 ?_ ?_
  · intro wx _; simp only [execOp, s35_o3]; go_simp
  intro a4 fr4 t19 ho
  replace t0 := (ho 0 (by decide)).trans t0
  replace t1 := (ho 1 (by decide)).trans t1
  replace t2 := (ho 2 (by decide)).trans t2
  replace t3 := (ho 3 (by decide)).trans t3
  replace t4 := (ho 4 (by decide)).trans t4
  replace t10 := (ho 10 (by decide)).trans t10
  replace t16 := (ho 16 (by decide)).trans t16
  replace t17 := (ho 17 (by decide)).trans t17
  replace t18 := (ho 18 (by decide)).trans t18
  clear fr3 ho
  refine take1 4 20 _ (.slice (some ⟨b, 0, none⟩) n c) #[true, true, true, true, true, false, false, false, false, false, false, false, false, false, false, false, false, false, false, false, false, false, false, false] s35_i4 s35_d4 (by decide) s35_s s35_f4 s35_r4 s35_g4 rfl trivial fr4 ?_ ?_
  · intro wx _; simp only [execOp, s35_o4]; go_simp
  intro a5 fr5 t20 ho
  replace t0 := (ho 0 (by decide)).trans t0
  replace t1 := (ho 1 (by decide)).trans t1
  replace t2 := (ho 2 (by decide)).trans t2
  replace t3 := (ho 3 (by decide)).trans t3
  replace t4 := (ho 4 (by decide)).trans t4
  replace t10 := (ho 10 (by decide)).trans t10
  replace t16 := (ho 16 (by decide)).trans t16
  replace t17 := (ho 17 (by decide)).trans t17
  replace t18 := (ho 18 (by decide)).trans t18
  replace t19 := (ho 19 (by decide)).trans t19
  clear fr4 ho
  refine take1 5 21 _ (.int .i64 (q : Nat)) #[true, true, true, true, true, true, false, false, false, false, false, false, false, false, false, false, false, false, false, false, false, false, false, false] s35_i5 s35_d5 (by decide) s35_s s35_f5 s35_r5 s35_g5 rfl trivial fr5 ?_ ?_
  · intro wx _; simp only [execOp, s35_o5]; go_simp
  intro a6 fr6 t21 ho
  replace t0 := (ho 0 (by decide)).trans t0
  replace t1 := (ho 1 (by decide)).trans t1
  replace t2 := (ho 2 (by decide)).trans t2
  replace t3 := (ho 3 (by decide)).trans t3
  replace t4 := (ho 4 (by decide)).trans t4
  replace t10 := (ho 10 (by decide)).trans t10
  replace t16 := (ho 16 (by decide)).trans t16
  replace t17 := (ho 17 (by decide)).trans t17
  replace t18 := (ho 18 (by decide)).trans t18
  replace t19 := (ho 19 (by decide)).trans t19
  replace t20 := (ho 20 (by decide)).trans t20
  clear fr5 ho
  refine take1 6 22 _ (.int .i64 (i : Nat)) #[true, true, true, true, true, true, true, false, false, false, false, false, false, false, false, false, false, false, false, false, false, false, false, false] s35_i6 s35_d6 (by decide) s35_s s35_f6 s35_r6 s35_g6 rfl trivial fr6 ?_ ?_
  · intro wx _; simp only [execOp, s35_o6]; go_simp
  intro a7 fr7 t22 ho
  replace t0 := (ho 0 (by decide)).trans t0
  replace t1 := (ho 1 (by decide)).trans t1
  replace t2 := (ho 2 (by decide)).trans t2
  replace t3 := (ho 3 (by decide)).trans t3
  replace t4 := (ho 4 (by decide)).trans t4
  replace t10 := (ho 10 (by decide)).trans t10
  replace t16 := (ho 16 (by decide)).trans t16
  replace t17 := (ho 17 (by decide)).trans t17
  replace t18 := (ho 18 (by decide)).trans t18
  replace t19 := (ho 19 (by decide)).trans t19
  replace t20 := (ho 20 (by decide)).trans t20
  replace t21 := (ho 21 (by decide)).trans t21
  clear fr6 ho
  refine take1 7 23 _ (.int .i64 (y : Nat)) #[true, true, true, true, true, true, true, true, false, false, false, false, false, false, false, false, false, false, false, false, false, false, false, false] s35_i7 s35_d7 (by decide) s35_s s35_f7 s35_r7 s35_g7 rfl trivial fr7 ?_ ?_
  · intro wx _; simp only [execOp, s35_o7]; go_simp
  intro a8 fr8 t23 ho
  replace t0 := (ho 0 (by decide)).trans t0
  replace t1 := (ho 1 (by decide)).trans t1
  replace t2 := (ho 2 (by decide)).trans t2
  replace t3 := (ho 3 (by decide)).trans t3
  replace t4 := (ho 4 (by decide)).trans t4
  replace t10 := (ho 10 (by decide)).trans t10
  replace t16 := (ho 16 (by decide)).trans t16
  replace t17 := (ho 17 (by decide)).trans t17
  replace t18 := (ho 18 (by decide)).trans t18
  replace t19 := (ho 19 (by decide)).trans t19
  replace t20 := (ho 20 (by decide)).trans t20
  replace t21 := (ho 21 (by decide)).trans t21
  replace t22 := (ho 22 (by decide)).trans t22
  clear fr7 ho
  refine take1 8 24 _ (.slice (some ⟨b, 0, none⟩) n c) #[true, true, true, true, true, true, true, true, true, false, false, false, false, false, false, false, false, false, false, false, false, false, false, false] s35_i8 s35_d8 (by decide) s35_s s35_f8 s35_r8 s35_g8 rfl trivial fr8 ?_ ?_
  · intro wx _; simp only [execOp, s35_o8]; go_simp
  intro a9 fr9 t24 ho
  replace t0 := (ho 0 (by decide)).trans t0
  replace t1 := (ho 1 (by decide)).trans t1
  replace t2 := (ho 2 (by decide)).trans t2
  replace t3 := (ho 3 (by decide)).trans t3
  replace t4 := (ho 4 (by decide)).trans t4
  replace t10 := (ho 10 (by decide)).trans t10
  replace t16 := (ho 16 (by decide)).trans t16
  replace t17 := (ho 17 (by decide)).trans t17
  replace t18 := (ho 18 (by decide)).trans t18
  replace t19 := (ho 19 (by decide)).trans t19
  replace t20 := (ho 20 (by decide)).trans t20
  replace t21 := (ho 21 (by decide)).trans t21
  replace t22 := (ho 22 (by decide)).trans t22
  replace t23 := (ho 23 (by decide)).trans t23
  clear fr8 ho
  refine take1 9 25 _ (.int .i64 (q : Nat)) #[true, true, true, true, true, true, true, true, true, true, false, false, false, false, false, false, false, false, false, false, false, false, false, false] s35_i9 s35_d9 (by decide) s35_s s35_f9 s35_r9 s35_g9 rfl trivial fr9 ?_ ?_
  · intro wx _; simp only [execOp, s35_o9]; go_simp
  intro a10 fr10 t25 ho
  replace t0 := (ho 0 (by decide)).trans t0
  replace t1 := (ho 1 (by decide)).trans t1
  replace t2 := (ho 2 (by decide)).trans t2
  replace t3 := (ho 3 (by decide)).trans t3
  replace t4 := (ho 4 (by decide)).trans t4
  replace t10 := (ho 10 (by decide)).trans t10
  replace t16 := (ho 16 (by decide)).trans t16
  replace t17 := (ho 17 (by decide)).trans t17
  replace t18 := (ho 18 (by decide)).trans t18
  replace t19 := (ho 19 (by decide)).trans t19
  replace t20 := (ho 20 (by decide)).trans t20
  replace t21 := (ho 21 (by decide)).trans t21
  replace t22 := (ho 22 (by decide)).trans t22
  replace t23 := (ho 23 (by decide)).trans t23
  replace t24 := (ho 24 (by decide)).trans t24
  clear fr9 ho
  refine take1 10 26 _ (.int .i64 (i : Nat)) #[true, true, true, true, true, true, true, true, true, true, true, false, false, false, false, false, false, false, false, false, false, false, false, false] s35_i10 s35_d10 (by decide) s35_s s35_f10 s35_r10 s35_g10 rfl trivial fr10 ?_ ?_
  · intro wx _; simp only [execOp, s35_o10]; go_simp
  intro a11 fr11 t26 ho
  replace t0 := (ho 0 (by decide)).trans t0
  replace t1 := (ho 1 (by decide)).trans t1
  replace t2 := (ho 2 (by decide)).trans t2
  replace t3 := (ho 3 (by decide)).trans t3
  replace t4 := (ho 4 (by decide)).trans t4
  replace t10 := (ho 10 (by decide)).trans t10
  replace t16 := (ho 16 (by decide)).trans t16
  replace t17 := (ho 17 (by decide)).trans t17
  replace t18 := (ho 18 (by decide)).trans t18
  replace t19 := (ho 19 (by decide)).trans t19
  replace t20 := (ho 20 (by decide)).trans t20
  replace t21 := (ho 21 (by decide)).trans t21
  replace t22 := (ho 22 (by decide)).trans t22
  replace t23 := (ho 23 (by decide)).trans t23
  replace t24 := (ho 24 (by decide)).trans t24
  replace t25 := (ho 25 (by decide)).trans t25
  clear fr10 ho
  refine take1 11 27 _ (.int .i64 (y : Nat)) #[true, true, true, true, true, true, true, true, true, true, true, true, false, false, false, false, false, false, false, false, false, false, false, false] s35_i11 s35_d11 (by decide) s35_s s35_f11 s35_r11 s35_g11 rfl trivial fr11 ?_ ?_
  · intro wx _; simp only [execOp, s35_o11]; go_simp
  intro a12 fr12 t27 ho
  replace t0 := (ho 0 (by decide)).trans t0
  replace t1 := (ho 1 (by decide)).trans t1
  replace t2 := (ho 2 (by decide)).trans t2
  replace t3 := (ho 3 (by decide)).trans t3
  replace t4 := (ho 4 (by decide)).trans t4
  replace t10 := (ho 10 (by decide)).trans t10
  replace t16 := (ho 16 (by decide)).trans t16
  replace t17 := (ho 17 (by decide)).trans t17
  replace t18 := (ho 18 (by decide)).trans t18
  replace t19 := (ho 19 (by decide)).trans t19
  replace t20 := (ho 20 (by decide)).trans t20
  replace t21 := (ho 21 (by decide)).trans t21
  replace t22 := (ho 22 (by decide)).trans t22
  replace t23 := (ho 23 (by decide)).trans t23
  replace t24 := (ho 24 (by decide)).trans t24
  replace t25 := (ho 25 (by decide)).trans t25
  replace t26 := (ho 26 (by decide)).trans t26
  clear fr11 ho
  refine take1 12 28 _ (.pointer (some ⟨b, y * 2, none⟩)) #[true, true, true, true, true, true, true, true, true, true, true, true, true, false, false, false, false, false, false, false, false, false, false, false] s35_i12 s35_d12 (by decide) s35_s s35_f12 s35_r12 s35_g12 rfl trivial fr12 ?_ ?_
  · intro wx _; simp only [execOp, s35_o12]; go_simp
  intro a13 fr13 t28 ho
  replace t0 := (ho 0 (by decide)).trans t0
  replace t1 := (ho 1 (by decide)).trans t1
  replace t2 := (ho 2 (by decide)).trans t2
  replace t3 := (ho 3 (by decide)).trans t3
  replace t4 := (ho 4 (by decide)).trans t4
  replace t10 := (ho 10 (by decide)).trans t10
  replace t16 := (ho 16 (by decide)).trans t16
  replace t17 := (ho 17 (by decide)).trans t17
  replace t18 := (ho 18 (by decide)).trans t18
  replace t19 := (ho 19 (by decide)).trans t19
  replace t20 := (ho 20 (by decide)).trans t20
  replace t21 := (ho 21 (by decide)).trans t21
  replace t22 := (ho 22 (by decide)).trans t22
  replace t23 := (ho 23 (by decide)).trans t23
  replace t24 := (ho 24 (by decide)).trans t24
  replace t25 := (ho 25 (by decide)).trans t25
  replace t26 := (ho 26 (by decide)).trans t26
  replace t27 := (ho 27 (by decide)).trans t27
  clear fr12 ho
  refine take1 14 30 _ (.slice (some ⟨b, 0, none⟩) n c) #[true, true, true, true, true, true, true, true, true, true, true, true, true, false, true, false, false, false, false, false, false, false, false, false] s35_i14 s35_d14 (by decide) s35_s s35_f14 s35_r14 s35_g14 rfl trivial fr13 ?_ ?_
  · intro wx _; simp only [execOp, s35_o14]; go_simp
  intro a14 fr14 t30 ho
  replace t0 := (ho 0 (by decide)).trans t0
  replace t1 := (ho 1 (by decide)).trans t1
  replace t2 := (ho 2 (by decide)).trans t2
  replace t3 := (ho 3 (by decide)).trans t3
  replace t4 := (ho 4 (by decide)).trans t4
  replace t10 := (ho 10 (by decide)).trans t10
  replace t16 := (ho 16 (by decide)).trans t16
  replace t17 := (ho 17 (by decide)).trans t17
  replace t18 := (ho 18 (by decide)).trans t18
  replace t19 := (ho 19 (by decide)).trans t19
  replace t20 := (ho 20 (by decide)).trans t20
  replace t21 := (ho 21 (by decide)).trans t21
  replace t22 := (ho 22 (by decide)).trans t22
  replace t23 := (ho 23 (by decide)).trans t23
  replace t24 := (ho 24 (by decide)).trans t24
  replace t25 := (ho 25 (by decide)).trans t25
  replace t26 := (ho 26 (by decide)).trans t26
  replace t27 := (ho 27 (by decide)).trans t27
  replace t28 := (ho 28 (by decide)).trans t28
  clear fr13 ho
  refine take1 15 31 _ (.int .i64 (p : Nat)) #[true, true, true, true, true, true, true, true, true, true, true, true, true, false, true, true, false, false, false, false, false, false, false, false] s35_i15 s35_d15 (by decide) s35_s s35_f15 s35_r15 s35_g15 rfl trivial fr14 ?_ ?_
  · intro wx _; simp only [execOp, s35_o15]; go_simp
  intro a15 fr15 t31 ho
  replace t0 := (ho 0 (by decide)).trans t0
  replace t1 := (ho 1 (by decide)).trans t1
  replace t2 := (ho 2 (by decide)).trans t2
  replace t3 := (ho 3 (by decide)).trans t3
  replace t4 := (ho 4 (by decide)).trans t4
  replace t10 := (ho 10 (by decide)).trans t10
  replace t16 := (ho 16 (by decide)).trans t16
  replace t17 := (ho 17 (by decide)).trans t17
  replace t18 := (ho 18 (by decide)).trans t18
  replace t19 := (ho 19 (by decide)).trans t19
  replace t20 := (ho 20 (by decide)).trans t20
  replace t21 := (ho 21 (by decide)).trans t21
  replace t22 := (ho 22 (by decide)).trans t22
  replace t23 := (ho 23 (by decide)).trans t23
  replace t24 := (ho 24 (by decide)).trans t24
  replace t25 := (ho 25 (by decide)).trans t25
  replace t26 := (ho 26 (by decide)).trans t26
  replace t27 := (ho 27 (by decide)).trans t27
  replace t28 := (ho 28 (by decide)).trans t28
  replace t30 := (ho 30 (by decide)).trans t30
  clear fr14 ho
  refine take1 16 32 _ (.int .i64 (i : Nat)) #[true, true, true, true, true, true, true, true, true, true, true, true, true, false, true, true, true, false, false, false, false, false, false, false] s35_i16 s35_d16 (by decide) s35_s s35_f16 s35_r16 s35_g16 rfl trivial fr15 ?_ ?_
  · intro wx _; simp only [execOp, s35_o16]; go_simp
  intro a16 fr16 t32 ho
  replace t0 := (ho 0 (by decide)).trans t0
  replace t1 := (ho 1 (by decide)).trans t1
  replace t2 := (ho 2 (by decide)).trans t2
  replace t3 := (ho 3 (by decide)).trans t3
  replace t4 := (ho 4 (by decide)).trans t4
  replace t10 := (ho 10 (by decide)).trans t10
  replace t16 := (ho 16 (by decide)).trans t16
  replace t17 := (ho 17 (by decide)).trans t17
  replace t18 := (ho 18 (by decide)).trans t18
  replace t19 := (ho 19 (by decide)).trans t19
  replace t20 := (ho 20 (by decide)).trans t20
  replace t21 := (ho 21 (by decide)).trans t21
  replace t22 := (ho 22 (by decide)).trans t22
  replace t23 := (ho 23 (by decide)).trans t23
  replace t24 := (ho 24 (by decide)).trans t24
  replace t25 := (ho 25 (by decide)).trans t25
  replace t26 := (ho 26 (by decide)).trans t26
  replace t27 := (ho 27 (by decide)).trans t27
  replace t28 := (ho 28 (by decide)).trans t28
  replace t30 := (ho 30 (by decide)).trans t30
  replace t31 := (ho 31 (by decide)).trans t31
  clear fr15 ho
  refine take1 17 33 _ (.int .i64 (x : Nat)) #[true, true, true, true, true, true, true, true, true, true, true, true, true, false, true, true, true, true, false, false, false, false, false, false] s35_i17 s35_d17 (by decide) s35_s s35_f17 s35_r17 s35_g17 rfl trivial fr16 ?_ ?_
  · intro wx _; simp only [execOp, s35_o17]; go_simp
  intro a17 fr17 t33 ho
  replace t0 := (ho 0 (by decide)).trans t0
  replace t1 := (ho 1 (by decide)).trans t1
  replace t2 := (ho 2 (by decide)).trans t2
  replace t3 := (ho 3 (by decide)).trans t3
  replace t4 := (ho 4 (by decide)).trans t4
  replace t10 := (ho 10 (by decide)).trans t10
  replace t16 := (ho 16 (by decide)).trans t16
  replace t17 := (ho 17 (by decide)).trans t17
  replace t18 := (ho 18 (by decide)).trans t18
  replace t19 := (ho 19 (by decide)).trans t19
  replace t20 := (ho 20 (by decide)).trans t20
  replace t21 := (ho 21 (by decide)).trans t21
  replace t22 := (ho 22 (by decide)).trans t22
  replace t23 := (ho 23 (by decide)).trans t23
  replace t24 := (ho 24 (by decide)).trans t24
  replace t25 := (ho 25 (by decide)).trans t25
  replace t26 := (ho 26 (by decide)).trans t26
  replace t27 := (ho 27 (by decide)).trans t27
  replace t28 := (ho 28 (by decide)).trans t28
  replace t30 := (ho 30 (by decide)).trans t30
  replace t31 := (ho 31 (by decide)).trans t31
  replace t32 := (ho 32 (by decide)).trans t32
  clear fr16 ho
  refine take1 18 34 _ (.pointer (some ⟨b, x * 2, none⟩)) #[true, true, true, true, true, true, true, true, true, true, true, true, true, false, true, true, true, true, true, false, false, false, false, false] s35_i18 s35_d18 (by decide) s35_s s35_f18 s35_r18 s35_g18 rfl trivial fr17 ?_ ?_
  · intro wx _; simp only [execOp, s35_o18]; go_simp
  intro a18 fr18 t34 ho
  replace t0 := (ho 0 (by decide)).trans t0
  replace t1 := (ho 1 (by decide)).trans t1
  replace t2 := (ho 2 (by decide)).trans t2
  replace t3 := (ho 3 (by decide)).trans t3
  replace t4 := (ho 4 (by decide)).trans t4
  replace t10 := (ho 10 (by decide)).trans t10
  replace t16 := (ho 16 (by decide)).trans t16
  replace t17 := (ho 17 (by decide)).trans t17
  replace t18 := (ho 18 (by decide)).trans t18
  replace t19 := (ho 19 (by decide)).trans t19
  replace t20 := (ho 20 (by decide)).trans t20
  replace t21 := (ho 21 (by decide)).trans t21
  replace t22 := (ho 22 (by decide)).trans t22
  replace t23 := (ho 23 (by decide)).trans t23
  replace t24 := (ho 24 (by decide)).trans t24
  replace t25 := (ho 25 (by decide)).trans t25
  replace t26 := (ho 26 (by decide)).trans t26
  replace t27 := (ho 27 (by decide)).trans t27
  replace t28 := (ho 28 (by decide)).trans t28
  replace t30 := (ho 30 (by decide)).trans t30
  replace t31 := (ho 31 (by decide)).trans t31
  replace t32 := (ho 32 (by decide)).trans t32
  replace t33 := (ho 33 (by decide)).trans t33
  clear fr17 ho
  refine both2 13 19 s35_rl ?_ ?_
  · refine act1 13 29 _ (.agg #[.string ey.nm, .slice (some ⟨ey.vb, 0, none⟩) 2 2]) w.drew #[true, true, true, true, true, true, true, true, true, true, true, true, true, true, true, true, true, true, true, false, false, false, false, false] s35_i13 s35_d13 (by decide) s35_g13 rfl fr18 ?_ trivial ?_
    · simp only [execOp, s35_o13]; go_simp
    intro a19 fr19 t29 ho
    replace t0 := (ho 0 (by decide)).trans t0
    replace t1 := (ho 1 (by decide)).trans t1
    replace t2 := (ho 2 (by decide)).trans t2
    replace t3 := (ho 3 (by decide)).trans t3
    replace t4 := (ho 4 (by decide)).trans t4
    replace t10 := (ho 10 (by decide)).trans t10
    replace t16 := (ho 16 (by decide)).trans t16
    replace t17 := (ho 17 (by decide)).trans t17
    replace t18 := (ho 18 (by decide)).trans t18
    replace t19 := (ho 19 (by decide)).trans t19
    replace t20 := (ho 20 (by decide)).trans t20
    replace t21 := (ho 21 (by decide)).trans t21
    replace t22 := (ho 22 (by decide)).trans t22
    replace t23 := (ho 23 (by decide)).trans t23
    replace t24 := (ho 24 (by decide)).trans t24
    replace t25 := (ho 25 (by decide)).trans t25
    replace t26 := (ho 26 (by decide)).trans t26
    replace t27 := (ho 27 (by decide)).trans t27
    replace t28 := (ho 28 (by decide)).trans t28
    replace t30 := (ho 30 (by decide)).trans t30
    replace t31 := (ho 31 (by decide)).trans t31
    replace t32 := (ho 32 (by decide)).trans t32
    replace t33 := (ho 33 (by decide)).trans t33
    replace t34 := (ho 34 (by decide)).trans t34
    clear ho
    refine only1 19 s35_ra (act1 19 35 _ (.agg #[.string ex.nm, .slice (some ⟨ex.vb, 0, none⟩) 2 2]) w.drew #[true, true, true, true, true, true, true, true, true, true, true, true, true, true, true, true, true, true, true, true, false, false, false, false] s35_i19 s35_d19 (by decide) s35_g19 rfl fr19 ?_ trivial ?_)
    · simp only [execOp, s35_o19]; go_simp
    intro a20 fr20 t35 ho
    replace t0 := (ho 0 (by decide)).trans t0
    replace t1 := (ho 1 (by decide)).trans t1
    replace t2 := (ho 2 (by decide)).trans t2
    replace t3 := (ho 3 (by decide)).trans t3
    replace t4 := (ho 4 (by decide)).trans t4
    replace t10 := (ho 10 (by decide)).trans t10
    replace t16 := (ho 16 (by decide)).trans t16
    replace t17 := (ho 17 (by decide)).trans t17
    replace t18 := (ho 18 (by decide)).trans t18
    replace t19 := (ho 19 (by decide)).trans t19
    replace t20 := (ho 20 (by decide)).trans t20
    replace t21 := (ho 21 (by decide)).trans t21
    replace t22 := (ho 22 (by decide)).trans t22
    replace t23 := (ho 23 (by decide)).trans t23
    replace t24 := (ho 24 (by decide)).trans t24
    replace t25 := (ho 25 (by decide)).trans t25
    replace t26 := (ho 26 (by decide)).trans t26
    replace t27 := (ho 27 (by decide)).trans t27
    replace t28 := (ho 28 (by decide)).trans t28
    replace t30 := (ho 30 (by decide)).trans t30
    replace t31 := (ho 31 (by decide)).trans t31
    replace t32 := (ho 32 (by decide)).trans t32
    replace t33 := (ho 33 (by decide)).trans t33
    replace t34 := (ho 34 (by decide)).trans t34
    replace t29 := (ho 29 (by decide)).trans t29
    clear ho
    refine take1 20 36 _ (.pointer (some ⟨b, x * 2, none⟩)) #[true, true, true, true, true, true, true, true, true, true, true, true, true, true, true, true, true, true, true, true, true, false, false, false] s35_i20 s35_d20 (by decide) s35_s s35_f20 s35_r20 s35_g20 rfl trivial fr20 ?_ ?_
    · intro wx _; simp only [execOp, s35_o20]; go_simp
    intro a21 fr21 t36 ho
    replace t0 := (ho 0 (by decide)).trans t0
    replace t1 := (ho 1 (by decide)).trans t1
    replace t2 := (ho 2 (by decide)).trans t2
    replace t3 := (ho 3 (by decide)).trans t3
    replace t4 := (ho 4 (by decide)).trans t4
    replace t10 := (ho 10 (by decide)).trans t10
    replace t16 := (ho 16 (by decide)).trans t16
    replace t17 := (ho 17 (by decide)).trans t17
    replace t18 := (ho 18 (by decide)).trans t18
    replace t19 := (ho 19 (by decide)).trans t19
    replace t20 := (ho 20 (by decide)).trans t20
    replace t21 := (ho 21 (by decide)).trans t21
    replace t22 := (ho 22 (by decide)).trans t22
    replace t23 := (ho 23 (by decide)).trans t23
    replace t24 := (ho 24 (by decide)).trans t24
    replace t25 := (ho 25 (by decide)).trans t25
    replace t26 := (ho 26 (by decide)).trans t26
    replace t27 := (ho 27 (by decide)).trans t27
    replace t28 := (ho 28 (by decide)).trans t28
    replace t30 := (ho 30 (by decide)).trans t30
    replace t31 := (ho 31 (by decide)).trans t31
    replace t32 := (ho 32 (by decide)).trans t32
    replace t33 := (ho 33 (by decide)).trans t33
    replace t34 := (ho 34 (by decide)).trans t34
    replace t29 := (ho 29 (by decide)).trans t29
    replace t35 := (ho 35 (by decide)).trans t35
    clear ho
    refine only1 21 s35_r21 (act0 21 _ (put2 w.drew b x ey) #[true, true, true, true, true, true, true, true, true, true, true, true, true, true, true, true, true, true, true, true, true, true, false, false] s35_i21 s35_d21 s35_g21 rfl ?_ trivial ?_)
    · simp only [execOp, s35_o21]; unfold put2 Hd.val; go_simp
    refine take1 22 37 _ (.pointer (some ⟨b, y * 2, none⟩)) #[true, true, true, true, true, true, true, true, true, true, true, true, true, true, true, true, true, true, true, true, true, true, true, false] s35_i22 s35_d22 (by decide) s35_s s35_f22 s35_r22 s35_g22 rfl trivial fr21 ?_ ?_
    · intro wx _; simp only [execOp, s35_o22]; go_simp
    intro a22 fr22 t37 ho
    replace t0 := (ho 0 (by decide)).trans t0
    replace t1 := (ho 1 (by decide)).trans t1
    replace t2 := (ho 2 (by decide)).trans t2
    replace t3 := (ho 3 (by decide)).trans t3
    replace t4 := (ho 4 (by decide)).trans t4
    replace t10 := (ho 10 (by decide)).trans t10
    replace t16 := (ho 16 (by decide)).trans t16
    replace t17 := (ho 17 (by decide)).trans t17
    replace t18 := (ho 18 (by decide)).trans t18
    replace t19 := (ho 19 (by decide)).trans t19
    replace t20 := (ho 20 (by decide)).trans t20
    replace t21 := (ho 21 (by decide)).trans t21
    replace t22 := (ho 22 (by decide)).trans t22
    replace t23 := (ho 23 (by decide)).trans t23
    replace t24 := (ho 24 (by decide)).trans t24
    replace t25 := (ho 25 (by decide)).trans t25
    replace t26 := (ho 26 (by decide)).trans t26
    replace t27 := (ho 27 (by decide)).trans t27
    replace t28 := (ho 28 (by decide)).trans t28
    replace t30 := (ho 30 (by decide)).trans t30
    replace t31 := (ho 31 (by decide)).trans t31
    replace t32 := (ho 32 (by decide)).trans t32
    replace t33 := (ho 33 (by decide)).trans t33
    replace t34 := (ho 34 (by decide)).trans t34
    replace t29 := (ho 29 (by decide)).trans t29
    replace t35 := (ho 35 (by decide)).trans t35
    replace t36 := (ho 36 (by decide)).trans t36
    clear ho
    refine only1 23 s35_r23 (act0 23 _ (put2 (put2 w.drew b x ey) b y ex) #[true, true, true, true, true, true, true, true, true, true, true, true, true, true, true, true, true, true, true, true, true, true, true, true] s35_i23 s35_d23 s35_g23 rfl ?_ trivial ?_)
    · simp only [execOp, s35_o23]; unfold put2 Hd.val; go_simp
    refine wpAnyH_done s35_re ?_ _
    exact ⟨rfl, fr22, (sl_at _ _).trans t0, (sl_at _ _).trans t1, (sl_at _ _).trans t2, (sl_at _ _).trans t3, (sl_at _ _).trans t4, (sl_at _ _).trans t10, trivial⟩
  · refine act1 19 35 _ (.agg #[.string ex.nm, .slice (some ⟨ex.vb, 0, none⟩) 2 2]) w.drew #[true, true, true, true, true, true, true, true, true, true, true, true, true, false, true, true, true, true, true, true, false, false, false, false] s35_i19 s35_d19 (by decide) s35_g19 rfl fr18 ?_ trivial ?_
    · simp only [execOp, s35_o19]; go_simp
    intro a19 fr19 t35 ho
    replace t0 := (ho 0 (by decide)).trans t0
    replace t1 := (ho 1 (by decide)).trans t1
    replace t2 := (ho 2 (by decide)).trans t2
    replace t3 := (ho 3 (by decide)).trans t3
    replace t4 := (ho 4 (by decide)).trans t4
    replace t10 := (ho 10 (by decide)).trans t10
    replace t16 := (ho 16 (by decide)).trans t16
    replace t17 := (ho 17 (by decide)).trans t17
    replace t18 := (ho 18 (by decide)).trans t18
    replace t19 := (ho 19 (by decide)).trans t19
    replace t20 := (ho 20 (by decide)).trans t20
    replace t21 := (ho 21 (by decide)).trans t21
    replace t22 := (ho 22 (by decide)).trans t22
    replace t23 := (ho 23 (by decide)).trans t23
    replace t24 := (ho 24 (by decide)).trans t24
    replace t25 := (ho 25 (by decide)).trans t25
    replace t26 := (ho 26 (by decide)).trans t26
    replace t27 := (ho 27 (by decide)).trans t27
    replace t28 := (ho 28 (by decide)).trans t28
    replace t30 := (ho 30 (by decide)).trans t30
    replace t31 := (ho 31 (by decide)).trans t31
    replace t32 := (ho 32 (by decide)).trans t32
    replace t33 := (ho 33 (by decide)).trans t33
    replace t34 := (ho 34 (by decide)).trans t34
    clear ho
    refine only1 13 s35_rb (act1 13 29 _ (.agg #[.string ey.nm, .slice (some ⟨ey.vb, 0, none⟩) 2 2]) w.drew #[true, true, true, true, true, true, true, true, true, true, true, true, true, true, true, true, true, true, true, true, false, false, false, false] s35_i13 s35_d13 (by decide) s35_g13 rfl fr19 ?_ trivial ?_)
    · simp only [execOp, s35_o13]; go_simp
    intro a20 fr20 t29 ho
    replace t0 := (ho 0 (by decide)).trans t0
    replace t1 := (ho 1 (by decide)).trans t1
    replace t2 := (ho 2 (by decide)).trans t2
    replace t3 := (ho 3 (by decide)).trans t3
    replace t4 := (ho 4 (by decide)).trans t4
    replace t10 := (ho 10 (by decide)).trans t10
    replace t16 := (ho 16 (by decide)).trans t16
    replace t17 := (ho 17 (by decide)).trans t17
    replace t18 := (ho 18 (by decide)).trans t18
    replace t19 := (ho 19 (by decide)).trans t19
    replace t20 := (ho 20 (by decide)).trans t20
    replace t21 := (ho 21 (by decide)).trans t21
    replace t22 := (ho 22 (by decide)).trans t22
    replace t23 := (ho 23 (by decide)).trans t23
    replace t24 := (ho 24 (by decide)).trans t24
    replace t25 := (ho 25 (by decide)).trans t25
    replace t26 := (ho 26 (by decide)).trans t26
    replace t27 := (ho 27 (by decide)).trans t27
    replace t28 := (ho 28 (by decide)).trans t28
    replace t30 := (ho 30 (by decide)).trans t30
    replace t31 := (ho 31 (by decide)).trans t31
    replace t32 := (ho 32 (by decide)).trans t32
    replace t33 := (ho 33 (by decide)).trans t33
    replace t34 := (ho 34 (by decide)).trans t34
    replace t35 := (ho 35 (by decide)).trans t35
    clear ho
    refine take1 20 36 _ (.pointer (some ⟨b, x * 2, none⟩)) #[true, true, true, true, true, true, true, true, true, true, true, true, true, true, true, true, true, true, true, true, true, false, false, false] s35_i20 s35_d20 (by decide) s35_s s35_f20 s35_r20 s35_g20 rfl trivial fr20 ?_ ?_
    · intro wx _; simp only [execOp, s35_o20]; go_simp
    intro a21 fr21 t36 ho
    replace t0 := (ho 0 (by decide)).trans t0
    replace t1 := (ho 1 (by decide)).trans t1
    replace t2 := (ho 2 (by decide)).trans t2
    replace t3 := (ho 3 (by decide)).trans t3
    replace t4 := (ho 4 (by decide)).trans t4
    replace t10 := (ho 10 (by decide)).trans t10
    replace t16 := (ho 16 (by decide)).trans t16
    replace t17 := (ho 17 (by decide)).trans t17
    replace t18 := (ho 18 (by decide)).trans t18
    replace t19 := (ho 19 (by decide)).trans t19
    replace t20 := (ho 20 (by decide)).trans t20
    replace t21 := (ho 21 (by decide)).trans t21
    replace t22 := (ho 22 (by decide)).trans t22
    replace t23 := (ho 23 (by decide)).trans t23
    replace t24 := (ho 24 (by decide)).trans t24
    replace t25 := (ho 25 (by decide)).trans t25
    replace t26 := (ho 26 (by decide)).trans t26
    replace t27 := (ho 27 (by decide)).trans t27
    replace t28 := (ho 28 (by decide)).trans t28
    replace t30 := (ho 30 (by decide)).trans t30
    replace t31 := (ho 31 (by decide)).trans t31
    replace t32 := (ho 32 (by decide)).trans t32
    replace t33 := (ho 33 (by decide)).trans t33
    replace t34 := (ho 34 (by decide)).trans t34
    replace t29 := (ho 29 (by decide)).trans t29
    replace t35 := (ho 35 (by decide)).trans t35
    clear ho
    refine only1 21 s35_r21 (act0 21 _ (put2 w.drew b x ey) #[true, true, true, true, true, true, true, true, true, true, true, true, true, true, true, true, true, true, true, true, true, true, false, false] s35_i21 s35_d21 s35_g21 rfl ?_ trivial ?_)
    · simp only [execOp, s35_o21]; unfold put2 Hd.val; go_simp
    refine take1 22 37 _ (.pointer (some ⟨b, y * 2, none⟩)) #[true, true, true, true, true, true, true, true, true, true, true, true, true, true, true, true, true, true, true, true, true, true, true, false] s35_i22 s35_d22 (by decide) s35_s s35_f22 s35_r22 s35_g22 rfl trivial fr21 ?_ ?_
    · intro wx _; simp only [execOp, s35_o22]; go_simp
    intro a22 fr22 t37 ho
    replace t0 := (ho 0 (by decide)).trans t0
    replace t1 := (ho 1 (by decide)).trans t1
    replace t2 := (ho 2 (by decide)).trans t2
    replace t3 := (ho 3 (by decide)).trans t3
    replace t4 := (ho 4 (by decide)).trans t4
    replace t10 := (ho 10 (by decide)).trans t10
    replace t16 := (ho 16 (by decide)).trans t16
    replace t17 := (ho 17 (by decide)).trans t17
    replace t18 := (ho 18 (by decide)).trans t18
    replace t19 := (ho 19 (by decide)).trans t19
    replace t20 := (ho 20 (by decide)).trans t20
    replace t21 := (ho 21 (by decide)).trans t21
    replace t22 := (ho 22 (by decide)).trans t22
    replace t23 := (ho 23 (by decide)).trans t23
    replace t24 := (ho 24 (by decide)).trans t24
    replace t25 := (ho 25 (by decide)).trans t25
    replace t26 := (ho 26 (by decide)).trans t26
    replace t27 := (ho 27 (by decide)).trans t27
    replace t28 := (ho 28 (by decide)).trans t28
    replace t30 := (ho 30 (by decide)).trans t30
    replace t31 := (ho 31 (by decide)).trans t31
    replace t32 := (ho 32 (by decide)).trans t32
    replace t33 := (ho 33 (by decide)).trans t33
    replace t34 := (ho 34 (by decide)).trans t34
    replace t29 := (ho 29 (by decide)).trans t29
    replace t35 := (ho 35 (by decide)).trans t35
    replace t36 := (ho 36 (by decide)).trans t36
    clear ho
    refine only1 23 s35_r23 (act0 23 _ (put2 (put2 w.drew b x ey) b y ex) #[true, true, true, true, true, true, true, true, true, true, true, true, true, true, true, true, true, true, true, true, true, true, true, true] s35_i23 s35_d23 s35_g23 rfl ?_ trivial ?_)
    · simp only [execOp, s35_o23]; unfold put2 Hd.val; go_simp
    refine wpAnyH_done s35_re ?_ _
    exact ⟨rfl, fr22, (sl_at _ _).trans t0, (sl_at _ _).trans t1, (sl_at _ _).trans t2, (sl_at _ _).trans t3, (sl_at _ _).trans t4, (sl_at _ _).trans t10, trivial⟩

end Go.Proofs.Qxb6601010a
