import Derived.Test.Qxb6602526aC7
import Derived.Test.Qxb6602526aE4
namespace Go.Proofs.Qxb6602526a
open Go.RowKit
set_option linter.unusedSimpArgs false
set_option linter.unusedVariables false

theorem l7_28_s : Region.noSelect (regOps (hdC (inC (hdC (tlC (inC (inC (tlC (nthC 14 (bodyC Try.f7)))))))))) = true := by kernel_rfl
theorem l7_28_i0 : (regOps (hdC (inC (hdC (tlC (inC (inC (tlC (nthC 14 (bodyC Try.f7))))))))))[0]? = some (regOp (hdC (inC (hdC (tlC (inC (inC (tlC (nthC 14 (bodyC Try.f7))))))))) 0) := by kernel_rfl
theorem l7_28_d0 : (regOp (hdC (inC (hdC (tlC (inC (inC (tlC (nthC 14 (bodyC Try.f7))))))))) 0).dst = some 159 := by kernel_rfl
theorem l7_28_g0 : (regOp (hdC (inC (hdC (tlC (inC (inC (tlC (nthC 14 (bodyC Try.f7))))))))) 0).guard = none := by kernel_rfl
theorem l7_28_o0 : (regOp (hdC (inC (hdC (tlC (inC (inC (tlC (nthC 14 (bodyC Try.f7))))))))) 0).op = Op.move (.tmp 19) := by kernel_rfl
theorem l7_28_i1 : (regOps (hdC (inC (hdC (tlC (inC (inC (tlC (nthC 14 (bodyC Try.f7))))))))))[1]? = some (regOp (hdC (inC (hdC (tlC (inC (inC (tlC (nthC 14 (bodyC Try.f7))))))))) 1) := by kernel_rfl
theorem l7_28_d1 : (regOp (hdC (inC (hdC (tlC (inC (inC (tlC (nthC 14 (bodyC Try.f7))))))))) 1).dst = some 160 := by kernel_rfl
theorem l7_28_g1 : (regOp (hdC (inC (hdC (tlC (inC (inC (tlC (nthC 14 (bodyC Try.f7))))))))) 1).guard = none := by kernel_rfl
theorem l7_28_o1 : (regOp (hdC (inC (hdC (tlC (inC (inC (tlC (nthC 14 (bodyC Try.f7))))))))) 1).op = Op.move (.tmp 3) := by kernel_rfl
theorem l7_28_i2 : (regOps (hdC (inC (hdC (tlC (inC (inC (tlC (nthC 14 (bodyC Try.f7))))))))))[2]? = some (regOp (hdC (inC (hdC (tlC (inC (inC (tlC (nthC 14 (bodyC Try.f7))))))))) 2) := by kernel_rfl
theorem l7_28_d2 : (regOp (hdC (inC (hdC (tlC (inC (inC (tlC (nthC 14 (bodyC Try.f7))))))))) 2).dst = some 161 := by kernel_rfl
theorem l7_28_g2 : (regOp (hdC (inC (hdC (tlC (inC (inC (tlC (nthC 14 (bodyC Try.f7))))))))) 2).guard = none := by kernel_rfl
theorem l7_28_o2 : (regOp (hdC (inC (hdC (tlC (inC (inC (tlC (nthC 14 (bodyC Try.f7))))))))) 2).op = Op.move (.tmp 21) := by kernel_rfl
theorem l7_28_i3 : (regOps (hdC (inC (hdC (tlC (inC (inC (tlC (nthC 14 (bodyC Try.f7))))))))))[3]? = some (regOp (hdC (inC (hdC (tlC (inC (inC (tlC (nthC 14 (bodyC Try.f7))))))))) 3) := by kernel_rfl
theorem l7_28_d3 : (regOp (hdC (inC (hdC (tlC (inC (inC (tlC (nthC 14 (bodyC Try.f7))))))))) 3).dst = some 162 := by kernel_rfl
theorem l7_28_g3 : (regOp (hdC (inC (hdC (tlC (inC (inC (tlC (nthC 14 (bodyC Try.f7))))))))) 3).guard = none := by kernel_rfl
theorem l7_28_o3 : (regOp (hdC (inC (hdC (tlC (inC (inC (tlC (nthC 14 (bodyC Try.f7))))))))) 3).op = Op.indexAddr 23 (.tmp 160) (.tmp 161) := by kernel_rfl
theorem l7_28_i4 : (regOps (hdC (inC (hdC (tlC (inC (inC (tlC (nthC 14 (bodyC Try.f7))))))))))[4]? = some (regOp (hdC (inC (hdC (tlC (inC (inC (tlC (nthC 14 (bodyC Try.f7))))))))) 4) := by kernel_rfl
theorem l7_28_d4 : (regOp (hdC (inC (hdC (tlC (inC (inC (tlC (nthC 14 (bodyC Try.f7))))))))) 4).dst = some 163 := by kernel_rfl
theorem l7_28_g4 : (regOp (hdC (inC (hdC (tlC (inC (inC (tlC (nthC 14 (bodyC Try.f7))))))))) 4).guard = none := by kernel_rfl
theorem l7_28_o4 : (regOp (hdC (inC (hdC (tlC (inC (inC (tlC (nthC 14 (bodyC Try.f7))))))))) 4).op = Op.load 31 (.tmp 162) := by kernel_rfl
theorem l7_28_i5 : (regOps (hdC (inC (hdC (tlC (inC (inC (tlC (nthC 14 (bodyC Try.f7))))))))))[5]? = some (regOp (hdC (inC (hdC (tlC (inC (inC (tlC (nthC 14 (bodyC Try.f7))))))))) 5) := by kernel_rfl
theorem l7_28_d5 : (regOp (hdC (inC (hdC (tlC (inC (inC (tlC (nthC 14 (bodyC Try.f7))))))))) 5).dst = some 164 := by kernel_rfl
theorem l7_28_g5 : (regOp (hdC (inC (hdC (tlC (inC (inC (tlC (nthC 14 (bodyC Try.f7))))))))) 5).guard = none := by kernel_rfl
theorem l7_28_o5 : (regOp (hdC (inC (hdC (tlC (inC (inC (tlC (nthC 14 (bodyC Try.f7))))))))) 5).op = Op.move (.tmp 4) := by kernel_rfl
theorem l7_28_i6 : (regOps (hdC (inC (hdC (tlC (inC (inC (tlC (nthC 14 (bodyC Try.f7))))))))))[6]? = some (regOp (hdC (inC (hdC (tlC (inC (inC (tlC (nthC 14 (bodyC Try.f7))))))))) 6) := by kernel_rfl
theorem l7_28_d6 : (regOp (hdC (inC (hdC (tlC (inC (inC (tlC (nthC 14 (bodyC Try.f7))))))))) 6).dst = some 165 := by kernel_rfl
theorem l7_28_g6 : (regOp (hdC (inC (hdC (tlC (inC (inC (tlC (nthC 14 (bodyC Try.f7))))))))) 6).guard = none := by kernel_rfl
theorem l7_28_o6 : (regOp (hdC (inC (hdC (tlC (inC (inC (tlC (nthC 14 (bodyC Try.f7))))))))) 6).op = Op.move (.tmp 21) := by kernel_rfl
theorem l7_28_i7 : (regOps (hdC (inC (hdC (tlC (inC (inC (tlC (nthC 14 (bodyC Try.f7))))))))))[7]? = some (regOp (hdC (inC (hdC (tlC (inC (inC (tlC (nthC 14 (bodyC Try.f7))))))))) 7) := by kernel_rfl
theorem l7_28_d7 : (regOp (hdC (inC (hdC (tlC (inC (inC (tlC (nthC 14 (bodyC Try.f7))))))))) 7).dst = some 166 := by kernel_rfl
theorem l7_28_g7 : (regOp (hdC (inC (hdC (tlC (inC (inC (tlC (nthC 14 (bodyC Try.f7))))))))) 7).guard = none := by kernel_rfl
theorem l7_28_o7 : (regOp (hdC (inC (hdC (tlC (inC (inC (tlC (nthC 14 (bodyC Try.f7))))))))) 7).op = Op.indexAddr 55 (.tmp 164) (.tmp 165) := by kernel_rfl
theorem l7_28_i8 : (regOps (hdC (inC (hdC (tlC (inC (inC (tlC (nthC 14 (bodyC Try.f7))))))))))[8]? = some (regOp (hdC (inC (hdC (tlC (inC (inC (tlC (nthC 14 (bodyC Try.f7))))))))) 8) := by kernel_rfl
theorem l7_28_d8 : (regOp (hdC (inC (hdC (tlC (inC (inC (tlC (nthC 14 (bodyC Try.f7))))))))) 8).dst = some 167 := by kernel_rfl
theorem l7_28_g8 : (regOp (hdC (inC (hdC (tlC (inC (inC (tlC (nthC 14 (bodyC Try.f7))))))))) 8).guard = none := by kernel_rfl
theorem l7_28_o8 : (regOp (hdC (inC (hdC (tlC (inC (inC (tlC (nthC 14 (bodyC Try.f7))))))))) 8).op = Op.load 3 (.tmp 166) := by kernel_rfl
theorem l7_28_i9 : (regOps (hdC (inC (hdC (tlC (inC (inC (tlC (nthC 14 (bodyC Try.f7))))))))))[9]? = some (regOp (hdC (inC (hdC (tlC (inC (inC (tlC (nthC 14 (bodyC Try.f7))))))))) 9) := by kernel_rfl
theorem l7_28_d9 : (regOp (hdC (inC (hdC (tlC (inC (inC (tlC (nthC 14 (bodyC Try.f7))))))))) 9).dst = some 168 := by kernel_rfl
theorem l7_28_g9 : (regOp (hdC (inC (hdC (tlC (inC (inC (tlC (nthC 14 (bodyC Try.f7))))))))) 9).guard = none := by kernel_rfl
theorem l7_28_o9 : (regOp (hdC (inC (hdC (tlC (inC (inC (tlC (nthC 14 (bodyC Try.f7))))))))) 9).op = Op.move (.tmp 5) := by kernel_rfl
theorem l7_28_i10 : (regOps (hdC (inC (hdC (tlC (inC (inC (tlC (nthC 14 (bodyC Try.f7))))))))))[10]? = some (regOp (hdC (inC (hdC (tlC (inC (inC (tlC (nthC 14 (bodyC Try.f7))))))))) 10) := by kernel_rfl
theorem l7_28_d10 : (regOp (hdC (inC (hdC (tlC (inC (inC (tlC (nthC 14 (bodyC Try.f7))))))))) 10).dst = some 169 := by kernel_rfl
theorem l7_28_g10 : (regOp (hdC (inC (hdC (tlC (inC (inC (tlC (nthC 14 (bodyC Try.f7))))))))) 10).guard = none := by kernel_rfl
theorem l7_28_o10 : (regOp (hdC (inC (hdC (tlC (inC (inC (tlC (nthC 14 (bodyC Try.f7))))))))) 10).op = Op.move (.tmp 21) := by kernel_rfl
theorem l7_28_i11 : (regOps (hdC (inC (hdC (tlC (inC (inC (tlC (nthC 14 (bodyC Try.f7))))))))))[11]? = some (regOp (hdC (inC (hdC (tlC (inC (inC (tlC (nthC 14 (bodyC Try.f7))))))))) 11) := by kernel_rfl
theorem l7_28_d11 : (regOp (hdC (inC (hdC (tlC (inC (inC (tlC (nthC 14 (bodyC Try.f7))))))))) 11).dst = some 170 := by kernel_rfl
theorem l7_28_g11 : (regOp (hdC (inC (hdC (tlC (inC (inC (tlC (nthC 14 (bodyC Try.f7))))))))) 11).guard = none := by kernel_rfl
theorem l7_28_o11 : (regOp (hdC (inC (hdC (tlC (inC (inC (tlC (nthC 14 (bodyC Try.f7))))))))) 11).op = Op.move (.tmp 2) := by kernel_rfl
theorem l7_28_i12 : (regOps (hdC (inC (hdC (tlC (inC (inC (tlC (nthC 14 (bodyC Try.f7))))))))))[12]? = some (regOp (hdC (inC (hdC (tlC (inC (inC (tlC (nthC 14 (bodyC Try.f7))))))))) 12) := by kernel_rfl
theorem l7_28_d12 : (regOp (hdC (inC (hdC (tlC (inC (inC (tlC (nthC 14 (bodyC Try.f7))))))))) 12).dst = some 171 := by kernel_rfl
theorem l7_28_g12 : (regOp (hdC (inC (hdC (tlC (inC (inC (tlC (nthC 14 (bodyC Try.f7))))))))) 12).guard = none := by kernel_rfl
theorem l7_28_o12 : (regOp (hdC (inC (hdC (tlC (inC (inC (tlC (nthC 14 (bodyC Try.f7))))))))) 12).op = Op.binOp .mul 3 (.tmp 169) (.tmp 170) 3 := by kernel_rfl
theorem l7_28_i13 : (regOps (hdC (inC (hdC (tlC (inC (inC (tlC (nthC 14 (bodyC Try.f7))))))))))[13]? = some (regOp (hdC (inC (hdC (tlC (inC (inC (tlC (nthC 14 (bodyC Try.f7))))))))) 13) := by kernel_rfl
theorem l7_28_d13 : (regOp (hdC (inC (hdC (tlC (inC (inC (tlC (nthC 14 (bodyC Try.f7))))))))) 13).dst = some 172 := by kernel_rfl
theorem l7_28_g13 : (regOp (hdC (inC (hdC (tlC (inC (inC (tlC (nthC 14 (bodyC Try.f7))))))))) 13).guard = none := by kernel_rfl
theorem l7_28_o13 : (regOp (hdC (inC (hdC (tlC (inC (inC (tlC (nthC 14 (bodyC Try.f7))))))))) 13).op = Op.move (.tmp 21) := by kernel_rfl
theorem l7_28_i14 : (regOps (hdC (inC (hdC (tlC (inC (inC (tlC (nthC 14 (bodyC Try.f7))))))))))[14]? = some (regOp (hdC (inC (hdC (tlC (inC (inC (tlC (nthC 14 (bodyC Try.f7))))))))) 14) := by kernel_rfl
theorem l7_28_d14 : (regOp (hdC (inC (hdC (tlC (inC (inC (tlC (nthC 14 (bodyC Try.f7))))))))) 14).dst = some 173 := by kernel_rfl
theorem l7_28_g14 : (regOp (hdC (inC (hdC (tlC (inC (inC (tlC (nthC 14 (bodyC Try.f7))))))))) 14).guard = none := by kernel_rfl
theorem l7_28_o14 : (regOp (hdC (inC (hdC (tlC (inC (inC (tlC (nthC 14 (bodyC Try.f7))))))))) 14).op = Op.binOp .add 3 (.tmp 172) (.const (.int .i64 1)) 3 := by kernel_rfl
theorem l7_28_i15 : (regOps (hdC (inC (hdC (tlC (inC (inC (tlC (nthC 14 (bodyC Try.f7))))))))))[15]? = some (regOp (hdC (inC (hdC (tlC (inC (inC (tlC (nthC 14 (bodyC Try.f7))))))))) 15) := by kernel_rfl
theorem l7_28_d15 : (regOp (hdC (inC (hdC (tlC (inC (inC (tlC (nthC 14 (bodyC Try.f7))))))))) 15).dst = some 174 := by kernel_rfl
theorem l7_28_g15 : (regOp (hdC (inC (hdC (tlC (inC (inC (tlC (nthC 14 (bodyC Try.f7))))))))) 15).guard = none := by kernel_rfl
theorem l7_28_o15 : (regOp (hdC (inC (hdC (tlC (inC (inC (tlC (nthC 14 (bodyC Try.f7))))))))) 15).op = Op.move (.tmp 2) := by kernel_rfl
theorem l7_28_i16 : (regOps (hdC (inC (hdC (tlC (inC (inC (tlC (nthC 14 (bodyC Try.f7))))))))))[16]? = some (regOp (hdC (inC (hdC (tlC (inC (inC (tlC (nthC 14 (bodyC Try.f7))))))))) 16) := by kernel_rfl
theorem l7_28_d16 : (regOp (hdC (inC (hdC (tlC (inC (inC (tlC (nthC 14 (bodyC Try.f7))))))))) 16).dst = some 175 := by kernel_rfl
theorem l7_28_g16 : (regOp (hdC (inC (hdC (tlC (inC (inC (tlC (nthC 14 (bodyC Try.f7))))))))) 16).guard = none := by kernel_rfl
theorem l7_28_o16 : (regOp (hdC (inC (hdC (tlC (inC (inC (tlC (nthC 14 (bodyC Try.f7))))))))) 16).op = Op.binOp .mul 3 (.tmp 173) (.tmp 174) 3 := by kernel_rfl
theorem l7_28_i17 : (regOps (hdC (inC (hdC (tlC (inC (inC (tlC (nthC 14 (bodyC Try.f7))))))))))[17]? = some (regOp (hdC (inC (hdC (tlC (inC (inC (tlC (nthC 14 (bodyC Try.f7))))))))) 17) := by kernel_rfl
theorem l7_28_d17 : (regOp (hdC (inC (hdC (tlC (inC (inC (tlC (nthC 14 (bodyC Try.f7))))))))) 17).dst = some 176 := by kernel_rfl
theorem l7_28_g17 : (regOp (hdC (inC (hdC (tlC (inC (inC (tlC (nthC 14 (bodyC Try.f7))))))))) 17).guard = none := by kernel_rfl
theorem l7_28_o17 : (regOp (hdC (inC (hdC (tlC (inC (inC (tlC (nthC 14 (bodyC Try.f7))))))))) 17).op = Op.slice 56 (.tmp 168) (some (.tmp 171)) (some (.tmp 175)) none := by kernel_rfl
theorem l7_28_i18 : (regOps (hdC (inC (hdC (tlC (inC (inC (tlC (nthC 14 (bodyC Try.f7))))))))))[18]? = some (regOp (hdC (inC (hdC (tlC (inC (inC (tlC (nthC 14 (bodyC Try.f7))))))))) 18) := by kernel_rfl
theorem l7_28_d18 : (regOp (hdC (inC (hdC (tlC (inC (inC (tlC (nthC 14 (bodyC Try.f7))))))))) 18).dst = some 177 := by kernel_rfl
theorem l7_28_g18 : (regOp (hdC (inC (hdC (tlC (inC (inC (tlC (nthC 14 (bodyC Try.f7))))))))) 18).guard = none := by kernel_rfl
theorem l7_28_o18 : (regOp (hdC (inC (hdC (tlC (inC (inC (tlC (nthC 14 (bodyC Try.f7))))))))) 18).op = Op.move (.tmp 6) := by kernel_rfl
theorem l7_28_i19 : (regOps (hdC (inC (hdC (tlC (inC (inC (tlC (nthC 14 (bodyC Try.f7))))))))))[19]? = some (regOp (hdC (inC (hdC (tlC (inC (inC (tlC (nthC 14 (bodyC Try.f7))))))))) 19) := by kernel_rfl
theorem l7_28_d19 : (regOp (hdC (inC (hdC (tlC (inC (inC (tlC (nthC 14 (bodyC Try.f7))))))))) 19).dst = some 178 := by kernel_rfl
theorem l7_28_g19 : (regOp (hdC (inC (hdC (tlC (inC (inC (tlC (nthC 14 (bodyC Try.f7))))))))) 19).guard = none := by kernel_rfl
theorem l7_28_o19 : (regOp (hdC (inC (hdC (tlC (inC (inC (tlC (nthC 14 (bodyC Try.f7))))))))) 19).op = Op.move (.tmp 21) := by kernel_rfl
theorem l7_28_i20 : (regOps (hdC (inC (hdC (tlC (inC (inC (tlC (nthC 14 (bodyC Try.f7))))))))))[20]? = some (regOp (hdC (inC (hdC (tlC (inC (inC (tlC (nthC 14 (bodyC Try.f7))))))))) 20) := by kernel_rfl
theorem l7_28_d20 : (regOp (hdC (inC (hdC (tlC (inC (inC (tlC (nthC 14 (bodyC Try.f7))))))))) 20).dst = some 179 := by kernel_rfl
theorem l7_28_g20 : (regOp (hdC (inC (hdC (tlC (inC (inC (tlC (nthC 14 (bodyC Try.f7))))))))) 20).guard = none := by kernel_rfl
theorem l7_28_o20 : (regOp (hdC (inC (hdC (tlC (inC (inC (tlC (nthC 14 (bodyC Try.f7))))))))) 20).op = Op.move (.tmp 2) := by kernel_rfl
theorem l7_28_i21 : (regOps (hdC (inC (hdC (tlC (inC (inC (tlC (nthC 14 (bodyC Try.f7))))))))))[21]? = some (regOp (hdC (inC (hdC (tlC (inC (inC (tlC (nthC 14 (bodyC Try.f7))))))))) 21) := by kernel_rfl
theorem l7_28_d21 : (regOp (hdC (inC (hdC (tlC (inC (inC (tlC (nthC 14 (bodyC Try.f7))))))))) 21).dst = some 180 := by kernel_rfl
theorem l7_28_g21 : (regOp (hdC (inC (hdC (tlC (inC (inC (tlC (nthC 14 (bodyC Try.f7))))))))) 21).guard = none := by kernel_rfl
theorem l7_28_o21 : (regOp (hdC (inC (hdC (tlC (inC (inC (tlC (nthC 14 (bodyC Try.f7))))))))) 21).op = Op.binOp .mul 3 (.tmp 178) (.tmp 179) 3 := by kernel_rfl
theorem l7_28_i22 : (regOps (hdC (inC (hdC (tlC (inC (inC (tlC (nthC 14 (bodyC Try.f7))))))))))[22]? = some (regOp (hdC (inC (hdC (tlC (inC (inC (tlC (nthC 14 (bodyC Try.f7))))))))) 22) := by kernel_rfl
theorem l7_28_d22 : (regOp (hdC (inC (hdC (tlC (inC (inC (tlC (nthC 14 (bodyC Try.f7))))))))) 22).dst = some 181 := by kernel_rfl
theorem l7_28_g22 : (regOp (hdC (inC (hdC (tlC (inC (inC (tlC (nthC 14 (bodyC Try.f7))))))))) 22).guard = none := by kernel_rfl
theorem l7_28_o22 : (regOp (hdC (inC (hdC (tlC (inC (inC (tlC (nthC 14 (bodyC Try.f7))))))))) 22).op = Op.move (.tmp 21) := by kernel_rfl
theorem l7_28_i23 : (regOps (hdC (inC (hdC (tlC (inC (inC (tlC (nthC 14 (bodyC Try.f7))))))))))[23]? = some (regOp (hdC (inC (hdC (tlC (inC (inC (tlC (nthC 14 (bodyC Try.f7))))))))) 23) := by kernel_rfl
theorem l7_28_d23 : (regOp (hdC (inC (hdC (tlC (inC (inC (tlC (nthC 14 (bodyC Try.f7))))))))) 23).dst = some 182 := by kernel_rfl
theorem l7_28_g23 : (regOp (hdC (inC (hdC (tlC (inC (inC (tlC (nthC 14 (bodyC Try.f7))))))))) 23).guard = none := by kernel_rfl
theorem l7_28_o23 : (regOp (hdC (inC (hdC (tlC (inC (inC (tlC (nthC 14 (bodyC Try.f7))))))))) 23).op = Op.binOp .add 3 (.tmp 181) (.const (.int .i64 1)) 3 := by kernel_rfl
theorem l7_28_i24 : (regOps (hdC (inC (hdC (tlC (inC (inC (tlC (nthC 14 (bodyC Try.f7))))))))))[24]? = some (regOp (hdC (inC (hdC (tlC (inC (inC (tlC (nthC 14 (bodyC Try.f7))))))))) 24) := by kernel_rfl
theorem l7_28_d24 : (regOp (hdC (inC (hdC (tlC (inC (inC (tlC (nthC 14 (bodyC Try.f7))))))))) 24).dst = some 183 := by kernel_rfl
theorem l7_28_g24 : (regOp (hdC (inC (hdC (tlC (inC (inC (tlC (nthC 14 (bodyC Try.f7))))))))) 24).guard = none := by kernel_rfl
theorem l7_28_o24 : (regOp (hdC (inC (hdC (tlC (inC (inC (tlC (nthC 14 (bodyC Try.f7))))))))) 24).op = Op.move (.tmp 2) := by kernel_rfl
theorem l7_28_i25 : (regOps (hdC (inC (hdC (tlC (inC (inC (tlC (nthC 14 (bodyC Try.f7))))))))))[25]? = some (regOp (hdC (inC (hdC (tlC (inC (inC (tlC (nthC 14 (bodyC Try.f7))))))))) 25) := by kernel_rfl
theorem l7_28_d25 : (regOp (hdC (inC (hdC (tlC (inC (inC (tlC (nthC 14 (bodyC Try.f7))))))))) 25).dst = some 184 := by kernel_rfl
theorem l7_28_g25 : (regOp (hdC (inC (hdC (tlC (inC (inC (tlC (nthC 14 (bodyC Try.f7))))))))) 25).guard = none := by kernel_rfl
theorem l7_28_o25 : (regOp (hdC (inC (hdC (tlC (inC (inC (tlC (nthC 14 (bodyC Try.f7))))))))) 25).op = Op.binOp .mul 3 (.tmp 182) (.tmp 183) 3 := by kernel_rfl
theorem l7_28_i26 : (regOps (hdC (inC (hdC (tlC (inC (inC (tlC (nthC 14 (bodyC Try.f7))))))))))[26]? = some (regOp (hdC (inC (hdC (tlC (inC (inC (tlC (nthC 14 (bodyC Try.f7))))))))) 26) := by kernel_rfl
theorem l7_28_d26 : (regOp (hdC (inC (hdC (tlC (inC (inC (tlC (nthC 14 (bodyC Try.f7))))))))) 26).dst = some 185 := by kernel_rfl
theorem l7_28_g26 : (regOp (hdC (inC (hdC (tlC (inC (inC (tlC (nthC 14 (bodyC Try.f7))))))))) 26).guard = none := by kernel_rfl
theorem l7_28_o26 : (regOp (hdC (inC (hdC (tlC (inC (inC (tlC (nthC 14 (bodyC Try.f7))))))))) 26).op = Op.slice 25 (.tmp 177) (some (.tmp 180)) (some (.tmp 184)) none := by kernel_rfl
theorem l7_28_i27 : (regOps (hdC (inC (hdC (tlC (inC (inC (tlC (nthC 14 (bodyC Try.f7))))))))))[27]? = some (regOp (hdC (inC (hdC (tlC (inC (inC (tlC (nthC 14 (bodyC Try.f7))))))))) 27) := by kernel_rfl
theorem l7_28_d27 : (regOp (hdC (inC (hdC (tlC (inC (inC (tlC (nthC 14 (bodyC Try.f7))))))))) 27).dst = some 186 := by kernel_rfl
theorem l7_28_g27 : (regOp (hdC (inC (hdC (tlC (inC (inC (tlC (nthC 14 (bodyC Try.f7))))))))) 27).guard = none := by kernel_rfl
theorem l7_28_o27 : (regOp (hdC (inC (hdC (tlC (inC (inC (tlC (nthC 14 (bodyC Try.f7))))))))) 27).op = Op.call { callee := .value (.func 27), args := #[.tmp 159, .tmp 163, .tmp 167, .tmp 176, .tmp 185], argTypes := #[70, 31, 3, 56, 25] } := by kernel_rfl
theorem l7_28_f0 : Region.free .any (regOps (hdC (inC (hdC (tlC (inC (inC (tlC (nthC 14 (bodyC Try.f7)))))))))) #[false, false, false, false, false, false, false, false, false, false, false, false, false, false, false, false, false, false, false, false, false, false, false, false, false, false, false, false] 0 = true := by kernel_rfl
theorem l7_28_r0 : (Region.ready .any (regOps (hdC (inC (hdC (tlC (inC (inC (tlC (nthC 14 (bodyC Try.f7)))))))))) #[false, false, false, false, false, false, false, false, false, false, false, false, false, false, false, false, false, false, false, false, false, false, false, false, false, false, false, false]).contains 0 = true := by kernel_rfl
theorem l7_28_f1 : Region.free .any (regOps (hdC (inC (hdC (tlC (inC (inC (tlC (nthC 14 (bodyC Try.f7)))))))))) #[true, false, false, false, false, false, false, false, false, false, false, false, false, false, false, false, false, false, false, false, false, false, false, false, false, false, false, false] 1 = true := by kernel_rfl
theorem l7_28_r1 : (Region.ready .any (regOps (hdC (inC (hdC (tlC (inC (inC (tlC (nthC 14 (bodyC Try.f7)))))))))) #[true, false, false, false, false, false, false, false, false, false, false, false, false, false, false, false, false, false, false, false, false, false, false, false, false, false, false, false]).contains 1 = true := by kernel_rfl
theorem l7_28_f2 : Region.free .any (regOps (hdC (inC (hdC (tlC (inC (inC (tlC (nthC 14 (bodyC Try.f7)))))))))) #[true, true, false, false, false, false, false, false, false, false, false, false, false, false, false, false, false, false, false, false, false, false, false, false, false, false, false, false] 2 = true := by kernel_rfl
theorem l7_28_r2 : (Region.ready .any (regOps (hdC (inC (hdC (tlC (inC (inC (tlC (nthC 14 (bodyC Try.f7)))))))))) #[true, true, false, false, false, false, false, false, false, false, false, false, false, false, false, false, false, false, false, false, false, false, false, false, false, false, false, false]).contains 2 = true := by kernel_rfl
theorem l7_28_f3 : Region.free .any (regOps (hdC (inC (hdC (tlC (inC (inC (tlC (nthC 14 (bodyC Try.f7)))))))))) #[true, true, true, false, false, false, false, false, false, false, false, false, false, false, false, false, false, false, false, false, false, false, false, false, false, false, false, false] 3 = true := by kernel_rfl
theorem l7_28_r3 : (Region.ready .any (regOps (hdC (inC (hdC (tlC (inC (inC (tlC (nthC 14 (bodyC Try.f7)))))))))) #[true, true, true, false, false, false, false, false, false, false, false, false, false, false, false, false, false, false, false, false, false, false, false, false, false, false, false, false]).contains 3 = true := by kernel_rfl
theorem l7_28_f4 : Region.free .any (regOps (hdC (inC (hdC (tlC (inC (inC (tlC (nthC 14 (bodyC Try.f7)))))))))) #[true, true, true, true, false, false, false, false, false, false, false, false, false, false, false, false, false, false, false, false, false, false, false, false, false, false, false, false] 4 = true := by kernel_rfl
theorem l7_28_r4 : (Region.ready .any (regOps (hdC (inC (hdC (tlC (inC (inC (tlC (nthC 14 (bodyC Try.f7)))))))))) #[true, true, true, true, false, false, false, false, false, false, false, false, false, false, false, false, false, false, false, false, false, false, false, false, false, false, false, false]).contains 4 = true := by kernel_rfl
theorem l7_28_f5 : Region.free .any (regOps (hdC (inC (hdC (tlC (inC (inC (tlC (nthC 14 (bodyC Try.f7)))))))))) #[true, true, true, true, true, false, false, false, false, false, false, false, false, false, false, false, false, false, false, false, false, false, false, false, false, false, false, false] 5 = true := by kernel_rfl
theorem l7_28_r5 : (Region.ready .any (regOps (hdC (inC (hdC (tlC (inC (inC (tlC (nthC 14 (bodyC Try.f7)))))))))) #[true, true, true, true, true, false, false, false, false, false, false, false, false, false, false, false, false, false, false, false, false, false, false, false, false, false, false, false]).contains 5 = true := by kernel_rfl
theorem l7_28_f6 : Region.free .any (regOps (hdC (inC (hdC (tlC (inC (inC (tlC (nthC 14 (bodyC Try.f7)))))))))) #[true, true, true, true, true, true, false, false, false, false, false, false, false, false, false, false, false, false, false, false, false, false, false, false, false, false, false, false] 6 = true := by kernel_rfl
theorem l7_28_r6 : (Region.ready .any (regOps (hdC (inC (hdC (tlC (inC (inC (tlC (nthC 14 (bodyC Try.f7)))))))))) #[true, true, true, true, true, true, false, false, false, false, false, false, false, false, false, false, false, false, false, false, false, false, false, false, false, false, false, false]).contains 6 = true := by kernel_rfl
theorem l7_28_f7 : Region.free .any (regOps (hdC (inC (hdC (tlC (inC (inC (tlC (nthC 14 (bodyC Try.f7)))))))))) #[true, true, true, true, true, true, true, false, false, false, false, false, false, false, false, false, false, false, false, false, false, false, false, false, false, false, false, false] 7 = true := by kernel_rfl
theorem l7_28_r7 : (Region.ready .any (regOps (hdC (inC (hdC (tlC (inC (inC (tlC (nthC 14 (bodyC Try.f7)))))))))) #[true, true, true, true, true, true, true, false, false, false, false, false, false, false, false, false, false, false, false, false, false, false, false, false, false, false, false, false]).contains 7 = true := by kernel_rfl
theorem l7_28_f8 : Region.free .any (regOps (hdC (inC (hdC (tlC (inC (inC (tlC (nthC 14 (bodyC Try.f7)))))))))) #[true, true, true, true, true, true, true, true, false, false, false, false, false, false, false, false, false, false, false, false, false, false, false, false, false, false, false, false] 8 = true := by kernel_rfl
theorem l7_28_r8 : (Region.ready .any (regOps (hdC (inC (hdC (tlC (inC (inC (tlC (nthC 14 (bodyC Try.f7)))))))))) #[true, true, true, true, true, true, true, true, false, false, false, false, false, false, false, false, false, false, false, false, false, false, false, false, false, false, false, false]).contains 8 = true := by kernel_rfl
theorem l7_28_f9 : Region.free .any (regOps (hdC (inC (hdC (tlC (inC (inC (tlC (nthC 14 (bodyC Try.f7)))))))))) #[true, true, true, true, true, true, true, true, true, false, false, false, false, false, false, false, false, false, false, false, false, false, false, false, false, false, false, false] 9 = true := by kernel_rfl
theorem l7_28_r9 : (Region.ready .any (regOps (hdC (inC (hdC (tlC (inC (inC (tlC (nthC 14 (bodyC Try.f7)))))))))) #[true, true, true, true, true, true, true, true, true, false, false, false, false, false, false, false, false, false, false, false, false, false, false, false, false, false, false, false]).contains 9 = true := by kernel_rfl
theorem l7_28_f10 : Region.free .any (regOps (hdC (inC (hdC (tlC (inC (inC (tlC (nthC 14 (bodyC Try.f7)))))))))) #[true, true, true, true, true, true, true, true, true, true, false, false, false, false, false, false, false, false, false, false, false, false, false, false, false, false, false, false] 10 = true := by kernel_rfl
theorem l7_28_r10 : (Region.ready .any (regOps (hdC (inC (hdC (tlC (inC (inC (tlC (nthC 14 (bodyC Try.f7)))))))))) #[true, true, true, true, true, true, true, true, true, true, false, false, false, false, false, false, false, false, false, false, false, false, false, false, false, false, false, false]).contains 10 = true := by kernel_rfl
theorem l7_28_f11 : Region.free .any (regOps (hdC (inC (hdC (tlC (inC (inC (tlC (nthC 14 (bodyC Try.f7)))))))))) #[true, true, true, true, true, true, true, true, true, true, true, false, false, false, false, false, false, false, false, false, false, false, false, false, false, false, false, false] 11 = true := by kernel_rfl
theorem l7_28_r11 : (Region.ready .any (regOps (hdC (inC (hdC (tlC (inC (inC (tlC (nthC 14 (bodyC Try.f7)))))))))) #[true, true, true, true, true, true, true, true, true, true, true, false, false, false, false, false, false, false, false, false, false, false, false, false, false, false, false, false]).contains 11 = true := by kernel_rfl
theorem l7_28_f12 : Region.free .any (regOps (hdC (inC (hdC (tlC (inC (inC (tlC (nthC 14 (bodyC Try.f7)))))))))) #[true, true, true, true, true, true, true, true, true, true, true, true, false, false, false, false, false, false, false, false, false, false, false, false, false, false, false, false] 12 = true := by kernel_rfl
theorem l7_28_r12 : (Region.ready .any (regOps (hdC (inC (hdC (tlC (inC (inC (tlC (nthC 14 (bodyC Try.f7)))))))))) #[true, true, true, true, true, true, true, true, true, true, true, true, false, false, false, false, false, false, false, false, false, false, false, false, false, false, false, false]).contains 12 = true := by kernel_rfl
theorem l7_28_f13 : Region.free .any (regOps (hdC (inC (hdC (tlC (inC (inC (tlC (nthC 14 (bodyC Try.f7)))))))))) #[true, true, true, true, true, true, true, true, true, true, true, true, true, false, false, false, false, false, false, false, false, false, false, false, false, false, false, false] 13 = true := by kernel_rfl
theorem l7_28_r13 : (Region.ready .any (regOps (hdC (inC (hdC (tlC (inC (inC (tlC (nthC 14 (bodyC Try.f7)))))))))) #[true, true, true, true, true, true, true, true, true, true, true, true, true, false, false, false, false, false, false, false, false, false, false, false, false, false, false, false]).contains 13 = true := by kernel_rfl
theorem l7_28_f14 : Region.free .any (regOps (hdC (inC (hdC (tlC (inC (inC (tlC (nthC 14 (bodyC Try.f7)))))))))) #[true, true, true, true, true, true, true, true, true, true, true, true, true, true, false, false, false, false, false, false, false, false, false, false, false, false, false, false] 14 = true := by kernel_rfl
theorem l7_28_r14 : (Region.ready .any (regOps (hdC (inC (hdC (tlC (inC (inC (tlC (nthC 14 (bodyC Try.f7)))))))))) #[true, true, true, true, true, true, true, true, true, true, true, true, true, true, false, false, false, false, false, false, false, false, false, false, false, false, false, false]).contains 14 = true := by kernel_rfl
theorem l7_28_f15 : Region.free .any (regOps (hdC (inC (hdC (tlC (inC (inC (tlC (nthC 14 (bodyC Try.f7)))))))))) #[true, true, true, true, true, true, true, true, true, true, true, true, true, true, true, false, false, false, false, false, false, false, false, false, false, false, false, false] 15 = true := by kernel_rfl
theorem l7_28_r15 : (Region.ready .any (regOps (hdC (inC (hdC (tlC (inC (inC (tlC (nthC 14 (bodyC Try.f7)))))))))) #[true, true, true, true, true, true, true, true, true, true, true, true, true, true, true, false, false, false, false, false, false, false, false, false, false, false, false, false]).contains 15 = true := by kernel_rfl
theorem l7_28_f16 : Region.free .any (regOps (hdC (inC (hdC (tlC (inC (inC (tlC (nthC 14 (bodyC Try.f7)))))))))) #[true, true, true, true, true, true, true, true, true, true, true, true, true, true, true, true, false, false, false, false, false, false, false, false, false, false, false, false] 16 = true := by kernel_rfl
theorem l7_28_r16 : (Region.ready .any (regOps (hdC (inC (hdC (tlC (inC (inC (tlC (nthC 14 (bodyC Try.f7)))))))))) #[true, true, true, true, true, true, true, true, true, true, true, true, true, true, true, true, false, false, false, false, false, false, false, false, false, false, false, false]).contains 16 = true := by kernel_rfl
theorem l7_28_f17 : Region.free .any (regOps (hdC (inC (hdC (tlC (inC (inC (tlC (nthC 14 (bodyC Try.f7)))))))))) #[true, true, true, true, true, true, true, true, true, true, true, true, true, true, true, true, true, false, false, false, false, false, false, false, false, false, false, false] 17 = true := by kernel_rfl
theorem l7_28_r17 : (Region.ready .any (regOps (hdC (inC (hdC (tlC (inC (inC (tlC (nthC 14 (bodyC Try.f7)))))))))) #[true, true, true, true, true, true, true, true, true, true, true, true, true, true, true, true, true, false, false, false, false, false, false, false, false, false, false, false]).contains 17 = true := by kernel_rfl
theorem l7_28_f18 : Region.free .any (regOps (hdC (inC (hdC (tlC (inC (inC (tlC (nthC 14 (bodyC Try.f7)))))))))) #[true, true, true, true, true, true, true, true, true, true, true, true, true, true, true, true, true, true, false, false, false, false, false, false, false, false, false, false] 18 = true := by kernel_rfl
theorem l7_28_r18 : (Region.ready .any (regOps (hdC (inC (hdC (tlC (inC (inC (tlC (nthC 14 (bodyC Try.f7)))))))))) #[true, true, true, true, true, true, true, true, true, true, true, true, true, true, true, true, true, true, false, false, false, false, false, false, false, false, false, false]).contains 18 = true := by kernel_rfl
theorem l7_28_f19 : Region.free .any (regOps (hdC (inC (hdC (tlC (inC (inC (tlC (nthC 14 (bodyC Try.f7)))))))))) #[true, true, true, true, true, true, true, true, true, true, true, true, true, true, true, true, true, true, true, false, false, false, false, false, false, false, false, false] 19 = true := by kernel_rfl
theorem l7_28_r19 : (Region.ready .any (regOps (hdC (inC (hdC (tlC (inC (inC (tlC (nthC 14 (bodyC Try.f7)))))))))) #[true, true, true, true, true, true, true, true, true, true, true, true, true, true, true, true, true, true, true, false, false, false, false, false, false, false, false, false]).contains 19 = true := by kernel_rfl
theorem l7_28_f20 : Region.free .any (regOps (hdC (inC (hdC (tlC (inC (inC (tlC (nthC 14 (bodyC Try.f7)))))))))) #[true, true, true, true, true, true, true, true, true, true, true, true, true, true, true, true, true, true, true, true, false, false, false, false, false, false, false, false] 20 = true := by kernel_rfl
theorem l7_28_r20 : (Region.ready .any (regOps (hdC (inC (hdC (tlC (inC (inC (tlC (nthC 14 (bodyC Try.f7)))))))))) #[true, true, true, true, true, true, true, true, true, true, true, true, true, true, true, true, true, true, true, true, false, false, false, false, false, false, false, false]).contains 20 = true := by kernel_rfl
theorem l7_28_f21 : Region.free .any (regOps (hdC (inC (hdC (tlC (inC (inC (tlC (nthC 14 (bodyC Try.f7)))))))))) #[true, true, true, true, true, true, true, true, true, true, true, true, true, true, true, true, true, true, true, true, true, false, false, false, false, false, false, false] 21 = true := by kernel_rfl
theorem l7_28_r21 : (Region.ready .any (regOps (hdC (inC (hdC (tlC (inC (inC (tlC (nthC 14 (bodyC Try.f7)))))))))) #[true, true, true, true, true, true, true, true, true, true, true, true, true, true, true, true, true, true, true, true, true, false, false, false, false, false, false, false]).contains 21 = true := by kernel_rfl
theorem l7_28_f22 : Region.free .any (regOps (hdC (inC (hdC (tlC (inC (inC (tlC (nthC 14 (bodyC Try.f7)))))))))) #[true, true, true, true, true, true, true, true, true, true, true, true, true, true, true, true, true, true, true, true, true, true, false, false, false, false, false, false] 22 = true := by kernel_rfl
theorem l7_28_r22 : (Region.ready .any (regOps (hdC (inC (hdC (tlC (inC (inC (tlC (nthC 14 (bodyC Try.f7)))))))))) #[true, true, true, true, true, true, true, true, true, true, true, true, true, true, true, true, true, true, true, true, true, true, false, false, false, false, false, false]).contains 22 = true := by kernel_rfl
theorem l7_28_f23 : Region.free .any (regOps (hdC (inC (hdC (tlC (inC (inC (tlC (nthC 14 (bodyC Try.f7)))))))))) #[true, true, true, true, true, true, true, true, true, true, true, true, true, true, true, true, true, true, true, true, true, true, true, false, false, false, false, false] 23 = true := by kernel_rfl
theorem l7_28_r23 : (Region.ready .any (regOps (hdC (inC (hdC (tlC (inC (inC (tlC (nthC 14 (bodyC Try.f7)))))))))) #[true, true, true, true, true, true, true, true, true, true, true, true, true, true, true, true, true, true, true, true, true, true, true, false, false, false, false, false]).contains 23 = true := by kernel_rfl
theorem l7_28_f24 : Region.free .any (regOps (hdC (inC (hdC (tlC (inC (inC (tlC (nthC 14 (bodyC Try.f7)))))))))) #[true, true, true, true, true, true, true, true, true, true, true, true, true, true, true, true, true, true, true, true, true, true, true, true, false, false, false, false] 24 = true := by kernel_rfl
theorem l7_28_r24 : (Region.ready .any (regOps (hdC (inC (hdC (tlC (inC (inC (tlC (nthC 14 (bodyC Try.f7)))))))))) #[true, true, true, true, true, true, true, true, true, true, true, true, true, true, true, true, true, true, true, true, true, true, true, true, false, false, false, false]).contains 24 = true := by kernel_rfl
theorem l7_28_f25 : Region.free .any (regOps (hdC (inC (hdC (tlC (inC (inC (tlC (nthC 14 (bodyC Try.f7)))))))))) #[true, true, true, true, true, true, true, true, true, true, true, true, true, true, true, true, true, true, true, true, true, true, true, true, true, false, false, false] 25 = true := by kernel_rfl
theorem l7_28_r25 : (Region.ready .any (regOps (hdC (inC (hdC (tlC (inC (inC (tlC (nthC 14 (bodyC Try.f7)))))))))) #[true, true, true, true, true, true, true, true, true, true, true, true, true, true, true, true, true, true, true, true, true, true, true, true, true, false, false, false]).contains 25 = true := by kernel_rfl
theorem l7_28_f26 : Region.free .any (regOps (hdC (inC (hdC (tlC (inC (inC (tlC (nthC 14 (bodyC Try.f7)))))))))) #[true, true, true, true, true, true, true, true, true, true, true, true, true, true, true, true, true, true, true, true, true, true, true, true, true, true, false, false] 26 = true := by kernel_rfl
theorem l7_28_r26 : (Region.ready .any (regOps (hdC (inC (hdC (tlC (inC (inC (tlC (nthC 14 (bodyC Try.f7)))))))))) #[true, true, true, true, true, true, true, true, true, true, true, true, true, true, true, true, true, true, true, true, true, true, true, true, true, true, false, false]).contains 26 = true := by kernel_rfl
theorem l7_28_r27 : Region.ready .any (regOps (hdC (inC (hdC (tlC (inC (inC (tlC (nthC 14 (bodyC Try.f7)))))))))) #[true, true, true, true, true, true, true, true, true, true, true, true, true, true, true, true, true, true, true, true, true, true, true, true, true, true, true, false] = [27] := by kernel_rfl
theorem l7_28_e : Region.ready .any (regOps (hdC (inC (hdC (tlC (inC (inC (tlC (nthC 14 (bodyC Try.f7)))))))))) #[true, true, true, true, true, true, true, true, true, true, true, true, true, true, true, true, true, true, true, true, true, true, true, true, true, true, true, true] = [] := by kernel_rfl

set_option maxRecDepth 10000 in
set_option maxHeartbeats 1000000 in
theorem l7_28p (kap st : Int) (m K I pb cb rb ib q1 q2 b1 b2 k lo hi : Nat) (p ck : Int) (G : World → Prop) (a : Act) (w : World) (Q : Exit → Act → World → Prop) (hfr : Fr 282 a) (hs : Slots [(0, .int .i64 kap), (1, .int .u32 st), (2, .int .i64 (m : Nat)), (3, .slice (some ⟨pb, 0, none⟩) K K), (4, .slice (some ⟨cb, 0, none⟩) K K), (5, .slice (some ⟨rb, 0, none⟩) I I), (6, .slice (some ⟨ib, 0, none⟩) I I), (15, .slice (some ⟨q1, 0, none⟩) I I), (16, .slice (some ⟨q2, 0, none⟩) I I), (19, .pointer (some ⟨b1, 0, none⟩)), (20, .pointer (some ⟨b2, 0, none⟩)), (21, .int .i64 (k : Nat))] a)
    (hlo : IntKind.i64.wrap ((k : Int) * (m : Int)) = (lo : Int)) (hhi : IntKind.i64.wrap (((k : Int) + 1) * (m : Int)) = (hi : Int)) (hle : (lo : Int) ≤ hi) (hhI : (hi : Int) ≤ I) (hIl : ¬ (I = lo)) (hk1 : IntKind.i64.wrap ((k : Int) + 1) = (k : Int) + 1) (lk : (k : Int) < K)
    (cp : w.cell? ⟨pb, k, none⟩ = some (.int .u64 p)) (cc : w.cell? ⟨cb, k, none⟩ = some (.int .i64 ck))
    (hcall : Calls Try.prog 27 #[.pointer (some ⟨b1, 0, none⟩), .int .u64 p, .int .i64 ck, .slice (some ⟨rb, lo, none⟩) (hi - lo) (I - lo), .slice (some ⟨ib, lo, none⟩) (hi - lo) (I - lo)] w.drew fun e w' => e = .returned (.tuple #[]) ∧ (fun w' : World => w'.cell? ⟨pb, k, none⟩ = some (.int .u64 p) ∧ w'.cell? ⟨cb, k, none⟩ = some (.int .i64 ck)) w' ∧ G w')
    (hQ : ∀ a' w', G w' → Fr 282 a' → Slots [(0, .int .i64 kap), (1, .int .u32 st), (2, .int .i64 (m : Nat)), (3, .slice (some ⟨pb, 0, none⟩) K K), (4, .slice (some ⟨cb, 0, none⟩) K K), (5, .slice (some ⟨rb, 0, none⟩) I I), (6, .slice (some ⟨ib, 0, none⟩) I I), (15, .slice (some ⟨q1, 0, none⟩) I I), (16, .slice (some ⟨q2, 0, none⟩) I I), (19, .pointer (some ⟨b1, 0, none⟩)), (20, .pointer (some ⟨b2, 0, none⟩)), (21, .int .i64 (k : Nat))] a' → Q .normal a' w') :
    Code.wp Try.prog (hdC (inC (hdC (tlC (inC (inC (tlC (nthC 14 (bodyC Try.f7))))))))) Q a w := by
  obtain ⟨t0, t1, t2, t3, t4, t5, t6, t15, t16, t19, t20, t21, -⟩ := hs
  replace t0 : a.tmps[0]?.getD undef = .int .i64 kap := (sl_at a 0).symm.trans t0
  replace t1 : a.tmps[1]?.getD undef = .int .u32 st := (sl_at a 1).symm.trans t1
  replace t2 : a.tmps[2]?.getD undef = .int .i64 (m : Nat) := (sl_at a 2).symm.trans t2
  replace t3 : a.tmps[3]?.getD undef = .slice (some ⟨pb, 0, none⟩) K K := (sl_at a 3).symm.trans t3
  replace t4 : a.tmps[4]?.getD undef = .slice (some ⟨cb, 0, none⟩) K K := (sl_at a 4).symm.trans t4
  replace t5 : a.tmps[5]?.getD undef = .slice (some ⟨rb, 0, none⟩) I I := (sl_at a 5).symm.trans t5
  replace t6 : a.tmps[6]?.getD undef = .slice (some ⟨ib, 0, none⟩) I I := (sl_at a 6).symm.trans t6
  replace t15 : a.tmps[15]?.getD undef = .slice (some ⟨q1, 0, none⟩) I I := (sl_at a 15).symm.trans t15
  replace t16 : a.tmps[16]?.getD undef = .slice (some ⟨q2, 0, none⟩) I I := (sl_at a 16).symm.trans t16
  replace t19 : a.tmps[19]?.getD undef = .pointer (some ⟨b1, 0, none⟩) := (sl_at a 19).symm.trans t19
  replace t20 : a.tmps[20]?.getD undef = .pointer (some ⟨b2, 0, none⟩) := (sl_at a 20).symm.trans t20
  replace t21 : a.tmps[21]?.getD undef = .int .i64 (k : Nat) := (sl_at a 21).symm.trans t21
  have hS0 : (fun w' : World => w'.cell? ⟨pb, k, none⟩ = some (.int .u64 p) ∧ w'.cell? ⟨cb, k, none⟩ = some (.int .i64 ck)) w.drew := ⟨cp, cc⟩
  refine wp_navR (fun w' : World => w'.cell? ⟨pb, k, none⟩ = some (.int .u64 p) ∧ w'.cell? ⟨cb, k, none⟩ = some (.int .i64 ck)) (fun a' w' => G w' ∧ Fr 282 a' ∧ Slots [(0, .int .i64 kap), (1, .int .u32 st), (2, .int .i64 (m : Nat)), (3, .slice (some ⟨pb, 0, none⟩) K K), (4, .slice (some ⟨cb, 0, none⟩) K K), (5, .slice (some ⟨rb, 0, none⟩) I I), (6, .slice (some ⟨ib, 0, none⟩) I I), (15, .slice (some ⟨q1, 0, none⟩) I I), (16, .slice (some ⟨q2, 0, none⟩) I I), (19, .pointer (some ⟨b1, 0, none⟩)), (20, .pointer (some ⟨b2, 0, none⟩)), (21, .int .i64 (k : Nat))] a') 28 #[false, false, false, false, false, false, false, false, false, false, false, false, false, false, false, false, false, false, false, false, false, false, false, false, false, false, false, false] (by kernel_rfl) (by kernel_rfl) (by kernel_rfl) rfl ?_ (fun a' w' ⟨h1, h2, h3⟩ => hQ a' w' h1 h2 h3)
  clear hQ
  refine take1 0 159 _ (.pointer (some ⟨b1, 0, none⟩)) #[true, false, false, false, false, false, false, false, false, false, false, false, false, false, false, false, false, false, false, false, false, false, false, false, false, false, false, false] l7_28_i0 l7_28_d0 (by decide) l7_28_s l7_28_f0 l7_28_r0 l7_28_g0 rfl hS0 hfr ?_ ?_
  · intro wx hx; obtain ⟨h0, h1⟩ := hx; simp only [execOp, l7_28_o0]; go_simp
  intro a1 fr1 t159 ho
  replace t0 := (ho 0 (by decide)).trans t0
  replace t1 := (ho 1 (by decide)).trans t1
  replace t2 := (ho 2 (by decide)).trans t2
  replace t3 := (ho 3 (by decide)).trans t3
  replace t4 := (ho 4 (by decide)).trans t4
  replace t5 := (ho 5 (by decide)).trans t5
  replace t6 := (ho 6 (by decide)).trans t6
  replace t15 := (ho 15 (by decide)).trans t15
  replace t16 := (ho 16 (by decide)).trans t16
  replace t19 := (ho 19 (by decide)).trans t19
  replace t20 := (ho 20 (by decide)).trans t20
  replace t21 := (ho 21 (by decide)).trans t21
  clear hfr ho
  refine take1 1 160 _ (.slice (some ⟨pb, 0, none⟩) K K) #[true, true, false, false, false, false, false, false, false, false, false, false, false, false, false, false, false, false, false, false, false, false, false, false, false, false, false, false] l7_28_i1 l7_28_d1 (by decide) l7_28_s l7_28_f1 l7_28_r1 l7_28_g1 rfl hS0 fr1 ?_ ?_
  · intro wx hx; obtain ⟨h0, h1⟩ := hx; simp only [execOp, l7_28_o1]; go_simp
  intro a2 fr2 t160 ho
  replace t0 := (ho 0 (by decide)).trans t0
  replace t1 := (ho 1 (by decide)).trans t1
  replace t2 := (ho 2 (by decide)).trans t2
  replace t3 := (ho 3 (by decide)).trans t3
  replace t4 := (ho 4 (by decide)).trans t4
  replace t5 := (ho 5 (by decide)).trans t5
  replace t6 := (ho 6 (by decide)).trans t6
  replace t15 := (ho 15 (by decide)).trans t15
  replace t16 := (ho 16 (by decide)).trans t16
  replace t19 := (ho 19 (by decide)).trans t19
  replace t20 := (ho 20 (by decide)).trans t20
  replace t21 := (ho 21 (by decide)).trans t21
  replace t159 := (ho 159 (by decide)).trans t159
  clear fr1 ho
  refine take1 2 161 _ (.int .i64 (k : Nat)) #[true, true, true, false, false, false, false, false, false, false, false, false, false, false, false, false, false, false, false, false, false, false, false, false, false, false, false, false] l7_28_i2 l7_28_d2 (by decide) l7_28_s l7_28_f2 l7_28_r2 l7_28_g2 rfl hS0 fr2 ?_ ?_
  · intro wx hx; obtain ⟨h0, h1⟩ := hx; simp only [execOp, l7_28_o2]; go_simp
  intro a3 fr3 t161 ho
  replace t0 := (ho 0 (by decide)).trans t0
  replace t1 := (ho 1 (by decide)).trans t1
  replace t2 := (ho 2 (by decide)).trans t2
  replace t3 := (ho 3 (by decide)).trans t3
  replace t4 := (ho 4 (by decide)).trans t4
  replace t5 := (ho 5 (by decide)).trans t5
  replace t6 := (ho 6 (by decide)).trans t6
  replace t15 := (ho 15 (by decide)).trans t15
  replace t16 := (ho 16 (by decide)).trans t16
  replace t19 := (ho 19 (by decide)).trans t19
  replace t20 := (ho 20 (by decide)).trans t20
  replace t21 := (ho 21 (by decide)).trans t21
  replace t159 := (ho 159 (by decide)).trans t159
  replace t160 := (ho 160 (by decide)).trans t160
  clear fr2 ho
  refine take1 3 162 _ (.pointer (some ⟨pb, k, none⟩)) #[true, true, true, true, false, false, false, false, false, false, false, false, false, false, false, false, false, false, false, false, false, false, false, false, false, false, false, false] l7_28_i3 l7_28_d3 (by decide) l7_28_s l7_28_f3 l7_28_r3 l7_28_g3 rfl hS0 fr3 ?_ ?_
  · intro wx hx; obtain ⟨h0, h1⟩ := hx; simp only [execOp, l7_28_o3]; go_simp
  intro a4 fr4 t162 ho
  replace t0 := (ho 0 (by decide)).trans t0
  replace t1 := (ho 1 (by decide)).trans t1
  replace t2 := (ho 2 (by decide)).trans t2
  replace t3 := (ho 3 (by decide)).trans t3
  replace t4 := (ho 4 (by decide)).trans t4
  replace t5 := (ho 5 (by decide)).trans t5
  replace t6 := (ho 6 (by decide)).trans t6
  replace t15 := (ho 15 (by decide)).trans t15
  replace t16 := (ho 16 (by decide)).trans t16
  replace t19 := (ho 19 (by decide)).trans t19
  replace t20 := (ho 20 (by decide)).trans t20
  replace t21 := (ho 21 (by decide)).trans t21
  replace t159 := (ho 159 (by decide)).trans t159
  replace t160 := (ho 160 (by decide)).trans t160
  replace t161 := (ho 161 (by decide)).trans t161
  clear fr3 ho
  clear t160 t161
  refine take1 4 163 _ (.int .u64 p) #[true, true, true, true, true, false, false, false, false, false, false, false, false, false, false, false, false, false, false, false, false, false, false, false, false, false, false, false] l7_28_i4 l7_28_d4 (by decide) l7_28_s l7_28_f4 l7_28_r4 l7_28_g4 rfl hS0 fr4 ?_ ?_
  · intro wx hx; obtain ⟨h0, h1⟩ := hx; simp only [execOp, l7_28_o4]; go_simp
  intro a5 fr5 t163 ho
  replace t0 := (ho 0 (by decide)).trans t0
  replace t1 := (ho 1 (by decide)).trans t1
  replace t2 := (ho 2 (by decide)).trans t2
  replace t3 := (ho 3 (by decide)).trans t3
  replace t4 := (ho 4 (by decide)).trans t4
  replace t5 := (ho 5 (by decide)).trans t5
  replace t6 := (ho 6 (by decide)).trans t6
  replace t15 := (ho 15 (by decide)).trans t15
  replace t16 := (ho 16 (by decide)).trans t16
  replace t19 := (ho 19 (by decide)).trans t19
  replace t20 := (ho 20 (by decide)).trans t20
  replace t21 := (ho 21 (by decide)).trans t21
  replace t159 := (ho 159 (by decide)).trans t159
  replace t162 := (ho 162 (by decide)).trans t162
  clear fr4 ho
  clear t162
  refine take1 5 164 _ (.slice (some ⟨cb, 0, none⟩) K K) #[true, true, true, true, true, true, false, false, false, false, false, false, false, false, false, false, false, false, false, false, false, false, false, false, false, false, false, false] l7_28_i5 l7_28_d5 (by decide) l7_28_s l7_28_f5 l7_28_r5 l7_28_g5 rfl hS0 fr5 ?_ ?_
  · intro wx hx; obtain ⟨h0, h1⟩ := hx; simp only [execOp, l7_28_o5]; go_simp
  intro a6 fr6 t164 ho
  replace t0 := (ho 0 (by decide)).trans t0
  replace t1 := (ho 1 (by decide)).trans t1
  replace t2 := (ho 2 (by decide)).trans t2
  replace t3 := (ho 3 (by decide)).trans t3
  replace t4 := (ho 4 (by decide)).trans t4
  replace t5 := (ho 5 (by decide)).trans t5
  replace t6 := (ho 6 (by decide)).trans t6
  replace t15 := (ho 15 (by decide)).trans t15
  replace t16 := (ho 16 (by decide)).trans t16
  replace t19 := (ho 19 (by decide)).trans t19
  replace t20 := (ho 20 (by decide)).trans t20
  replace t21 := (ho 21 (by decide)).trans t21
  replace t159 := (ho 159 (by decide)).trans t159
  replace t163 := (ho 163 (by decide)).trans t163
  clear fr5 ho
  refine take1 6 165 _ (.int .i64 (k : Nat)) #[true, true, true, true, true, true, true, false, false, false, false, false, false, false, false, false, false, false, false, false, false, false, false, false, false, false, false, false] l7_28_i6 l7_28_d6 (by decide) l7_28_s l7_28_f6 l7_28_r6 l7_28_g6 rfl hS0 fr6 ?_ ?_
  · intro wx hx; obtain ⟨h0, h1⟩ := hx; simp only [execOp, l7_28_o6]; go_simp
  intro a7 fr7 t165 ho
  replace t0 := (ho 0 (by decide)).trans t0
  replace t1 := (ho 1 (by decide)).trans t1
  replace t2 := (ho 2 (by decide)).trans t2
  replace t3 := (ho 3 (by decide)).trans t3
  replace t4 := (ho 4 (by decide)).trans t4
  replace t5 := (ho 5 (by decide)).trans t5
  replace t6 := (ho 6 (by decide)).trans t6
  replace t15 := (ho 15 (by decide)).trans t15
  replace t16 := (ho 16 (by decide)).trans t16
  replace t19 := (ho 19 (by decide)).trans t19
  replace t20 := (ho 20 (by decide)).trans t20
  replace t21 := (ho 21 (by decide)).trans t21
  replace t159 := (ho 159 (by decide)).trans t159
  replace t163 := (ho 163 (by decide)).trans t163
  replace t164 := (ho 164 (by decide)).trans t164
  clear fr6 ho
  refine take1 7 166 _ (.pointer (some ⟨cb, k, none⟩)) #[true, true, true, true, true, true, true, true, false, false, false, false, false, false, false, false, false, false, false, false, false, false, false, false, false, false, false, false] l7_28_i7 l7_28_d7 (by decide) l7_28_s l7_28_f7 l7_28_r7 l7_28_g7 rfl hS0 fr7 ?_ ?_
  · intro wx hx; obtain ⟨h0, h1⟩ := hx; simp only [execOp, l7_28_o7]; go_simp
  intro a8 fr8 t166 ho
  replace t0 := (ho 0 (by decide)).trans t0
  replace t1 := (ho 1 (by decide)).trans t1
  replace t2 := (ho 2 (by decide)).trans t2
  replace t3 := (ho 3 (by decide)).trans t3
  replace t4 := (ho 4 (by decide)).trans t4
  replace t5 := (ho 5 (by decide)).trans t5
  replace t6 := (ho 6 (by decide)).trans t6
  replace t15 := (ho 15 (by decide)).trans t15
  replace t16 := (ho 16 (by decide)).trans t16
  replace t19 := (ho 19 (by decide)).trans t19
  replace t20 := (ho 20 (by decide)).trans t20
  replace t21 := (ho 21 (by decide)).trans t21
  replace t159 := (ho 159 (by decide)).trans t159
  replace t163 := (ho 163 (by decide)).trans t163
  replace t164 := (ho 164 (by decide)).trans t164
  replace t165 := (ho 165 (by decide)).trans t165
  clear fr7 ho
  clear t164 t165
  refine take1 8 167 _ (.int .i64 ck) #[true, true, true, true, true, true, true, true, true, false, false, false, false, false, false, false, false, false, false, false, false, false, false, false, false, false, false, false] l7_28_i8 l7_28_d8 (by decide) l7_28_s l7_28_f8 l7_28_r8 l7_28_g8 rfl hS0 fr8 ?_ ?_
  · intro wx hx; obtain ⟨h0, h1⟩ := hx; simp only [execOp, l7_28_o8]; go_simp
  intro a9 fr9 t167 ho
  replace t0 := (ho 0 (by decide)).trans t0
  replace t1 := (ho 1 (by decide)).trans t1
  replace t2 := (ho 2 (by decide)).trans t2
  replace t3 := (ho 3 (by decide)).trans t3
  replace t4 := (ho 4 (by decide)).trans t4
  replace t5 := (ho 5 (by decide)).trans t5
  replace t6 := (ho 6 (by decide)).trans t6
  replace t15 := (ho 15 (by decide)).trans t15
  replace t16 := (ho 16 (by decide)).trans t16
  replace t19 := (ho 19 (by decide)).trans t19
  replace t20 := (ho 20 (by decide)).trans t20
  replace t21 := (ho 21 (by decide)).trans t21
  replace t159 := (ho 159 (by decide)).trans t159
  replace t163 := (ho 163 (by decide)).trans t163
  replace t166 := (ho 166 (by decide)).trans t166
  clear fr8 ho
  clear t166
  refine take1 9 168 _ (.slice (some ⟨rb, 0, none⟩) I I) #[true, true, true, true, true, true, true, true, true, true, false, false, false, false, false, false, false, false, false, false, false, false, false, false, false, false, false, false] l7_28_i9 l7_28_d9 (by decide) l7_28_s l7_28_f9 l7_28_r9 l7_28_g9 rfl hS0 fr9 ?_ ?_
  · intro wx hx; obtain ⟨h0, h1⟩ := hx; simp only [execOp, l7_28_o9]; go_simp
  intro a10 fr10 t168 ho
  replace t0 := (ho 0 (by decide)).trans t0
  replace t1 := (ho 1 (by decide)).trans t1
  replace t2 := (ho 2 (by decide)).trans t2
  replace t3 := (ho 3 (by decide)).trans t3
  replace t4 := (ho 4 (by decide)).trans t4
  replace t5 := (ho 5 (by decide)).trans t5
  replace t6 := (ho 6 (by decide)).trans t6
  replace t15 := (ho 15 (by decide)).trans t15
  replace t16 := (ho 16 (by decide)).trans t16
  replace t19 := (ho 19 (by decide)).trans t19
  replace t20 := (ho 20 (by decide)).trans t20
  replace t21 := (ho 21 (by decide)).trans t21
  replace t159 := (ho 159 (by decide)).trans t159
  replace t163 := (ho 163 (by decide)).trans t163
  replace t167 := (ho 167 (by decide)).trans t167
  clear fr9 ho
  refine take1 10 169 _ (.int .i64 (k : Nat)) #[true, true, true, true, true, true, true, true, true, true, true, false, false, false, false, false, false, false, false, false, false, false, false, false, false, false, false, false] l7_28_i10 l7_28_d10 (by decide) l7_28_s l7_28_f10 l7_28_r10 l7_28_g10 rfl hS0 fr10 ?_ ?_
  · intro wx hx; obtain ⟨h0, h1⟩ := hx; simp only [execOp, l7_28_o10]; go_simp
  intro a11 fr11 t169 ho
  replace t0 := (ho 0 (by decide)).trans t0
  replace t1 := (ho 1 (by decide)).trans t1
  replace t2 := (ho 2 (by decide)).trans t2
  replace t3 := (ho 3 (by decide)).trans t3
  replace t4 := (ho 4 (by decide)).trans t4
  replace t5 := (ho 5 (by decide)).trans t5
  replace t6 := (ho 6 (by decide)).trans t6
  replace t15 := (ho 15 (by decide)).trans t15
  replace t16 := (ho 16 (by decide)).trans t16
  replace t19 := (ho 19 (by decide)).trans t19
  replace t20 := (ho 20 (by decide)).trans t20
  replace t21 := (ho 21 (by decide)).trans t21
  replace t159 := (ho 159 (by decide)).trans t159
  replace t163 := (ho 163 (by decide)).trans t163
  replace t167 := (ho 167 (by decide)).trans t167
  replace t168 := (ho 168 (by decide)).trans t168
  clear fr10 ho
  refine take1 11 170 _ (.int .i64 (m : Nat)) #[true, true, true, true, true, true, true, true, true, true, true, true, false, false, false, false, false, false, false, false, false, false, false, false, false, false, false, false] l7_28_i11 l7_28_d11 (by decide) l7_28_s l7_28_f11 l7_28_r11 l7_28_g11 rfl hS0 fr11 ?_ ?_
  · intro wx hx; obtain ⟨h0, h1⟩ := hx; simp only [execOp, l7_28_o11]; go_simp
  intro a12 fr12 t170 ho
  replace t0 := (ho 0 (by decide)).trans t0
  replace t1 := (ho 1 (by decide)).trans t1
  replace t2 := (ho 2 (by decide)).trans t2
  replace t3 := (ho 3 (by decide)).trans t3
  replace t4 := (ho 4 (by decide)).trans t4
  replace t5 := (ho 5 (by decide)).trans t5
  replace t6 := (ho 6 (by decide)).trans t6
  replace t15 := (ho 15 (by decide)).trans t15
  replace t16 := (ho 16 (by decide)).trans t16
  replace t19 := (ho 19 (by decide)).trans t19
  replace t20 := (ho 20 (by decide)).trans t20
  replace t21 := (ho 21 (by decide)).trans t21
  replace t159 := (ho 159 (by decide)).trans t159
  replace t163 := (ho 163 (by decide)).trans t163
  replace t167 := (ho 167 (by decide)).trans t167
  replace t168 := (ho 168 (by decide)).trans t168
  replace t169 := (ho 169 (by decide)).trans t169
  clear fr11 ho
  refine take1 12 171 _ (.int .i64 (lo : Nat)) #[true, true, true, true, true, true, true, true, true, true, true, true, true, false, false, false, false, false, false, false, false, false, false, false, false, false, false, false] l7_28_i12 l7_28_d12 (by decide) l7_28_s l7_28_f12 l7_28_r12 l7_28_g12 rfl hS0 fr12 ?_ ?_
  · intro wx hx; obtain ⟨h0, h1⟩ := hx; simp only [execOp, l7_28_o12]; go_simp
  intro a13 fr13 t171 ho
  replace t0 := (ho 0 (by decide)).trans t0
  replace t1 := (ho 1 (by decide)).trans t1
  replace t2 := (ho 2 (by decide)).trans t2
  replace t3 := (ho 3 (by decide)).trans t3
  replace t4 := (ho 4 (by decide)).trans t4
  replace t5 := (ho 5 (by decide)).trans t5
  replace t6 := (ho 6 (by decide)).trans t6
  replace t15 := (ho 15 (by decide)).trans t15
  replace t16 := (ho 16 (by decide)).trans t16
  replace t19 := (ho 19 (by decide)).trans t19
  replace t20 := (ho 20 (by decide)).trans t20
  replace t21 := (ho 21 (by decide)).trans t21
  replace t159 := (ho 159 (by decide)).trans t159
  replace t163 := (ho 163 (by decide)).trans t163
  replace t167 := (ho 167 (by decide)).trans t167
  replace t168 := (ho 168 (by decide)).trans t168
  replace t169 := (ho 169 (by decide)).trans t169
  replace t170 := (ho 170 (by decide)).trans t170
  clear fr12 ho
  clear t169 t170
  refine take1 13 172 _ (.int .i64 (k : Nat)) #[true, true, true, true, true, true, true, true, true, true, true, true, true, true, false, false, false, false, false, false, false, false, false, false, false, false, false, false] l7_28_i13 l7_28_d13 (by decide) l7_28_s l7_28_f13 l7_28_r13 l7_28_g13 rfl hS0 fr13 ?_ ?_
  · intro wx hx; obtain ⟨h0, h1⟩ := hx; simp only [execOp, l7_28_o13]; go_simp
  intro a14 fr14 t172 ho
  replace t0 := (ho 0 (by decide)).trans t0
  replace t1 := (ho 1 (by decide)).trans t1
  replace t2 := (ho 2 (by decide)).trans t2
  replace t3 := (ho 3 (by decide)).trans t3
  replace t4 := (ho 4 (by decide)).trans t4
  replace t5 := (ho 5 (by decide)).trans t5
  replace t6 := (ho 6 (by decide)).trans t6
  replace t15 := (ho 15 (by decide)).trans t15
  replace t16 := (ho 16 (by decide)).trans t16
  replace t19 := (ho 19 (by decide)).trans t19
  replace t20 := (ho 20 (by decide)).trans t20
  replace t21 := (ho 21 (by decide)).trans t21
  replace t159 := (ho 159 (by decide)).trans t159
  replace t163 := (ho 163 (by decide)).trans t163
  replace t167 := (ho 167 (by decide)).trans t167
  replace t168 := (ho 168 (by decide)).trans t168
  replace t171 := (ho 171 (by decide)).trans t171
  clear fr13 ho
  refine take1 14 173 _ (.int .i64 ((k : Nat) + 1)) #[true, true, true, true, true, true, true, true, true, true, true, true, true, true, true, false, false, false, false, false, false, false, false, false, false, false, false, false] l7_28_i14 l7_28_d14 (by decide) l7_28_s l7_28_f14 l7_28_r14 l7_28_g14 rfl hS0 fr14 ?_ ?_
  · intro wx hx; obtain ⟨h0, h1⟩ := hx; simp only [execOp, l7_28_o14]; go_simp
  intro a15 fr15 t173 ho
  replace t0 := (ho 0 (by decide)).trans t0
  replace t1 := (ho 1 (by decide)).trans t1
  replace t2 := (ho 2 (by decide)).trans t2
  replace t3 := (ho 3 (by decide)).trans t3
  replace t4 := (ho 4 (by decide)).trans t4
  replace t5 := (ho 5 (by decide)).trans t5
  replace t6 := (ho 6 (by decide)).trans t6
  replace t15 := (ho 15 (by decide)).trans t15
  replace t16 := (ho 16 (by decide)).trans t16
  replace t19 := (ho 19 (by decide)).trans t19
  replace t20 := (ho 20 (by decide)).trans t20
  replace t21 := (ho 21 (by decide)).trans t21
  replace t159 := (ho 159 (by decide)).trans t159
  replace t163 := (ho 163 (by decide)).trans t163
  replace t167 := (ho 167 (by decide)).trans t167
  replace t168 := (ho 168 (by decide)).trans t168
  replace t171 := (ho 171 (by decide)).trans t171
  replace t172 := (ho 172 (by decide)).trans t172
  clear fr14 ho
  clear t172
  refine take1 15 174 _ (.int .i64 (m : Nat)) #[true, true, true, true, true, true, true, true, true, true, true, true, true, true, true, true, false, false, false, false, false, false, false, false, false, false, false, false] l7_28_i15 l7_28_d15 (by decide) l7_28_s l7_28_f15 l7_28_r15 l7_28_g15 rfl hS0 fr15 ?_ ?_
  · intro wx hx; obtain ⟨h0, h1⟩ := hx; simp only [execOp, l7_28_o15]; go_simp
  intro a16 fr16 t174 ho
  replace t0 := (ho 0 (by decide)).trans t0
  replace t1 := (ho 1 (by decide)).trans t1
  replace t2 := (ho 2 (by decide)).trans t2
  replace t3 := (ho 3 (by decide)).trans t3
  replace t4 := (ho 4 (by decide)).trans t4
  replace t5 := (ho 5 (by decide)).trans t5
  replace t6 := (ho 6 (by decide)).trans t6
  replace t15 := (ho 15 (by decide)).trans t15
  replace t16 := (ho 16 (by decide)).trans t16
  replace t19 := (ho 19 (by decide)).trans t19
  replace t20 := (ho 20 (by decide)).trans t20
  replace t21 := (ho 21 (by decide)).trans t21
  replace t159 := (ho 159 (by decide)).trans t159
  replace t163 := (ho 163 (by decide)).trans t163
  replace t167 := (ho 167 (by decide)).trans t167
  replace t168 := (ho 168 (by decide)).trans t168
  replace t171 := (ho 171 (by decide)).trans t171
  replace t173 := (ho 173 (by decide)).trans t173
  clear fr15 ho
  refine take1 16 175 _ (.int .i64 (hi : Nat)) #[true, true, true, true, true, true, true, true, true, true, true, true, true, true, true, true, true, false, false, false, false, false, false, false, false, false, false, false] l7_28_i16 l7_28_d16 (by decide) l7_28_s l7_28_f16 l7_28_r16 l7_28_g16 rfl hS0 fr16 ?_ ?_
  · intro wx hx; obtain ⟨h0, h1⟩ := hx; simp only [execOp, l7_28_o16]; go_simp
  intro a17 fr17 t175 ho
  replace t0 := (ho 0 (by decide)).trans t0
  replace t1 := (ho 1 (by decide)).trans t1
  replace t2 := (ho 2 (by decide)).trans t2
  replace t3 := (ho 3 (by decide)).trans t3
  replace t4 := (ho 4 (by decide)).trans t4
  replace t5 := (ho 5 (by decide)).trans t5
  replace t6 := (ho 6 (by decide)).trans t6
  replace t15 := (ho 15 (by decide)).trans t15
  replace t16 := (ho 16 (by decide)).trans t16
  replace t19 := (ho 19 (by decide)).trans t19
  replace t20 := (ho 20 (by decide)).trans t20
  replace t21 := (ho 21 (by decide)).trans t21
  replace t159 := (ho 159 (by decide)).trans t159
  replace t163 := (ho 163 (by decide)).trans t163
  replace t167 := (ho 167 (by decide)).trans t167
  replace t168 := (ho 168 (by decide)).trans t168
  replace t171 := (ho 171 (by decide)).trans t171
  replace t173 := (ho 173 (by decide)).trans t173
  replace t174 := (ho 174 (by decide)).trans t174
  clear fr16 ho
  clear t173 t174
  refine take1 17 176 _ (.slice (some ⟨rb, lo, none⟩) (hi - lo) (I - lo)) #[true, true, true, true, true, true, true, true, true, true, true, true, true, true, true, true, true, true, false, false, false, false, false, false, false, false, false, false] l7_28_i17 l7_28_d17 (by decide) l7_28_s l7_28_f17 l7_28_r17 l7_28_g17 rfl hS0 fr17 ?_ ?_
  · intro wx hx; obtain ⟨h0, h1⟩ := hx; simp only [execOp, l7_28_o17]; go_simp
  intro a18 fr18 t176 ho
  replace t0 := (ho 0 (by decide)).trans t0
  replace t1 := (ho 1 (by decide)).trans t1
  replace t2 := (ho 2 (by decide)).trans t2
  replace t3 := (ho 3 (by decide)).trans t3
  replace t4 := (ho 4 (by decide)).trans t4
  replace t5 := (ho 5 (by decide)).trans t5
  replace t6 := (ho 6 (by decide)).trans t6
  replace t15 := (ho 15 (by decide)).trans t15
  replace t16 := (ho 16 (by decide)).trans t16
  replace t19 := (ho 19 (by decide)).trans t19
  replace t20 := (ho 20 (by decide)).trans t20
  replace t21 := (ho 21 (by decide)).trans t21
  replace t159 := (ho 159 (by decide)).trans t159
  replace t163 := (ho 163 (by decide)).trans t163
  replace t167 := (ho 167 (by decide)).trans t167
  replace t168 := (ho 168 (by decide)).trans t168
  replace t171 := (ho 171 (by decide)).trans t171
  replace t175 := (ho 175 (by decide)).trans t175
  clear fr17 ho
  clear t168 t171 t175
  refine take1 18 177 _ (.slice (some ⟨ib, 0, none⟩) I I) #[true, true, true, true, true, true, true, true, true, true, true, true, true, true, true, true, true, true, true, false, false, false, false, false, false, false, false, false] l7_28_i18 l7_28_d18 (by decide) l7_28_s l7_28_f18 l7_28_r18 l7_28_g18 rfl hS0 fr18 ?_ ?_
  · intro wx hx; obtain ⟨h0, h1⟩ := hx; simp only [execOp, l7_28_o18]; go_simp
  intro a19 fr19 t177 ho
  replace t0 := (ho 0 (by decide)).trans t0
  replace t1 := (ho 1 (by decide)).trans t1
  replace t2 := (ho 2 (by decide)).trans t2
  replace t3 := (ho 3 (by decide)).trans t3
  replace t4 := (ho 4 (by decide)).trans t4
  replace t5 := (ho 5 (by decide)).trans t5
  replace t6 := (ho 6 (by decide)).trans t6
  replace t15 := (ho 15 (by decide)).trans t15
  replace t16 := (ho 16 (by decide)).trans t16
  replace t19 := (ho 19 (by decide)).trans t19
  replace t20 := (ho 20 (by decide)).trans t20
  replace t21 := (ho 21 (by decide)).trans t21
  replace t159 := (ho 159 (by decide)).trans t159
  replace t163 := (ho 163 (by decide)).trans t163
  replace t167 := (ho 167 (by decide)).trans t167
  replace t176 := (ho 176 (by decide)).trans t176
  clear fr18 ho
  refine take1 19 178 _ (.int .i64 (k : Nat)) #[true, true, true, true, true, true, true, true, true, true, true, true, true, true, true, true, true, true, true, true, false, false, false, false, false, false, false, false] l7_28_i19 l7_28_d19 (by decide) l7_28_s l7_28_f19 l7_28_r19 l7_28_g19 rfl hS0 fr19 ?_ ?_
  · intro wx hx; obtain ⟨h0, h1⟩ := hx; simp only [execOp, l7_28_o19]; go_simp
  intro a20 fr20 t178 ho
  replace t0 := (ho 0 (by decide)).trans t0
  replace t1 := (ho 1 (by decide)).trans t1
  replace t2 := (ho 2 (by decide)).trans t2
  replace t3 := (ho 3 (by decide)).trans t3
  replace t4 := (ho 4 (by decide)).trans t4
  replace t5 := (ho 5 (by decide)).trans t5
  replace t6 := (ho 6 (by decide)).trans t6
  replace t15 := (ho 15 (by decide)).trans t15
  replace t16 := (ho 16 (by decide)).trans t16
  replace t19 := (ho 19 (by decide)).trans t19
  replace t20 := (ho 20 (by decide)).trans t20
  replace t21 := (ho 21 (by decide)).trans t21
  replace t159 := (ho 159 (by decide)).trans t159
  replace t163 := (ho 163 (by decide)).trans t163
  replace t167 := (ho 167 (by decide)).trans t167
  replace t176 := (ho 176 (by decide)).trans t176
  replace t177 := (ho 177 (by decide)).trans t177
  clear fr19 ho
  refine take1 20 179 _ (.int .i64 (m : Nat)) #[true, true, true, true, true, true, true, true, true, true, true, true, true, true, true, true, true, true, true, true, true, false, false, false, false, false, false, false] l7_28_i20 l7_28_d20 (by decide) l7_28_s l7_28_f20 l7_28_r20 l7_28_g20 rfl hS0 fr20 ?_ ?_
  · intro wx hx; obtain ⟨h0, h1⟩ := hx; simp only [execOp, l7_28_o20]; go_simp
  intro a21 fr21 t179 ho
  replace t0 := (ho 0 (by decide)).trans t0
  replace t1 := (ho 1 (by decide)).trans t1
  replace t2 := (ho 2 (by decide)).trans t2
  replace t3 := (ho 3 (by decide)).trans t3
  replace t4 := (ho 4 (by decide)).trans t4
  replace t5 := (ho 5 (by decide)).trans t5
  replace t6 := (ho 6 (by decide)).trans t6
  replace t15 := (ho 15 (by decide)).trans t15
  replace t16 := (ho 16 (by decide)).trans t16
  replace t19 := (ho 19 (by decide)).trans t19
  replace t20 := (ho 20 (by decide)).trans t20
  replace t21 := (ho 21 (by decide)).trans t21
  replace t159 := (ho 159 (by decide)).trans t159
  replace t163 := (ho 163 (by decide)).trans t163
  replace t167 := (ho 167 (by decide)).trans t167
  replace t176 := (ho 176 (by decide)).trans t176
  replace t177 := (ho 177 (by decide)).trans t177
  replace t178 := (ho 178 (by decide)).trans t178
  clear fr20 ho
  refine take1 21 180 _ (.int .i64 (lo : Nat)) #[true, true, true, true, true, true, true, true, true, true, true, true, true, true, true, true, true, true, true, true, true, true, false, false, false, false, false, false] l7_28_i21 l7_28_d21 (by decide) l7_28_s l7_28_f21 l7_28_r21 l7_28_g21 rfl hS0 fr21 ?_ ?_
  · intro wx hx; obtain ⟨h0, h1⟩ := hx; simp only [execOp, l7_28_o21]; go_simp
  intro a22 fr22 t180 ho
  replace t0 := (ho 0 (by decide)).trans t0
  replace t1 := (ho 1 (by decide)).trans t1
  replace t2 := (ho 2 (by decide)).trans t2
  replace t3 := (ho 3 (by decide)).trans t3
  replace t4 := (ho 4 (by decide)).trans t4
  replace t5 := (ho 5 (by decide)).trans t5
  replace t6 := (ho 6 (by decide)).trans t6
  replace t15 := (ho 15 (by decide)).trans t15
  replace t16 := (ho 16 (by decide)).trans t16
  replace t19 := (ho 19 (by decide)).trans t19
  replace t20 := (ho 20 (by decide)).trans t20
  replace t21 := (ho 21 (by decide)).trans t21
  replace t159 := (ho 159 (by decide)).trans t159
  replace t163 := (ho 163 (by decide)).trans t163
  replace t167 := (ho 167 (by decide)).trans t167
  replace t176 := (ho 176 (by decide)).trans t176
  replace t177 := (ho 177 (by decide)).trans t177
  replace t178 := (ho 178 (by decide)).trans t178
  replace t179 := (ho 179 (by decide)).trans t179
  clear fr21 ho
  clear t178 t179
  refine take1 22 181 _ (.int .i64 (k : Nat)) #[true, true, true, true, true, true, true, true, true, true, true, true, true, true, true, true, true, true, true, true, true, true, true, false, false, false, false, false] l7_28_i22 l7_28_d22 (by decide) l7_28_s l7_28_f22 l7_28_r22 l7_28_g22 rfl hS0 fr22 ?_ ?_
  · intro wx hx; obtain ⟨h0, h1⟩ := hx; simp only [execOp, l7_28_o22]; go_simp
  intro a23 fr23 t181 ho
  replace t0 := (ho 0 (by decide)).trans t0
  replace t1 := (ho 1 (by decide)).trans t1
  replace t2 := (ho 2 (by decide)).trans t2
  replace t3 := (ho 3 (by decide)).trans t3
  replace t4 := (ho 4 (by decide)).trans t4
  replace t5 := (ho 5 (by decide)).trans t5
  replace t6 := (ho 6 (by decide)).trans t6
  replace t15 := (ho 15 (by decide)).trans t15
  replace t16 := (ho 16 (by decide)).trans t16
  replace t19 := (ho 19 (by decide)).trans t19
  replace t20 := (ho 20 (by decide)).trans t20
  replace t21 := (ho 21 (by decide)).trans t21
  replace t159 := (ho 159 (by decide)).trans t159
  replace t163 := (ho 163 (by decide)).trans t163
  replace t167 := (ho 167 (by decide)).trans t167
  replace t176 := (ho 176 (by decide)).trans t176
  replace t177 := (ho 177 (by decide)).trans t177
  replace t180 := (ho 180 (by decide)).trans t180
  clear fr22 ho
  refine take1 23 182 _ (.int .i64 ((k : Nat) + 1)) #[true, true, true, true, true, true, true, true, true, true, true, true, true, true, true, true, true, true, true, true, true, true, true, true, false, false, false, false] l7_28_i23 l7_28_d23 (by decide) l7_28_s l7_28_f23 l7_28_r23 l7_28_g23 rfl hS0 fr23 ?_ ?_
  · intro wx hx; obtain ⟨h0, h1⟩ := hx; simp only [execOp, l7_28_o23]; go_simp
  intro a24 fr24 t182 ho
  replace t0 := (ho 0 (by decide)).trans t0
  replace t1 := (ho 1 (by decide)).trans t1
  replace t2 := (ho 2 (by decide)).trans t2
  replace t3 := (ho 3 (by decide)).trans t3
  replace t4 := (ho 4 (by decide)).trans t4
  replace t5 := (ho 5 (by decide)).trans t5
  replace t6 := (ho 6 (by decide)).trans t6
  replace t15 := (ho 15 (by decide)).trans t15
  replace t16 := (ho 16 (by decide)).trans t16
  replace t19 := (ho 19 (by decide)).trans t19
  replace t20 := (ho 20 (by decide)).trans t20
  replace t21 := (ho 21 (by decide)).trans t21
  replace t159 := (ho 159 (by decide)).trans t159
  replace t163 := (ho 163 (by decide)).trans t163
  replace t167 := (ho 167 (by decide)).trans t167
  replace t176 := (ho 176 (by decide)).trans t176
  replace t177 := (ho 177 (by decide)).trans t177
  replace t180 := (ho 180 (by decide)).trans t180
  replace t181 := (ho 181 (by decide)).trans t181
  clear fr23 ho
  clear t181
  refine take1 24 183 _ (.int .i64 (m : Nat)) #[true, true, true, true, true, true, true, true, true, true, true, true, true, true, true, true, true, true, true, true, true, true, true, true, true, false, false, false] l7_28_i24 l7_28_d24 (by decide) l7_28_s l7_28_f24 l7_28_r24 l7_28_g24 rfl hS0 fr24 ?_ ?_
  · intro wx hx; obtain ⟨h0, h1⟩ := hx; simp only [execOp, l7_28_o24]; go_simp
  intro a25 fr25 t183 ho
  replace t0 := (ho 0 (by decide)).trans t0
  replace t1 := (ho 1 (by decide)).trans t1
  replace t2 := (ho 2 (by decide)).trans t2
  replace t3 := (ho 3 (by decide)).trans t3
  replace t4 := (ho 4 (by decide)).trans t4
  replace t5 := (ho 5 (by decide)).trans t5
  replace t6 := (ho 6 (by decide)).trans t6
  replace t15 := (ho 15 (by decide)).trans t15
  replace t16 := (ho 16 (by decide)).trans t16
  replace t19 := (ho 19 (by decide)).trans t19
  replace t20 := (ho 20 (by decide)).trans t20
  replace t21 := (ho 21 (by decide)).trans t21
  replace t159 := (ho 159 (by decide)).trans t159
  replace t163 := (ho 163 (by decide)).trans t163
  replace t167 := (ho 167 (by decide)).trans t167
  replace t176 := (ho 176 (by decide)).trans t176
  replace t177 := (ho 177 (by decide)).trans t177
  replace t180 := (ho 180 (by decide)).trans t180
  replace t182 := (ho 182 (by decide)).trans t182
  clear fr24 ho
  refine take1 25 184 _ (.int .i64 (hi : Nat)) #[true, true, true, true, true, true, true, true, true, true, true, true, true, true, true, true, true, true, true, true, true, true, true, true, true, true, false, false] l7_28_i25 l7_28_d25 (by decide) l7_28_s l7_28_f25 l7_28_r25 l7_28_g25 rfl hS0 fr25 ?_ ?_
  · intro wx hx; obtain ⟨h0, h1⟩ := hx; simp only [execOp, l7_28_o25]; go_simp
  intro a26 fr26 t184 ho
  replace t0 := (ho 0 (by decide)).trans t0
  replace t1 := (ho 1 (by decide)).trans t1
  replace t2 := (ho 2 (by decide)).trans t2
  replace t3 := (ho 3 (by decide)).trans t3
  replace t4 := (ho 4 (by decide)).trans t4
  replace t5 := (ho 5 (by decide)).trans t5
  replace t6 := (ho 6 (by decide)).trans t6
  replace t15 := (ho 15 (by decide)).trans t15
  replace t16 := (ho 16 (by decide)).trans t16
  replace t19 := (ho 19 (by decide)).trans t19
  replace t20 := (ho 20 (by decide)).trans t20
  replace t21 := (ho 21 (by decide)).trans t21
  replace t159 := (ho 159 (by decide)).trans t159
  replace t163 := (ho 163 (by decide)).trans t163
  replace t167 := (ho 167 (by decide)).trans t167
  replace t176 := (ho 176 (by decide)).trans t176
  replace t177 := (ho 177 (by decide)).trans t177
  replace t180 := (ho 180 (by decide)).trans t180
  replace t182 := (ho 182 (by decide)).trans t182
  replace t183 := (ho 183 (by decide)).trans t183
  clear fr25 ho
  clear t182 t183
  refine take1 26 185 _ (.slice (some ⟨ib, lo, none⟩) (hi - lo) (I - lo)) #[true, true, true, true, true, true, true, true, true, true, true, true, true, true, true, true, true, true, true, true, true, true, true, true, true, true, true, false] l7_28_i26 l7_28_d26 (by decide) l7_28_s l7_28_f26 l7_28_r26 l7_28_g26 rfl hS0 fr26 ?_ ?_
  · intro wx hx; obtain ⟨h0, h1⟩ := hx; simp only [execOp, l7_28_o26]; go_simp
  intro a27 fr27 t185 ho
  replace t0 := (ho 0 (by decide)).trans t0
  replace t1 := (ho 1 (by decide)).trans t1
  replace t2 := (ho 2 (by decide)).trans t2
  replace t3 := (ho 3 (by decide)).trans t3
  replace t4 := (ho 4 (by decide)).trans t4
  replace t5 := (ho 5 (by decide)).trans t5
  replace t6 := (ho 6 (by decide)).trans t6
  replace t15 := (ho 15 (by decide)).trans t15
  replace t16 := (ho 16 (by decide)).trans t16
  replace t19 := (ho 19 (by decide)).trans t19
  replace t20 := (ho 20 (by decide)).trans t20
  replace t21 := (ho 21 (by decide)).trans t21
  replace t159 := (ho 159 (by decide)).trans t159
  replace t163 := (ho 163 (by decide)).trans t163
  replace t167 := (ho 167 (by decide)).trans t167
  replace t176 := (ho 176 (by decide)).trans t176
  replace t177 := (ho 177 (by decide)).trans t177
  replace t180 := (ho 180 (by decide)).trans t180
  replace t184 := (ho 184 (by decide)).trans t184
  clear fr26 ho
  clear t177 t180 t184
  refine only1 27 l7_28_r27 (actC 27 186 _ (.tuple #[]) 27 #[.pointer (some ⟨b1, 0, none⟩), .int .u64 p, .int .i64 ck, .slice (some ⟨rb, lo, none⟩) (hi - lo) (I - lo), .slice (some ⟨ib, lo, none⟩) (hi - lo) (I - lo)] G #[true, true, true, true, true, true, true, true, true, true, true, true, true, true, true, true, true, true, true, true, true, true, true, true, true, true, true, true] l7_28_i27 l7_28_d27 (by decide) l7_28_g27 rfl fr27 ?_ hcall ?_)
  · simp only [execOp, l7_28_o27]; clear hcall; go_simp
  intro aE wE hG frE tE ho
  replace t0 := (ho 0 (by decide)).trans t0
  replace t1 := (ho 1 (by decide)).trans t1
  replace t2 := (ho 2 (by decide)).trans t2
  replace t3 := (ho 3 (by decide)).trans t3
  replace t4 := (ho 4 (by decide)).trans t4
  replace t5 := (ho 5 (by decide)).trans t5
  replace t6 := (ho 6 (by decide)).trans t6
  replace t15 := (ho 15 (by decide)).trans t15
  replace t16 := (ho 16 (by decide)).trans t16
  replace t19 := (ho 19 (by decide)).trans t19
  replace t20 := (ho 20 (by decide)).trans t20
  replace t21 := (ho 21 (by decide)).trans t21
  refine wpAnyH_done l7_28_e ?_ _
  exact ⟨hG, frE, (sl_at _ _).trans t0, (sl_at _ _).trans t1, (sl_at _ _).trans t2, (sl_at _ _).trans t3, (sl_at _ _).trans t4, (sl_at _ _).trans t5, (sl_at _ _).trans t6, (sl_at _ _).trans t15, (sl_at _ _).trans t16, (sl_at _ _).trans t19, (sl_at _ _).trans t20, (sl_at _ _).trans t21, trivial⟩

set_option maxRecDepth 10000 in
set_option maxHeartbeats 1000000 in
theorem l7_28z (kap st : Int) (K pb cb b1 b2 k : Nat) (x5 x6 x15 x16 : Option Addr) (p ck : Int) (G : World → Prop) (a : Act) (w : World) (Q : Exit → Act → World → Prop) (hfr : Fr 282 a) (hs : Slots [(0, .int .i64 kap), (1, .int .u32 st), (2, .int .i64 0), (3, .slice (some ⟨pb, 0, none⟩) K K), (4, .slice (some ⟨cb, 0, none⟩) K K), (5, .slice x5 0 0), (6, .slice x6 0 0), (15, .slice x15 0 0), (16, .slice x16 0 0), (19, .pointer (some ⟨b1, 0, none⟩)), (20, .pointer (some ⟨b2, 0, none⟩)), (21, .int .i64 (k : Nat))] a)
    (hw0 : IntKind.i64.wrap 0 = 0) (hk1 : IntKind.i64.wrap ((k : Int) + 1) = (k : Int) + 1) (lk : (k : Int) < K)
    (cp : w.cell? ⟨pb, k, none⟩ = some (.int .u64 p)) (cc : w.cell? ⟨cb, k, none⟩ = some (.int .i64 ck))
    (hcall : Calls Try.prog 27 #[.pointer (some ⟨b1, 0, none⟩), .int .u64 p, .int .i64 ck, .slice x5 0 0, .slice x6 0 0] w.drew fun e w' => e = .returned (.tuple #[]) ∧ (fun w' : World => w'.cell? ⟨pb, k, none⟩ = some (.int .u64 p) ∧ w'.cell? ⟨cb, k, none⟩ = some (.int .i64 ck)) w' ∧ G w')
    (hQ : ∀ a' w', G w' → Fr 282 a' → Slots [(0, .int .i64 kap), (1, .int .u32 st), (2, .int .i64 0), (3, .slice (some ⟨pb, 0, none⟩) K K), (4, .slice (some ⟨cb, 0, none⟩) K K), (5, .slice x5 0 0), (6, .slice x6 0 0), (15, .slice x15 0 0), (16, .slice x16 0 0), (19, .pointer (some ⟨b1, 0, none⟩)), (20, .pointer (some ⟨b2, 0, none⟩)), (21, .int .i64 (k : Nat))] a' → Q .normal a' w') :
    Code.wp Try.prog (hdC (inC (hdC (tlC (inC (inC (tlC (nthC 14 (bodyC Try.f7))))))))) Q a w := by
  obtain ⟨t0, t1, t2, t3, t4, t5, t6, t15, t16, t19, t20, t21, -⟩ := hs
  replace t0 : a.tmps[0]?.getD undef = .int .i64 kap := (sl_at a 0).symm.trans t0
  replace t1 : a.tmps[1]?.getD undef = .int .u32 st := (sl_at a 1).symm.trans t1
  replace t2 : a.tmps[2]?.getD undef = .int .i64 0 := (sl_at a 2).symm.trans t2
  replace t3 : a.tmps[3]?.getD undef = .slice (some ⟨pb, 0, none⟩) K K := (sl_at a 3).symm.trans t3
  replace t4 : a.tmps[4]?.getD undef = .slice (some ⟨cb, 0, none⟩) K K := (sl_at a 4).symm.trans t4
  replace t5 : a.tmps[5]?.getD undef = .slice x5 0 0 := (sl_at a 5).symm.trans t5
  replace t6 : a.tmps[6]?.getD undef = .slice x6 0 0 := (sl_at a 6).symm.trans t6
  replace t15 : a.tmps[15]?.getD undef = .slice x15 0 0 := (sl_at a 15).symm.trans t15
  replace t16 : a.tmps[16]?.getD undef = .slice x16 0 0 := (sl_at a 16).symm.trans t16
  replace t19 : a.tmps[19]?.getD undef = .pointer (some ⟨b1, 0, none⟩) := (sl_at a 19).symm.trans t19
  replace t20 : a.tmps[20]?.getD undef = .pointer (some ⟨b2, 0, none⟩) := (sl_at a 20).symm.trans t20
  replace t21 : a.tmps[21]?.getD undef = .int .i64 (k : Nat) := (sl_at a 21).symm.trans t21
  have hS0 : (fun w' : World => w'.cell? ⟨pb, k, none⟩ = some (.int .u64 p) ∧ w'.cell? ⟨cb, k, none⟩ = some (.int .i64 ck)) w.drew := ⟨cp, cc⟩
  refine wp_navR (fun w' : World => w'.cell? ⟨pb, k, none⟩ = some (.int .u64 p) ∧ w'.cell? ⟨cb, k, none⟩ = some (.int .i64 ck)) (fun a' w' => G w' ∧ Fr 282 a' ∧ Slots [(0, .int .i64 kap), (1, .int .u32 st), (2, .int .i64 0), (3, .slice (some ⟨pb, 0, none⟩) K K), (4, .slice (some ⟨cb, 0, none⟩) K K), (5, .slice x5 0 0), (6, .slice x6 0 0), (15, .slice x15 0 0), (16, .slice x16 0 0), (19, .pointer (some ⟨b1, 0, none⟩)), (20, .pointer (some ⟨b2, 0, none⟩)), (21, .int .i64 (k : Nat))] a') 28 #[false, false, false, false, false, false, false, false, false, false, false, false, false, false, false, false, false, false, false, false, false, false, false, false, false, false, false, false] (by kernel_rfl) (by kernel_rfl) (by kernel_rfl) rfl ?_ (fun a' w' ⟨h1, h2, h3⟩ => hQ a' w' h1 h2 h3)
  clear hQ
  refine take1 0 159 _ (.pointer (some ⟨b1, 0, none⟩)) #[true, false, false, false, false, false, false, false, false, false, false, false, false, false, false, false, false, false, false, false, false, false, false, false, false, false, false, false] l7_28_i0 l7_28_d0 (by decide) l7_28_s l7_28_f0 l7_28_r0 l7_28_g0 rfl hS0 hfr ?_ ?_
  · intro wx hx; obtain ⟨h0, h1⟩ := hx; simp only [execOp, l7_28_o0]; go_simp
  intro a1 fr1 t159 ho
  replace t0 := (ho 0 (by decide)).trans t0
  replace t1 := (ho 1 (by decide)).trans t1
  replace t2 := (ho 2 (by decide)).trans t2
  replace t3 := (ho 3 (by decide)).trans t3
  replace t4 := (ho 4 (by decide)).trans t4
  replace t5 := (ho 5 (by decide)).trans t5
  replace t6 := (ho 6 (by decide)).trans t6
  replace t15 := (ho 15 (by decide)).trans t15
  replace t16 := (ho 16 (by decide)).trans t16
  replace t19 := (ho 19 (by decide)).trans t19
  replace t20 := (ho 20 (by decide)).trans t20
  replace t21 := (ho 21 (by decide)).trans t21
  clear hfr ho
  refine take1 1 160 _ (.slice (some ⟨pb, 0, none⟩) K K) #[true, true, false, false, false, false, false, false, false, false, false, false, false, false, false, false, false, false, false, false, false, false, false, false, false, false, false, false] l7_28_i1 l7_28_d1 (by decide) l7_28_s l7_28_f1 l7_28_r1 l7_28_g1 rfl hS0 fr1 ?_ ?_
  · intro wx hx; obtain ⟨h0, h1⟩ := hx; simp only [execOp, l7_28_o1]; go_simp
  intro a2 fr2 t160 ho
  replace t0 := (ho 0 (by decide)).trans t0
  replace t1 := (ho 1 (by decide)).trans t1
  replace t2 := (ho 2 (by decide)).trans t2
  replace t3 := (ho 3 (by decide)).trans t3
  replace t4 := (ho 4 (by decide)).trans t4
  replace t5 := (ho 5 (by decide)).trans t5
  replace t6 := (ho 6 (by decide)).trans t6
  replace t15 := (ho 15 (by decide)).trans t15
  replace t16 := (ho 16 (by decide)).trans t16
  replace t19 := (ho 19 (by decide)).trans t19
  replace t20 := (ho 20 (by decide)).trans t20
  replace t21 := (ho 21 (by decide)).trans t21
  replace t159 := (ho 159 (by decide)).trans t159
  clear fr1 ho
  refine take1 2 161 _ (.int .i64 (k : Nat)) #[true, true, true, false, false, false, false, false, false, false, false, false, false, false, false, false, false, false, false, false, false, false, false, false, false, false, false, false] l7_28_i2 l7_28_d2 (by decide) l7_28_s l7_28_f2 l7_28_r2 l7_28_g2 rfl hS0 fr2 ?_ ?_
  · intro wx hx; obtain ⟨h0, h1⟩ := hx; simp only [execOp, l7_28_o2]; go_simp
  intro a3 fr3 t161 ho
  replace t0 := (ho 0 (by decide)).trans t0
  replace t1 := (ho 1 (by decide)).trans t1
  replace t2 := (ho 2 (by decide)).trans t2
  replace t3 := (ho 3 (by decide)).trans t3
  replace t4 := (ho 4 (by decide)).trans t4
  replace t5 := (ho 5 (by decide)).trans t5
  replace t6 := (ho 6 (by decide)).trans t6
  replace t15 := (ho 15 (by decide)).trans t15
  replace t16 := (ho 16 (by decide)).trans t16
  replace t19 := (ho 19 (by decide)).trans t19
  replace t20 := (ho 20 (by decide)).trans t20
  replace t21 := (ho 21 (by decide)).trans t21
  replace t159 := (ho 159 (by decide)).trans t159
  replace t160 := (ho 160 (by decide)).trans t160
  clear fr2 ho
  refine take1 3 162 _ (.pointer (some ⟨pb, k, none⟩)) #[true, true, true, true, false, false, false, false, false, false, false, false, false, false, false, false, false, false, false, false, false, false, false, false, false, false, false, false] l7_28_i3 l7_28_d3 (by decide) l7_28_s l7_28_f3 l7_28_r3 l7_28_g3 rfl hS0 fr3 ?_ ?_
  · intro wx hx; obtain ⟨h0, h1⟩ := hx; simp only [execOp, l7_28_o3]; go_simp
  intro a4 fr4 t162 ho
  replace t0 := (ho 0 (by decide)).trans t0
  replace t1 := (ho 1 (by decide)).trans t1
  replace t2 := (ho 2 (by decide)).trans t2
  replace t3 := (ho 3 (by decide)).trans t3
  replace t4 := (ho 4 (by decide)).trans t4
  replace t5 := (ho 5 (by decide)).trans t5
  replace t6 := (ho 6 (by decide)).trans t6
  replace t15 := (ho 15 (by decide)).trans t15
  replace t16 := (ho 16 (by decide)).trans t16
  replace t19 := (ho 19 (by decide)).trans t19
  replace t20 := (ho 20 (by decide)).trans t20
  replace t21 := (ho 21 (by decide)).trans t21
  replace t159 := (ho 159 (by decide)).trans t159
  replace t160 := (ho 160 (by decide)).trans t160
  replace t161 := (ho 161 (by decide)).trans t161
  clear fr3 ho
  clear t160 t161
  refine take1 4 163 _ (.int .u64 p) #[true, true, true, true, true, false, false, false, false, false, false, false, false, false, false, false, false, false, false, false, false, false, false, false, false, false, false, false] l7_28_i4 l7_28_d4 (by decide) l7_28_s l7_28_f4 l7_28_r4 l7_28_g4 rfl hS0 fr4 ?_ ?_
  · intro wx hx; obtain ⟨h0, h1⟩ := hx; simp only [execOp, l7_28_o4]; go_simp
  intro a5 fr5 t163 ho
  replace t0 := (ho 0 (by decide)).trans t0
  replace t1 := (ho 1 (by decide)).trans t1
  replace t2 := (ho 2 (by decide)).trans t2
  replace t3 := (ho 3 (by decide)).trans t3
  replace t4 := (ho 4 (by decide)).trans t4
  replace t5 := (ho 5 (by decide)).trans t5
  replace t6 := (ho 6 (by decide)).trans t6
  replace t15 := (ho 15 (by decide)).trans t15
  replace t16 := (ho 16 (by decide)).trans t16
  replace t19 := (ho 19 (by decide)).trans t19
  replace t20 := (ho 20 (by decide)).trans t20
  replace t21 := (ho 21 (by decide)).trans t21
  replace t159 := (ho 159 (by decide)).trans t159
  replace t162 := (ho 162 (by decide)).trans t162
  clear fr4 ho
  clear t162
  refine take1 5 164 _ (.slice (some ⟨cb, 0, none⟩) K K) #[true, true, true, true, true, true, false, false, false, false, false, false, false, false, false, false, false, false, false, false, false, false, false, false, false, false, false, false] l7_28_i5 l7_28_d5 (by decide) l7_28_s l7_28_f5 l7_28_r5 l7_28_g5 rfl hS0 fr5 ?_ ?_
  · intro wx hx; obtain ⟨h0, h1⟩ := hx; simp only [execOp, l7_28_o5]; go_simp
  intro a6 fr6 t164 ho
  replace t0 := (ho 0 (by decide)).trans t0
  replace t1 := (ho 1 (by decide)).trans t1
  replace t2 := (ho 2 (by decide)).trans t2
  replace t3 := (ho 3 (by decide)).trans t3
  replace t4 := (ho 4 (by decide)).trans t4
  replace t5 := (ho 5 (by decide)).trans t5
  replace t6 := (ho 6 (by decide)).trans t6
  replace t15 := (ho 15 (by decide)).trans t15
  replace t16 := (ho 16 (by decide)).trans t16
  replace t19 := (ho 19 (by decide)).trans t19
  replace t20 := (ho 20 (by decide)).trans t20
  replace t21 := (ho 21 (by decide)).trans t21
  replace t159 := (ho 159 (by decide)).trans t159
  replace t163 := (ho 163 (by decide)).trans t163
  clear fr5 ho
  refine take1 6 165 _ (.int .i64 (k : Nat)) #[true, true, true, true, true, true, true, false, false, false, false, false, false, false, false, false, false, false, false, false, false, false, false, false, false, false, false, false] l7_28_i6 l7_28_d6 (by decide) l7_28_s l7_28_f6 l7_28_r6 l7_28_g6 rfl hS0 fr6 ?_ ?_
  · intro wx hx; obtain ⟨h0, h1⟩ := hx; simp only [execOp, l7_28_o6]; go_simp
  intro a7 fr7 t165 ho
  replace t0 := (ho 0 (by decide)).trans t0
  replace t1 := (ho 1 (by decide)).trans t1
  replace t2 := (ho 2 (by decide)).trans t2
  replace t3 := (ho 3 (by decide)).trans t3
  replace t4 := (ho 4 (by decide)).trans t4
  replace t5 := (ho 5 (by decide)).trans t5
  replace t6 := (ho 6 (by decide)).trans t6
  replace t15 := (ho 15 (by decide)).trans t15
  replace t16 := (ho 16 (by decide)).trans t16
  replace t19 := (ho 19 (by decide)).trans t19
  replace t20 := (ho 20 (by decide)).trans t20
  replace t21 := (ho 21 (by decide)).trans t21
  replace t159 := (ho 159 (by decide)).trans t159
  replace t163 := (ho 163 (by decide)).trans t163
  replace t164 := (ho 164 (by decide)).trans t164
  clear fr6 ho
  refine take1 7 166 _ (.pointer (some ⟨cb, k, none⟩)) #[true, true, true, true, true, true, true, true, false, false, false, false, false, false, false, false, false, false, false, false, false, false, false, false, false, false, false, false] l7_28_i7 l7_28_d7 (by decide) l7_28_s l7_28_f7 l7_28_r7 l7_28_g7 rfl hS0 fr7 ?_ ?_
  · intro wx hx; obtain ⟨h0, h1⟩ := hx; simp only [execOp, l7_28_o7]; go_simp
  intro a8 fr8 t166 ho
  replace t0 := (ho 0 (by decide)).trans t0
  replace t1 := (ho 1 (by decide)).trans t1
  replace t2 := (ho 2 (by decide)).trans t2
  replace t3 := (ho 3 (by decide)).trans t3
  replace t4 := (ho 4 (by decide)).trans t4
  replace t5 := (ho 5 (by decide)).trans t5
  replace t6 := (ho 6 (by decide)).trans t6
  replace t15 := (ho 15 (by decide)).trans t15
  replace t16 := (ho 16 (by decide)).trans t16
  replace t19 := (ho 19 (by decide)).trans t19
  replace t20 := (ho 20 (by decide)).trans t20
  replace t21 := (ho 21 (by decide)).trans t21
  replace t159 := (ho 159 (by decide)).trans t159
  replace t163 := (ho 163 (by decide)).trans t163
  replace t164 := (ho 164 (by decide)).trans t164
  replace t165 := (ho 165 (by decide)).trans t165
  clear fr7 ho
  clear t164 t165
  refine take1 8 167 _ (.int .i64 ck) #[true, true, true, true, true, true, true, true, true, false, false, false, false, false, false, false, false, false, false, false, false, false, false, false, false, false, false, false] l7_28_i8 l7_28_d8 (by decide) l7_28_s l7_28_f8 l7_28_r8 l7_28_g8 rfl hS0 fr8 ?_ ?_
  · intro wx hx; obtain ⟨h0, h1⟩ := hx; simp only [execOp, l7_28_o8]; go_simp
  intro a9 fr9 t167 ho
  replace t0 := (ho 0 (by decide)).trans t0
  replace t1 := (ho 1 (by decide)).trans t1
  replace t2 := (ho 2 (by decide)).trans t2
  replace t3 := (ho 3 (by decide)).trans t3
  replace t4 := (ho 4 (by decide)).trans t4
  replace t5 := (ho 5 (by decide)).trans t5
  replace t6 := (ho 6 (by decide)).trans t6
  replace t15 := (ho 15 (by decide)).trans t15
  replace t16 := (ho 16 (by decide)).trans t16
  replace t19 := (ho 19 (by decide)).trans t19
  replace t20 := (ho 20 (by decide)).trans t20
  replace t21 := (ho 21 (by decide)).trans t21
  replace t159 := (ho 159 (by decide)).trans t159
  replace t163 := (ho 163 (by decide)).trans t163
  replace t166 := (ho 166 (by decide)).trans t166
  clear fr8 ho
  clear t166
  refine take1 9 168 _ (.slice x5 0 0) #[true, true, true, true, true, true, true, true, true, true, false, false, false, false, false, false, false, false, false, false, false, false, false, false, false, false, false, false] l7_28_i9 l7_28_d9 (by decide) l7_28_s l7_28_f9 l7_28_r9 l7_28_g9 rfl hS0 fr9 ?_ ?_
  · intro wx hx; obtain ⟨h0, h1⟩ := hx; simp only [execOp, l7_28_o9]; go_simp
  intro a10 fr10 t168 ho
  replace t0 := (ho 0 (by decide)).trans t0
  replace t1 := (ho 1 (by decide)).trans t1
  replace t2 := (ho 2 (by decide)).trans t2
  replace t3 := (ho 3 (by decide)).trans t3
  replace t4 := (ho 4 (by decide)).trans t4
  replace t5 := (ho 5 (by decide)).trans t5
  replace t6 := (ho 6 (by decide)).trans t6
  replace t15 := (ho 15 (by decide)).trans t15
  replace t16 := (ho 16 (by decide)).trans t16
  replace t19 := (ho 19 (by decide)).trans t19
  replace t20 := (ho 20 (by decide)).trans t20
  replace t21 := (ho 21 (by decide)).trans t21
  replace t159 := (ho 159 (by decide)).trans t159
  replace t163 := (ho 163 (by decide)).trans t163
  replace t167 := (ho 167 (by decide)).trans t167
  clear fr9 ho
  refine take1 10 169 _ (.int .i64 (k : Nat)) #[true, true, true, true, true, true, true, true, true, true, true, false, false, false, false, false, false, false, false, false, false, false, false, false, false, false, false, false] l7_28_i10 l7_28_d10 (by decide) l7_28_s l7_28_f10 l7_28_r10 l7_28_g10 rfl hS0 fr10 ?_ ?_
  · intro wx hx; obtain ⟨h0, h1⟩ := hx; simp only [execOp, l7_28_o10]; go_simp
  intro a11 fr11 t169 ho
  replace t0 := (ho 0 (by decide)).trans t0
  replace t1 := (ho 1 (by decide)).trans t1
  replace t2 := (ho 2 (by decide)).trans t2
  replace t3 := (ho 3 (by decide)).trans t3
  replace t4 := (ho 4 (by decide)).trans t4
  replace t5 := (ho 5 (by decide)).trans t5
  replace t6 := (ho 6 (by decide)).trans t6
  replace t15 := (ho 15 (by decide)).trans t15
  replace t16 := (ho 16 (by decide)).trans t16
  replace t19 := (ho 19 (by decide)).trans t19
  replace t20 := (ho 20 (by decide)).trans t20
  replace t21 := (ho 21 (by decide)).trans t21
  replace t159 := (ho 159 (by decide)).trans t159
  replace t163 := (ho 163 (by decide)).trans t163
  replace t167 := (ho 167 (by decide)).trans t167
  replace t168 := (ho 168 (by decide)).trans t168
  clear fr10 ho
  refine take1 11 170 _ (.int .i64 0) #[true, true, true, true, true, true, true, true, true, true, true, true, false, false, false, false, false, false, false, false, false, false, false, false, false, false, false, false] l7_28_i11 l7_28_d11 (by decide) l7_28_s l7_28_f11 l7_28_r11 l7_28_g11 rfl hS0 fr11 ?_ ?_
  · intro wx hx; obtain ⟨h0, h1⟩ := hx; simp only [execOp, l7_28_o11]; go_simp
  intro a12 fr12 t170 ho
  replace t0 := (ho 0 (by decide)).trans t0
  replace t1 := (ho 1 (by decide)).trans t1
  replace t2 := (ho 2 (by decide)).trans t2
  replace t3 := (ho 3 (by decide)).trans t3
  replace t4 := (ho 4 (by decide)).trans t4
  replace t5 := (ho 5 (by decide)).trans t5
  replace t6 := (ho 6 (by decide)).trans t6
  replace t15 := (ho 15 (by decide)).trans t15
  replace t16 := (ho 16 (by decide)).trans t16
  replace t19 := (ho 19 (by decide)).trans t19
  replace t20 := (ho 20 (by decide)).trans t20
  replace t21 := (ho 21 (by decide)).trans t21
  replace t159 := (ho 159 (by decide)).trans t159
  replace t163 := (ho 163 (by decide)).trans t163
  replace t167 := (ho 167 (by decide)).trans t167
  replace t168 := (ho 168 (by decide)).trans t168
  replace t169 := (ho 169 (by decide)).trans t169
  clear fr11 ho
  refine take1 12 171 _ (.int .i64 0) #[true, true, true, true, true, true, true, true, true, true, true, true, true, false, false, false, false, false, false, false, false, false, false, false, false, false, false, false] l7_28_i12 l7_28_d12 (by decide) l7_28_s l7_28_f12 l7_28_r12 l7_28_g12 rfl hS0 fr12 ?_ ?_
  · intro wx hx; obtain ⟨h0, h1⟩ := hx; simp only [execOp, l7_28_o12]; go_simp
  intro a13 fr13 t171 ho
  replace t0 := (ho 0 (by decide)).trans t0
  replace t1 := (ho 1 (by decide)).trans t1
  replace t2 := (ho 2 (by decide)).trans t2
  replace t3 := (ho 3 (by decide)).trans t3
  replace t4 := (ho 4 (by decide)).trans t4
  replace t5 := (ho 5 (by decide)).trans t5
  replace t6 := (ho 6 (by decide)).trans t6
  replace t15 := (ho 15 (by decide)).trans t15
  replace t16 := (ho 16 (by decide)).trans t16
  replace t19 := (ho 19 (by decide)).trans t19
  replace t20 := (ho 20 (by decide)).trans t20
  replace t21 := (ho 21 (by decide)).trans t21
  replace t159 := (ho 159 (by decide)).trans t159
  replace t163 := (ho 163 (by decide)).trans t163
  replace t167 := (ho 167 (by decide)).trans t167
  replace t168 := (ho 168 (by decide)).trans t168
  replace t169 := (ho 169 (by decide)).trans t169
  replace t170 := (ho 170 (by decide)).trans t170
  clear fr12 ho
  clear t169 t170
  refine take1 13 172 _ (.int .i64 (k : Nat)) #[true, true, true, true, true, true, true, true, true, true, true, true, true, true, false, false, false, false, false, false, false, false, false, false, false, false, false, false] l7_28_i13 l7_28_d13 (by decide) l7_28_s l7_28_f13 l7_28_r13 l7_28_g13 rfl hS0 fr13 ?_ ?_
  · intro wx hx; obtain ⟨h0, h1⟩ := hx; simp only [execOp, l7_28_o13]; go_simp
  intro a14 fr14 t172 ho
  replace t0 := (ho 0 (by decide)).trans t0
  replace t1 := (ho 1 (by decide)).trans t1
  replace t2 := (ho 2 (by decide)).trans t2
  replace t3 := (ho 3 (by decide)).trans t3
  replace t4 := (ho 4 (by decide)).trans t4
  replace t5 := (ho 5 (by decide)).trans t5
  replace t6 := (ho 6 (by decide)).trans t6
  replace t15 := (ho 15 (by decide)).trans t15
  replace t16 := (ho 16 (by decide)).trans t16
  replace t19 := (ho 19 (by decide)).trans t19
  replace t20 := (ho 20 (by decide)).trans t20
  replace t21 := (ho 21 (by decide)).trans t21
  replace t159 := (ho 159 (by decide)).trans t159
  replace t163 := (ho 163 (by decide)).trans t163
  replace t167 := (ho 167 (by decide)).trans t167
  replace t168 := (ho 168 (by decide)).trans t168
  replace t171 := (ho 171 (by decide)).trans t171
  clear fr13 ho
  refine take1 14 173 _ (.int .i64 ((k : Nat) + 1)) #[true, true, true, true, true, true, true, true, true, true, true, true, true, true, true, false, false, false, false, false, false, false, false, false, false, false, false, false] l7_28_i14 l7_28_d14 (by decide) l7_28_s l7_28_f14 l7_28_r14 l7_28_g14 rfl hS0 fr14 ?_ ?_
  · intro wx hx; obtain ⟨h0, h1⟩ := hx; simp only [execOp, l7_28_o14]; go_simp
  intro a15 fr15 t173 ho
  replace t0 := (ho 0 (by decide)).trans t0
  replace t1 := (ho 1 (by decide)).trans t1
  replace t2 := (ho 2 (by decide)).trans t2
  replace t3 := (ho 3 (by decide)).trans t3
  replace t4 := (ho 4 (by decide)).trans t4
  replace t5 := (ho 5 (by decide)).trans t5
  replace t6 := (ho 6 (by decide)).trans t6
  replace t15 := (ho 15 (by decide)).trans t15
  replace t16 := (ho 16 (by decide)).trans t16
  replace t19 := (ho 19 (by decide)).trans t19
  replace t20 := (ho 20 (by decide)).trans t20
  replace t21 := (ho 21 (by decide)).trans t21
  replace t159 := (ho 159 (by decide)).trans t159
  replace t163 := (ho 163 (by decide)).trans t163
  replace t167 := (ho 167 (by decide)).trans t167
  replace t168 := (ho 168 (by decide)).trans t168
  replace t171 := (ho 171 (by decide)).trans t171
  replace t172 := (ho 172 (by decide)).trans t172
  clear fr14 ho
  clear t172
  refine take1 15 174 _ (.int .i64 0) #[true, true, true, true, true, true, true, true, true, true, true, true, true, true, true, true, false, false, false, false, false, false, false, false, false, false, false, false] l7_28_i15 l7_28_d15 (by decide) l7_28_s l7_28_f15 l7_28_r15 l7_28_g15 rfl hS0 fr15 ?_ ?_
  · intro wx hx; obtain ⟨h0, h1⟩ := hx; simp only [execOp, l7_28_o15]; go_simp
  intro a16 fr16 t174 ho
  replace t0 := (ho 0 (by decide)).trans t0
  replace t1 := (ho 1 (by decide)).trans t1
  replace t2 := (ho 2 (by decide)).trans t2
  replace t3 := (ho 3 (by decide)).trans t3
  replace t4 := (ho 4 (by decide)).trans t4
  replace t5 := (ho 5 (by decide)).trans t5
  replace t6 := (ho 6 (by decide)).trans t6
  replace t15 := (ho 15 (by decide)).trans t15
  replace t16 := (ho 16 (by decide)).trans t16
  replace t19 := (ho 19 (by decide)).trans t19
  replace t20 := (ho 20 (by decide)).trans t20
  replace t21 := (ho 21 (by decide)).trans t21
  replace t159 := (ho 159 (by decide)).trans t159
  replace t163 := (ho 163 (by decide)).trans t163
  replace t167 := (ho 167 (by decide)).trans t167
  replace t168 := (ho 168 (by decide)).trans t168
  replace t171 := (ho 171 (by decide)).trans t171
  replace t173 := (ho 173 (by decide)).trans t173
  clear fr15 ho
  refine take1 16 175 _ (.int .i64 0) #[true, true, true, true, true, true, true, true, true, true, true, true, true, true, true, true, true, false, false, false, false, false, false, false, false, false, false, false] l7_28_i16 l7_28_d16 (by decide) l7_28_s l7_28_f16 l7_28_r16 l7_28_g16 rfl hS0 fr16 ?_ ?_
  · intro wx hx; obtain ⟨h0, h1⟩ := hx; simp only [execOp, l7_28_o16]; go_simp
  intro a17 fr17 t175 ho
  replace t0 := (ho 0 (by decide)).trans t0
  replace t1 := (ho 1 (by decide)).trans t1
  replace t2 := (ho 2 (by decide)).trans t2
  replace t3 := (ho 3 (by decide)).trans t3
  replace t4 := (ho 4 (by decide)).trans t4
  replace t5 := (ho 5 (by decide)).trans t5
  replace t6 := (ho 6 (by decide)).trans t6
  replace t15 := (ho 15 (by decide)).trans t15
  replace t16 := (ho 16 (by decide)).trans t16
  replace t19 := (ho 19 (by decide)).trans t19
  replace t20 := (ho 20 (by decide)).trans t20
  replace t21 := (ho 21 (by decide)).trans t21
  replace t159 := (ho 159 (by decide)).trans t159
  replace t163 := (ho 163 (by decide)).trans t163
  replace t167 := (ho 167 (by decide)).trans t167
  replace t168 := (ho 168 (by decide)).trans t168
  replace t171 := (ho 171 (by decide)).trans t171
  replace t173 := (ho 173 (by decide)).trans t173
  replace t174 := (ho 174 (by decide)).trans t174
  clear fr16 ho
  clear t173 t174
  refine take1 17 176 _ (.slice x5 0 0) #[true, true, true, true, true, true, true, true, true, true, true, true, true, true, true, true, true, true, false, false, false, false, false, false, false, false, false, false] l7_28_i17 l7_28_d17 (by decide) l7_28_s l7_28_f17 l7_28_r17 l7_28_g17 rfl hS0 fr17 ?_ ?_
  · intro wx hx; obtain ⟨h0, h1⟩ := hx; simp only [execOp, l7_28_o17]; go_simp
  intro a18 fr18 t176 ho
  replace t0 := (ho 0 (by decide)).trans t0
  replace t1 := (ho 1 (by decide)).trans t1
  replace t2 := (ho 2 (by decide)).trans t2
  replace t3 := (ho 3 (by decide)).trans t3
  replace t4 := (ho 4 (by decide)).trans t4
  replace t5 := (ho 5 (by decide)).trans t5
  replace t6 := (ho 6 (by decide)).trans t6
  replace t15 := (ho 15 (by decide)).trans t15
  replace t16 := (ho 16 (by decide)).trans t16
  replace t19 := (ho 19 (by decide)).trans t19
  replace t20 := (ho 20 (by decide)).trans t20
  replace t21 := (ho 21 (by decide)).trans t21
  replace t159 := (ho 159 (by decide)).trans t159
  replace t163 := (ho 163 (by decide)).trans t163
  replace t167 := (ho 167 (by decide)).trans t167
  replace t168 := (ho 168 (by decide)).trans t168
  replace t171 := (ho 171 (by decide)).trans t171
  replace t175 := (ho 175 (by decide)).trans t175
  clear fr17 ho
  clear t168 t171 t175
  refine take1 18 177 _ (.slice x6 0 0) #[true, true, true, true, true, true, true, true, true, true, true, true, true, true, true, true, true, true, true, false, false, false, false, false, false, false, false, false] l7_28_i18 l7_28_d18 (by decide) l7_28_s l7_28_f18 l7_28_r18 l7_28_g18 rfl hS0 fr18 ?_ ?_
  · intro wx hx; obtain ⟨h0, h1⟩ := hx; simp only [execOp, l7_28_o18]; go_simp
  intro a19 fr19 t177 ho
  replace t0 := (ho 0 (by decide)).trans t0
  replace t1 := (ho 1 (by decide)).trans t1
  replace t2 := (ho 2 (by decide)).trans t2
  replace t3 := (ho 3 (by decide)).trans t3
  replace t4 := (ho 4 (by decide)).trans t4
  replace t5 := (ho 5 (by decide)).trans t5
  replace t6 := (ho 6 (by decide)).trans t6
  replace t15 := (ho 15 (by decide)).trans t15
  replace t16 := (ho 16 (by decide)).trans t16
  replace t19 := (ho 19 (by decide)).trans t19
  replace t20 := (ho 20 (by decide)).trans t20
  replace t21 := (ho 21 (by decide)).trans t21
  replace t159 := (ho 159 (by decide)).trans t159
  replace t163 := (ho 163 (by decide)).trans t163
  replace t167 := (ho 167 (by decide)).trans t167
  replace t176 := (ho 176 (by decide)).trans t176
  clear fr18 ho
  refine take1 19 178 _ (.int .i64 (k : Nat)) #[true, true, true, true, true, true, true, true, true, true, true, true, true, true, true, true, true, true, true, true, false, false, false, false, false, false, false, false] l7_28_i19 l7_28_d19 (by decide) l7_28_s l7_28_f19 l7_28_r19 l7_28_g19 rfl hS0 fr19 ?_ ?_
  · intro wx hx; obtain ⟨h0, h1⟩ := hx; simp only [execOp, l7_28_o19]; go_simp
  intro a20 fr20 t178 ho
  replace t0 := (ho 0 (by decide)).trans t0
  replace t1 := (ho 1 (by decide)).trans t1
  replace t2 := (ho 2 (by decide)).trans t2
  replace t3 := (ho 3 (by decide)).trans t3
  replace t4 := (ho 4 (by decide)).trans t4
  replace t5 := (ho 5 (by decide)).trans t5
  replace t6 := (ho 6 (by decide)).trans t6
  replace t15 := (ho 15 (by decide)).trans t15
  replace t16 := (ho 16 (by decide)).trans t16
  replace t19 := (ho 19 (by decide)).trans t19
  replace t20 := (ho 20 (by decide)).trans t20
  replace t21 := (ho 21 (by decide)).trans t21
  replace t159 := (ho 159 (by decide)).trans t159
  replace t163 := (ho 163 (by decide)).trans t163
  replace t167 := (ho 167 (by decide)).trans t167
  replace t176 := (ho 176 (by decide)).trans t176
  replace t177 := (ho 177 (by decide)).trans t177
  clear fr19 ho
  refine take1 20 179 _ (.int .i64 0) #[true, true, true, true, true, true, true, true, true, true, true, true, true, true, true, true, true, true, true, true, true, false, false, false, false, false, false, false] l7_28_i20 l7_28_d20 (by decide) l7_28_s l7_28_f20 l7_28_r20 l7_28_g20 rfl hS0 fr20 ?_ ?_
  · intro wx hx; obtain ⟨h0, h1⟩ := hx; simp only [execOp, l7_28_o20]; go_simp
  intro a21 fr21 t179 ho
  replace t0 := (ho 0 (by decide)).trans t0
  replace t1 := (ho 1 (by decide)).trans t1
  replace t2 := (ho 2 (by decide)).trans t2
  replace t3 := (ho 3 (by decide)).trans t3
  replace t4 := (ho 4 (by decide)).trans t4
  replace t5 := (ho 5 (by decide)).trans t5
  replace t6 := (ho 6 (by decide)).trans t6
  replace t15 := (ho 15 (by decide)).trans t15
  replace t16 := (ho 16 (by decide)).trans t16
  replace t19 := (ho 19 (by decide)).trans t19
  replace t20 := (ho 20 (by decide)).trans t20
  replace t21 := (ho 21 (by decide)).trans t21
  replace t159 := (ho 159 (by decide)).trans t159
  replace t163 := (ho 163 (by decide)).trans t163
  replace t167 := (ho 167 (by decide)).trans t167
  replace t176 := (ho 176 (by decide)).trans t176
  replace t177 := (ho 177 (by decide)).trans t177
  replace t178 := (ho 178 (by decide)).trans t178
  clear fr20 ho
  refine take1 21 180 _ (.int .i64 0) #[true, true, true, true, true, true, true, true, true, true, true, true, true, true, true, true, true, true, true, true, true, true, false, false, false, false, false, false] l7_28_i21 l7_28_d21 (by decide) l7_28_s l7_28_f21 l7_28_r21 l7_28_g21 rfl hS0 fr21 ?_ ?_
  · intro wx hx; obtain ⟨h0, h1⟩ := hx; simp only [execOp, l7_28_o21]; go_simp
  intro a22 fr22 t180 ho
  replace t0 := (ho 0 (by decide)).trans t0
  replace t1 := (ho 1 (by decide)).trans t1
  replace t2 := (ho 2 (by decide)).trans t2
  replace t3 := (ho 3 (by decide)).trans t3
  replace t4 := (ho 4 (by decide)).trans t4
  replace t5 := (ho 5 (by decide)).trans t5
  replace t6 := (ho 6 (by decide)).trans t6
  replace t15 := (ho 15 (by decide)).trans t15
  replace t16 := (ho 16 (by decide)).trans t16
  replace t19 := (ho 19 (by decide)).trans t19
  replace t20 := (ho 20 (by decide)).trans t20
  replace t21 := (ho 21 (by decide)).trans t21
  replace t159 := (ho 159 (by decide)).trans t159
  replace t163 := (ho 163 (by decide)).trans t163
  replace t167 := (ho 167 (by decide)).trans t167
  replace t176 := (ho 176 (by decide)).trans t176
  replace t177 := (ho 177 (by decide)).trans t177
  replace t178 := (ho 178 (by decide)).trans t178
  replace t179 := (ho 179 (by decide)).trans t179
  clear fr21 ho
  clear t178 t179
  refine take1 22 181 _ (.int .i64 (k : Nat)) #[true, true, true, true, true, true, true, true, true, true, true, true, true, true, true, true, true, true, true, true, true, true, true, false, false, false, false, false] l7_28_i22 l7_28_d22 (by decide) l7_28_s l7_28_f22 l7_28_r22 l7_28_g22 rfl hS0 fr22 ?_ ?_
  · intro wx hx; obtain ⟨h0, h1⟩ := hx; simp only [execOp, l7_28_o22]; go_simp
  intro a23 fr23 t181 ho
  replace t0 := (ho 0 (by decide)).trans t0
  replace t1 := (ho 1 (by decide)).trans t1
  replace t2 := (ho 2 (by decide)).trans t2
  replace t3 := (ho 3 (by decide)).trans t3
  replace t4 := (ho 4 (by decide)).trans t4
  replace t5 := (ho 5 (by decide)).trans t5
  replace t6 := (ho 6 (by decide)).trans t6
  replace t15 := (ho 15 (by decide)).trans t15
  replace t16 := (ho 16 (by decide)).trans t16
  replace t19 := (ho 19 (by decide)).trans t19
  replace t20 := (ho 20 (by decide)).trans t20
  replace t21 := (ho 21 (by decide)).trans t21
  replace t159 := (ho 159 (by decide)).trans t159
  replace t163 := (ho 163 (by decide)).trans t163
  replace t167 := (ho 167 (by decide)).trans t167
  replace t176 := (ho 176 (by decide)).trans t176
  replace t177 := (ho 177 (by decide)).trans t177
  replace t180 := (ho 180 (by decide)).trans t180
  clear fr22 ho
  refine take1 23 182 _ (.int .i64 ((k : Nat) + 1)) #[true, true, true, true, true, true, true, true, true, true, true, true, true, true, true, true, true, true, true, true, true, true, true, true, false, false, false, false] l7_28_i23 l7_28_d23 (by decide) l7_28_s l7_28_f23 l7_28_r23 l7_28_g23 rfl hS0 fr23 ?_ ?_
  · intro wx hx; obtain ⟨h0, h1⟩ := hx; simp only [execOp, l7_28_o23]; go_simp
  intro a24 fr24 t182 ho
  replace t0 := (ho 0 (by decide)).trans t0
  replace t1 := (ho 1 (by decide)).trans t1
  replace t2 := (ho 2 (by decide)).trans t2
  replace t3 := (ho 3 (by decide)).trans t3
  replace t4 := (ho 4 (by decide)).trans t4
  replace t5 := (ho 5 (by decide)).trans t5
  replace t6 := (ho 6 (by decide)).trans t6
  replace t15 := (ho 15 (by decide)).trans t15
  replace t16 := (ho 16 (by decide)).trans t16
  replace t19 := (ho 19 (by decide)).trans t19
  replace t20 := (ho 20 (by decide)).trans t20
  replace t21 := (ho 21 (by decide)).trans t21
  replace t159 := (ho 159 (by decide)).trans t159
  replace t163 := (ho 163 (by decide)).trans t163
  replace t167 := (ho 167 (by decide)).trans t167
  replace t176 := (ho 176 (by decide)).trans t176
  replace t177 := (ho 177 (by decide)).trans t177
  replace t180 := (ho 180 (by decide)).trans t180
  replace t181 := (ho 181 (by decide)).trans t181
  clear fr23 ho
  clear t181
  refine take1 24 183 _ (.int .i64 0) #[true, true, true, true, true, true, true, true, true, true, true, true, true, true, true, true, true, true, true, true, true, true, true, true, true, false, false, false] l7_28_i24 l7_28_d24 (by decide) l7_28_s l7_28_f24 l7_28_r24 l7_28_g24 rfl hS0 fr24 ?_ ?_
  · intro wx hx; obtain ⟨h0, h1⟩ := hx; simp only [execOp, l7_28_o24]; go_simp
  intro a25 fr25 t183 ho
  replace t0 := (ho 0 (by decide)).trans t0
  replace t1 := (ho 1 (by decide)).trans t1
  replace t2 := (ho 2 (by decide)).trans t2
  replace t3 := (ho 3 (by decide)).trans t3
  replace t4 := (ho 4 (by decide)).trans t4
  replace t5 := (ho 5 (by decide)).trans t5
  replace t6 := (ho 6 (by decide)).trans t6
  replace t15 := (ho 15 (by decide)).trans t15
  replace t16 := (ho 16 (by decide)).trans t16
  replace t19 := (ho 19 (by decide)).trans t19
  replace t20 := (ho 20 (by decide)).trans t20
  replace t21 := (ho 21 (by decide)).trans t21
  replace t159 := (ho 159 (by decide)).trans t159
  replace t163 := (ho 163 (by decide)).trans t163
  replace t167 := (ho 167 (by decide)).trans t167
  replace t176 := (ho 176 (by decide)).trans t176
  replace t177 := (ho 177 (by decide)).trans t177
  replace t180 := (ho 180 (by decide)).trans t180
  replace t182 := (ho 182 (by decide)).trans t182
  clear fr24 ho
  refine take1 25 184 _ (.int .i64 0) #[true, true, true, true, true, true, true, true, true, true, true, true, true, true, true, true, true, true, true, true, true, true, true, true, true, true, false, false] l7_28_i25 l7_28_d25 (by decide) l7_28_s l7_28_f25 l7_28_r25 l7_28_g25 rfl hS0 fr25 ?_ ?_
  · intro wx hx; obtain ⟨h0, h1⟩ := hx; simp only [execOp, l7_28_o25]; go_simp
  intro a26 fr26 t184 ho
  replace t0 := (ho 0 (by decide)).trans t0
  replace t1 := (ho 1 (by decide)).trans t1
  replace t2 := (ho 2 (by decide)).trans t2
  replace t3 := (ho 3 (by decide)).trans t3
  replace t4 := (ho 4 (by decide)).trans t4
  replace t5 := (ho 5 (by decide)).trans t5
  replace t6 := (ho 6 (by decide)).trans t6
  replace t15 := (ho 15 (by decide)).trans t15
  replace t16 := (ho 16 (by decide)).trans t16
  replace t19 := (ho 19 (by decide)).trans t19
  replace t20 := (ho 20 (by decide)).trans t20
  replace t21 := (ho 21 (by decide)).trans t21
  replace t159 := (ho 159 (by decide)).trans t159
  replace t163 := (ho 163 (by decide)).trans t163
  replace t167 := (ho 167 (by decide)).trans t167
  replace t176 := (ho 176 (by decide)).trans t176
  replace t177 := (ho 177 (by decide)).trans t177
  replace t180 := (ho 180 (by decide)).trans t180
  replace t182 := (ho 182 (by decide)).trans t182
  replace t183 := (ho 183 (by decide)).trans t183
  clear fr25 ho
  clear t182 t183
  refine take1 26 185 _ (.slice x6 0 0) #[true, true, true, true, true, true, true, true, true, true, true, true, true, true, true, true, true, true, true, true, true, true, true, true, true, true, true, false] l7_28_i26 l7_28_d26 (by decide) l7_28_s l7_28_f26 l7_28_r26 l7_28_g26 rfl hS0 fr26 ?_ ?_
  · intro wx hx; obtain ⟨h0, h1⟩ := hx; simp only [execOp, l7_28_o26]; go_simp
  intro a27 fr27 t185 ho
  replace t0 := (ho 0 (by decide)).trans t0
  replace t1 := (ho 1 (by decide)).trans t1
  replace t2 := (ho 2 (by decide)).trans t2
  replace t3 := (ho 3 (by decide)).trans t3
  replace t4 := (ho 4 (by decide)).trans t4
  replace t5 := (ho 5 (by decide)).trans t5
  replace t6 := (ho 6 (by decide)).trans t6
  replace t15 := (ho 15 (by decide)).trans t15
  replace t16 := (ho 16 (by decide)).trans t16
  replace t19 := (ho 19 (by decide)).trans t19
  replace t20 := (ho 20 (by decide)).trans t20
  replace t21 := (ho 21 (by decide)).trans t21
  replace t159 := (ho 159 (by decide)).trans t159
  replace t163 := (ho 163 (by decide)).trans t163
  replace t167 := (ho 167 (by decide)).trans t167
  replace t176 := (ho 176 (by decide)).trans t176
  replace t177 := (ho 177 (by decide)).trans t177
  replace t180 := (ho 180 (by decide)).trans t180
  replace t184 := (ho 184 (by decide)).trans t184
  clear fr26 ho
  clear t177 t180 t184
  refine only1 27 l7_28_r27 (actC 27 186 _ (.tuple #[]) 27 #[.pointer (some ⟨b1, 0, none⟩), .int .u64 p, .int .i64 ck, .slice x5 0 0, .slice x6 0 0] G #[true, true, true, true, true, true, true, true, true, true, true, true, true, true, true, true, true, true, true, true, true, true, true, true, true, true, true, true] l7_28_i27 l7_28_d27 (by decide) l7_28_g27 rfl fr27 ?_ hcall ?_)
  · simp only [execOp, l7_28_o27]; clear hcall; go_simp
  intro aE wE hG frE tE ho
  replace t0 := (ho 0 (by decide)).trans t0
  replace t1 := (ho 1 (by decide)).trans t1
  replace t2 := (ho 2 (by decide)).trans t2
  replace t3 := (ho 3 (by decide)).trans t3
  replace t4 := (ho 4 (by decide)).trans t4
  replace t5 := (ho 5 (by decide)).trans t5
  replace t6 := (ho 6 (by decide)).trans t6
  replace t15 := (ho 15 (by decide)).trans t15
  replace t16 := (ho 16 (by decide)).trans t16
  replace t19 := (ho 19 (by decide)).trans t19
  replace t20 := (ho 20 (by decide)).trans t20
  replace t21 := (ho 21 (by decide)).trans t21
  refine wpAnyH_done l7_28_e ?_ _
  exact ⟨hG, frE, (sl_at _ _).trans t0, (sl_at _ _).trans t1, (sl_at _ _).trans t2, (sl_at _ _).trans t3, (sl_at _ _).trans t4, (sl_at _ _).trans t5, (sl_at _ _).trans t6, (sl_at _ _).trans t15, (sl_at _ _).trans t16, (sl_at _ _).trans t19, (sl_at _ _).trans t20, (sl_at _ _).trans t21, trivial⟩

end Go.Proofs.Qxb6602526a
