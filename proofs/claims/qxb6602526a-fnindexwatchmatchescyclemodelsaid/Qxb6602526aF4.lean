import Derived.Test.Qxb6602526aC7
import Derived.Test.Qxb6602526aE4
namespace Go.Proofs.Qxb6602526a
open Go.RowKit
set_option linter.unusedSimpArgs false
set_option linter.unusedVariables false

theorem l7_29_s : Region.noSelect (regOps (tlC (inC (hdC (tlC (inC (inC (tlC (nthC 14 (bodyC Try.f7)))))))))) = true := by kernel_rfl
theorem l7_29_i0 : (regOps (tlC (inC (hdC (tlC (inC (inC (tlC (nthC 14 (bodyC Try.f7))))))))))[0]? = some (regOp (tlC (inC (hdC (tlC (inC (inC (tlC (nthC 14 (bodyC Try.f7))))))))) 0) := by kernel_rfl
theorem l7_29_d0 : (regOp (tlC (inC (hdC (tlC (inC (inC (tlC (nthC 14 (bodyC Try.f7))))))))) 0).dst = some 187 := by kernel_rfl
theorem l7_29_g0 : (regOp (tlC (inC (hdC (tlC (inC (inC (tlC (nthC 14 (bodyC Try.f7))))))))) 0).guard = none := by kernel_rfl
theorem l7_29_o0 : (regOp (tlC (inC (hdC (tlC (inC (inC (tlC (nthC 14 (bodyC Try.f7))))))))) 0).op = Op.move (.tmp 20) := by kernel_rfl
theorem l7_29_i1 : (regOps (tlC (inC (hdC (tlC (inC (inC (tlC (nthC 14 (bodyC Try.f7))))))))))[1]? = some (regOp (tlC (inC (hdC (tlC (inC (inC (tlC (nthC 14 (bodyC Try.f7))))))))) 1) := by kernel_rfl
theorem l7_29_d1 : (regOp (tlC (inC (hdC (tlC (inC (inC (tlC (nthC 14 (bodyC Try.f7))))))))) 1).dst = some 188 := by kernel_rfl
theorem l7_29_g1 : (regOp (tlC (inC (hdC (tlC (inC (inC (tlC (nthC 14 (bodyC Try.f7))))))))) 1).guard = none := by kernel_rfl
theorem l7_29_o1 : (regOp (tlC (inC (hdC (tlC (inC (inC (tlC (nthC 14 (bodyC Try.f7))))))))) 1).op = Op.move (.tmp 3) := by kernel_rfl
theorem l7_29_i2 : (regOps (tlC (inC (hdC (tlC (inC (inC (tlC (nthC 14 (bodyC Try.f7))))))))))[2]? = some (regOp (tlC (inC (hdC (tlC (inC (inC (tlC (nthC 14 (bodyC Try.f7))))))))) 2) := by kernel_rfl
theorem l7_29_d2 : (regOp (tlC (inC (hdC (tlC (inC (inC (tlC (nthC 14 (bodyC Try.f7))))))))) 2).dst = some 189 := by kernel_rfl
theorem l7_29_g2 : (regOp (tlC (inC (hdC (tlC (inC (inC (tlC (nthC 14 (bodyC Try.f7))))))))) 2).guard = none := by kernel_rfl
theorem l7_29_o2 : (regOp (tlC (inC (hdC (tlC (inC (inC (tlC (nthC 14 (bodyC Try.f7))))))))) 2).op = Op.move (.tmp 21) := by kernel_rfl
theorem l7_29_i3 : (regOps (tlC (inC (hdC (tlC (inC (inC (tlC (nthC 14 (bodyC Try.f7))))))))))[3]? = some (regOp (tlC (inC (hdC (tlC (inC (inC (tlC (nthC 14 (bodyC Try.f7))))))))) 3) := by kernel_rfl
theorem l7_29_d3 : (regOp (tlC (inC (hdC (tlC (inC (inC (tlC (nthC 14 (bodyC Try.f7))))))))) 3).dst = some 190 := by kernel_rfl
theorem l7_29_g3 : (regOp (tlC (inC (hdC (tlC (inC (inC (tlC (nthC 14 (bodyC Try.f7))))))))) 3).guard = none := by kernel_rfl
theorem l7_29_o3 : (regOp (tlC (inC (hdC (tlC (inC (inC (tlC (nthC 14 (bodyC Try.f7))))))))) 3).op = Op.indexAddr 23 (.tmp 188) (.tmp 189) := by kernel_rfl
theorem l7_29_i4 : (regOps (tlC (inC (hdC (tlC (inC (inC (tlC (nthC 14 (bodyC Try.f7))))))))))[4]? = some (regOp (tlC (inC (hdC (tlC (inC (inC (tlC (nthC 14 (bodyC Try.f7))))))))) 4) := by kernel_rfl
theorem l7_29_d4 : (regOp (tlC (inC (hdC (tlC (inC (inC (tlC (nthC 14 (bodyC Try.f7))))))))) 4).dst = some 191 := by kernel_rfl
theorem l7_29_g4 : (regOp (tlC (inC (hdC (tlC (inC (inC (tlC (nthC 14 (bodyC Try.f7))))))))) 4).guard = none := by kernel_rfl
theorem l7_29_o4 : (regOp (tlC (inC (hdC (tlC (inC (inC (tlC (nthC 14 (bodyC Try.f7))))))))) 4).op = Op.load 31 (.tmp 190) := by kernel_rfl
theorem l7_29_i5 : (regOps (tlC (inC (hdC (tlC (inC (inC (tlC (nthC 14 (bodyC Try.f7))))))))))[5]? = some (regOp (tlC (inC (hdC (tlC (inC (inC (tlC (nthC 14 (bodyC Try.f7))))))))) 5) := by kernel_rfl
theorem l7_29_d5 : (regOp (tlC (inC (hdC (tlC (inC (inC (tlC (nthC 14 (bodyC Try.f7))))))))) 5).dst = some 192 := by kernel_rfl
theorem l7_29_g5 : (regOp (tlC (inC (hdC (tlC (inC (inC (tlC (nthC 14 (bodyC Try.f7))))))))) 5).guard = none := by kernel_rfl
theorem l7_29_o5 : (regOp (tlC (inC (hdC (tlC (inC (inC (tlC (nthC 14 (bodyC Try.f7))))))))) 5).op = Op.move (.tmp 4) := by kernel_rfl
theorem l7_29_i6 : (regOps (tlC (inC (hdC (tlC (inC (inC (tlC (nthC 14 (bodyC Try.f7))))))))))[6]? = some (regOp (tlC (inC (hdC (tlC (inC (inC (tlC (nthC 14 (bodyC Try.f7))))))))) 6) := by kernel_rfl
theorem l7_29_d6 : (regOp (tlC (inC (hdC (tlC (inC (inC (tlC (nthC 14 (bodyC Try.f7))))))))) 6).dst = some 193 := by kernel_rfl
theorem l7_29_g6 : (regOp (tlC (inC (hdC (tlC (inC (inC (tlC (nthC 14 (bodyC Try.f7))))))))) 6).guard = none := by kernel_rfl
theorem l7_29_o6 : (regOp (tlC (inC (hdC (tlC (inC (inC (tlC (nthC 14 (bodyC Try.f7))))))))) 6).op = Op.move (.tmp 21) := by kernel_rfl
theorem l7_29_i7 : (regOps (tlC (inC (hdC (tlC (inC (inC (tlC (nthC 14 (bodyC Try.f7))))))))))[7]? = some (regOp (tlC (inC (hdC (tlC (inC (inC (tlC (nthC 14 (bodyC Try.f7))))))))) 7) := by kernel_rfl
theorem l7_29_d7 : (regOp (tlC (inC (hdC (tlC (inC (inC (tlC (nthC 14 (bodyC Try.f7))))))))) 7).dst = some 194 := by kernel_rfl
theorem l7_29_g7 : (regOp (tlC (inC (hdC (tlC (inC (inC (tlC (nthC 14 (bodyC Try.f7))))))))) 7).guard = none := by kernel_rfl
theorem l7_29_o7 : (regOp (tlC (inC (hdC (tlC (inC (inC (tlC (nthC 14 (bodyC Try.f7))))))))) 7).op = Op.indexAddr 55 (.tmp 192) (.tmp 193) := by kernel_rfl
theorem l7_29_i8 : (regOps (tlC (inC (hdC (tlC (inC (inC (tlC (nthC 14 (bodyC Try.f7))))))))))[8]? = some (regOp (tlC (inC (hdC (tlC (inC (inC (tlC (nthC 14 (bodyC Try.f7))))))))) 8) := by kernel_rfl
theorem l7_29_d8 : (regOp (tlC (inC (hdC (tlC (inC (inC (tlC (nthC 14 (bodyC Try.f7))))))))) 8).dst = some 195 := by kernel_rfl
theorem l7_29_g8 : (regOp (tlC (inC (hdC (tlC (inC (inC (tlC (nthC 14 (bodyC Try.f7))))))))) 8).guard = none := by kernel_rfl
theorem l7_29_o8 : (regOp (tlC (inC (hdC (tlC (inC (inC (tlC (nthC 14 (bodyC Try.f7))))))))) 8).op = Op.load 3 (.tmp 194) := by kernel_rfl
theorem l7_29_i9 : (regOps (tlC (inC (hdC (tlC (inC (inC (tlC (nthC 14 (bodyC Try.f7))))))))))[9]? = some (regOp (tlC (inC (hdC (tlC (inC (inC (tlC (nthC 14 (bodyC Try.f7))))))))) 9) := by kernel_rfl
theorem l7_29_d9 : (regOp (tlC (inC (hdC (tlC (inC (inC (tlC (nthC 14 (bodyC Try.f7))))))))) 9).dst = some 196 := by kernel_rfl
theorem l7_29_g9 : (regOp (tlC (inC (hdC (tlC (inC (inC (tlC (nthC 14 (bodyC Try.f7))))))))) 9).guard = none := by kernel_rfl
theorem l7_29_o9 : (regOp (tlC (inC (hdC (tlC (inC (inC (tlC (nthC 14 (bodyC Try.f7))))))))) 9).op = Op.move (.tmp 15) := by kernel_rfl
theorem l7_29_i10 : (regOps (tlC (inC (hdC (tlC (inC (inC (tlC (nthC 14 (bodyC Try.f7))))))))))[10]? = some (regOp (tlC (inC (hdC (tlC (inC (inC (tlC (nthC 14 (bodyC Try.f7))))))))) 10) := by kernel_rfl
theorem l7_29_d10 : (regOp (tlC (inC (hdC (tlC (inC (inC (tlC (nthC 14 (bodyC Try.f7))))))))) 10).dst = some 197 := by kernel_rfl
theorem l7_29_g10 : (regOp (tlC (inC (hdC (tlC (inC (inC (tlC (nthC 14 (bodyC Try.f7))))))))) 10).guard = none := by kernel_rfl
theorem l7_29_o10 : (regOp (tlC (inC (hdC (tlC (inC (inC (tlC (nthC 14 (bodyC Try.f7))))))))) 10).op = Op.move (.tmp 21) := by kernel_rfl
theorem l7_29_i11 : (regOps (tlC (inC (hdC (tlC (inC (inC (tlC (nthC 14 (bodyC Try.f7))))))))))[11]? = some (regOp (tlC (inC (hdC (tlC (inC (inC (tlC (nthC 14 (bodyC Try.f7))))))))) 11) := by kernel_rfl
theorem l7_29_d11 : (regOp (tlC (inC (hdC (tlC (inC (inC (tlC (nthC 14 (bodyC Try.f7))))))))) 11).dst = some 198 := by kernel_rfl
theorem l7_29_g11 : (regOp (tlC (inC (hdC (tlC (inC (inC (tlC (nthC 14 (bodyC Try.f7))))))))) 11).guard = none := by kernel_rfl
theorem l7_29_o11 : (regOp (tlC (inC (hdC (tlC (inC (inC (tlC (nthC 14 (bodyC Try.f7))))))))) 11).op = Op.move (.tmp 2) := by kernel_rfl
theorem l7_29_i12 : (regOps (tlC (inC (hdC (tlC (inC (inC (tlC (nthC 14 (bodyC Try.f7))))))))))[12]? = some (regOp (tlC (inC (hdC (tlC (inC (inC (tlC (nthC 14 (bodyC Try.f7))))))))) 12) := by kernel_rfl
theorem l7_29_d12 : (regOp (tlC (inC (hdC (tlC (inC (inC (tlC (nthC 14 (bodyC Try.f7))))))))) 12).dst = some 199 := by kernel_rfl
theorem l7_29_g12 : (regOp (tlC (inC (hdC (tlC (inC (inC (tlC (nthC 14 (bodyC Try.f7))))))))) 12).guard = none := by kernel_rfl
theorem l7_29_o12 : (regOp (tlC (inC (hdC (tlC (inC (inC (tlC (nthC 14 (bodyC Try.f7))))))))) 12).op = Op.binOp .mul 3 (.tmp 197) (.tmp 198) 3 := by kernel_rfl
theorem l7_29_i13 : (regOps (tlC (inC (hdC (tlC (inC (inC (tlC (nthC 14 (bodyC Try.f7))))))))))[13]? = some (regOp (tlC (inC (hdC (tlC (inC (inC (tlC (nthC 14 (bodyC Try.f7))))))))) 13) := by kernel_rfl
theorem l7_29_d13 : (regOp (tlC (inC (hdC (tlC (inC (inC (tlC (nthC 14 (bodyC Try.f7))))))))) 13).dst = some 200 := by kernel_rfl
theorem l7_29_g13 : (regOp (tlC (inC (hdC (tlC (inC (inC (tlC (nthC 14 (bodyC Try.f7))))))))) 13).guard = none := by kernel_rfl
theorem l7_29_o13 : (regOp (tlC (inC (hdC (tlC (inC (inC (tlC (nthC 14 (bodyC Try.f7))))))))) 13).op = Op.move (.tmp 21) := by kernel_rfl
theorem l7_29_i14 : (regOps (tlC (inC (hdC (tlC (inC (inC (tlC (nthC 14 (bodyC Try.f7))))))))))[14]? = some (regOp (tlC (inC (hdC (tlC (inC (inC (tlC (nthC 14 (bodyC Try.f7))))))))) 14) := by kernel_rfl
theorem l7_29_d14 : (regOp (tlC (inC (hdC (tlC (inC (inC (tlC (nthC 14 (bodyC Try.f7))))))))) 14).dst = some 201 := by kernel_rfl
theorem l7_29_g14 : (regOp (tlC (inC (hdC (tlC (inC (inC (tlC (nthC 14 (bodyC Try.f7))))))))) 14).guard = none := by kernel_rfl
theorem l7_29_o14 : (regOp (tlC (inC (hdC (tlC (inC (inC (tlC (nthC 14 (bodyC Try.f7))))))))) 14).op = Op.binOp .add 3 (.tmp 200) (.const (.int .i64 1)) 3 := by kernel_rfl
theorem l7_29_i15 : (regOps (tlC (inC (hdC (tlC (inC (inC (tlC (nthC 14 (bodyC Try.f7))))))))))[15]? = some (regOp (tlC (inC (hdC (tlC (inC (inC (tlC (nthC 14 (bodyC Try.f7))))))))) 15) := by kernel_rfl
theorem l7_29_d15 : (regOp (tlC (inC (hdC (tlC (inC (inC (tlC (nthC 14 (bodyC Try.f7))))))))) 15).dst = some 202 := by kernel_rfl
theorem l7_29_g15 : (regOp (tlC (inC (hdC (tlC (inC (inC (tlC (nthC 14 (bodyC Try.f7))))))))) 15).guard = none := by kernel_rfl
theorem l7_29_o15 : (regOp (tlC (inC (hdC (tlC (inC (inC (tlC (nthC 14 (bodyC Try.f7))))))))) 15).op = Op.move (.tmp 2) := by kernel_rfl
theorem l7_29_i16 : (regOps (tlC (inC (hdC (tlC (inC (inC (tlC (nthC 14 (bodyC Try.f7))))))))))[16]? = some (regOp (tlC (inC (hdC (tlC (inC (inC (tlC (nthC 14 (bodyC Try.f7))))))))) 16) := by kernel_rfl
theorem l7_29_d16 : (regOp (tlC (inC (hdC (tlC (inC (inC (tlC (nthC 14 (bodyC Try.f7))))))))) 16).dst = some 203 := by kernel_rfl
theorem l7_29_g16 : (regOp (tlC (inC (hdC (tlC (inC (inC (tlC (nthC 14 (bodyC Try.f7))))))))) 16).guard = none := by kernel_rfl
theorem l7_29_o16 : (regOp (tlC (inC (hdC (tlC (inC (inC (tlC (nthC 14 (bodyC Try.f7))))))))) 16).op = Op.binOp .mul 3 (.tmp 201) (.tmp 202) 3 := by kernel_rfl
theorem l7_29_i17 : (regOps (tlC (inC (hdC (tlC (inC (inC (tlC (nthC 14 (bodyC Try.f7))))))))))[17]? = some (regOp (tlC (inC (hdC (tlC (inC (inC (tlC (nthC 14 (bodyC Try.f7))))))))) 17) := by kernel_rfl
theorem l7_29_d17 : (regOp (tlC (inC (hdC (tlC (inC (inC (tlC (nthC 14 (bodyC Try.f7))))))))) 17).dst = some 204 := by kernel_rfl
theorem l7_29_g17 : (regOp (tlC (inC (hdC (tlC (inC (inC (tlC (nthC 14 (bodyC Try.f7))))))))) 17).guard = none := by kernel_rfl
theorem l7_29_o17 : (regOp (tlC (inC (hdC (tlC (inC (inC (tlC (nthC 14 (bodyC Try.f7))))))))) 17).op = Op.slice 56 (.tmp 196) (some (.tmp 199)) (some (.tmp 203)) none := by kernel_rfl
theorem l7_29_i18 : (regOps (tlC (inC (hdC (tlC (inC (inC (tlC (nthC 14 (bodyC Try.f7))))))))))[18]? = some (regOp (tlC (inC (hdC (tlC (inC (inC (tlC (nthC 14 (bodyC Try.f7))))))))) 18) := by kernel_rfl
theorem l7_29_d18 : (regOp (tlC (inC (hdC (tlC (inC (inC (tlC (nthC 14 (bodyC Try.f7))))))))) 18).dst = some 205 := by kernel_rfl
theorem l7_29_g18 : (regOp (tlC (inC (hdC (tlC (inC (inC (tlC (nthC 14 (bodyC Try.f7))))))))) 18).guard = none := by kernel_rfl
theorem l7_29_o18 : (regOp (tlC (inC (hdC (tlC (inC (inC (tlC (nthC 14 (bodyC Try.f7))))))))) 18).op = Op.move (.tmp 16) := by kernel_rfl
theorem l7_29_i19 : (regOps (tlC (inC (hdC (tlC (inC (inC (tlC (nthC 14 (bodyC Try.f7))))))))))[19]? = some (regOp (tlC (inC (hdC (tlC (inC (inC (tlC (nthC 14 (bodyC Try.f7))))))))) 19) := by kernel_rfl
theorem l7_29_d19 : (regOp (tlC (inC (hdC (tlC (inC (inC (tlC (nthC 14 (bodyC Try.f7))))))))) 19).dst = some 206 := by kernel_rfl
theorem l7_29_g19 : (regOp (tlC (inC (hdC (tlC (inC (inC (tlC (nthC 14 (bodyC Try.f7))))))))) 19).guard = none := by kernel_rfl
theorem l7_29_o19 : (regOp (tlC (inC (hdC (tlC (inC (inC (tlC (nthC 14 (bodyC Try.f7))))))))) 19).op = Op.move (.tmp 21) := by kernel_rfl
theorem l7_29_i20 : (regOps (tlC (inC (hdC (tlC (inC (inC (tlC (nthC 14 (bodyC Try.f7))))))))))[20]? = some (regOp (tlC (inC (hdC (tlC (inC (inC (tlC (nthC 14 (bodyC Try.f7))))))))) 20) := by kernel_rfl
theorem l7_29_d20 : (regOp (tlC (inC (hdC (tlC (inC (inC (tlC (nthC 14 (bodyC Try.f7))))))))) 20).dst = some 207 := by kernel_rfl
theorem l7_29_g20 : (regOp (tlC (inC (hdC (tlC (inC (inC (tlC (nthC 14 (bodyC Try.f7))))))))) 20).guard = none := by kernel_rfl
theorem l7_29_o20 : (regOp (tlC (inC (hdC (tlC (inC (inC (tlC (nthC 14 (bodyC Try.f7))))))))) 20).op = Op.move (.tmp 2) := by kernel_rfl
theorem l7_29_i21 : (regOps (tlC (inC (hdC (tlC (inC (inC (tlC (nthC 14 (bodyC Try.f7))))))))))[21]? = some (regOp (tlC (inC (hdC (tlC (inC (inC (tlC (nthC 14 (bodyC Try.f7))))))))) 21) := by kernel_rfl
theorem l7_29_d21 : (regOp (tlC (inC (hdC (tlC (inC (inC (tlC (nthC 14 (bodyC Try.f7))))))))) 21).dst = some 208 := by kernel_rfl
theorem l7_29_g21 : (regOp (tlC (inC (hdC (tlC (inC (inC (tlC (nthC 14 (bodyC Try.f7))))))))) 21).guard = none := by kernel_rfl
theorem l7_29_o21 : (regOp (tlC (inC (hdC (tlC (inC (inC (tlC (nthC 14 (bodyC Try.f7))))))))) 21).op = Op.binOp .mul 3 (.tmp 206) (.tmp 207) 3 := by kernel_rfl
theorem l7_29_i22 : (regOps (tlC (inC (hdC (tlC (inC (inC (tlC (nthC 14 (bodyC Try.f7))))))))))[22]? = some (regOp (tlC (inC (hdC (tlC (inC (inC (tlC (nthC 14 (bodyC Try.f7))))))))) 22) := by kernel_rfl
theorem l7_29_d22 : (regOp (tlC (inC (hdC (tlC (inC (inC (tlC (nthC 14 (bodyC Try.f7))))))))) 22).dst = some 209 := by kernel_rfl
theorem l7_29_g22 : (regOp (tlC (inC (hdC (tlC (inC (inC (tlC (nthC 14 (bodyC Try.f7))))))))) 22).guard = none := by kernel_rfl
theorem l7_29_o22 : (regOp (tlC (inC (hdC (tlC (inC (inC (tlC (nthC 14 (bodyC Try.f7))))))))) 22).op = Op.move (.tmp 21) := by kernel_rfl
theorem l7_29_i23 : (regOps (tlC (inC (hdC (tlC (inC (inC (tlC (nthC 14 (bodyC Try.f7))))))))))[23]? = some (regOp (tlC (inC (hdC (tlC (inC (inC (tlC (nthC 14 (bodyC Try.f7))))))))) 23) := by kernel_rfl
theorem l7_29_d23 : (regOp (tlC (inC (hdC (tlC (inC (inC (tlC (nthC 14 (bodyC Try.f7))))))))) 23).dst = some 210 := by kernel_rfl
theorem l7_29_g23 : (regOp (tlC (inC (hdC (tlC (inC (inC (tlC (nthC 14 (bodyC Try.f7))))))))) 23).guard = none := by kernel_rfl
theorem l7_29_o23 : (regOp (tlC (inC (hdC (tlC (inC (inC (tlC (nthC 14 (bodyC Try.f7))))))))) 23).op = Op.binOp .add 3 (.tmp 209) (.const (.int .i64 1)) 3 := by kernel_rfl
theorem l7_29_i24 : (regOps (tlC (inC (hdC (tlC (inC (inC (tlC (nthC 14 (bodyC Try.f7))))))))))[24]? = some (regOp (tlC (inC (hdC (tlC (inC (inC (tlC (nthC 14 (bodyC Try.f7))))))))) 24) := by kernel_rfl
theorem l7_29_d24 : (regOp (tlC (inC (hdC (tlC (inC (inC (tlC (nthC 14 (bodyC Try.f7))))))))) 24).dst = some 211 := by kernel_rfl
theorem l7_29_g24 : (regOp (tlC (inC (hdC (tlC (inC (inC (tlC (nthC 14 (bodyC Try.f7))))))))) 24).guard = none := by kernel_rfl
theorem l7_29_o24 : (regOp (tlC (inC (hdC (tlC (inC (inC (tlC (nthC 14 (bodyC Try.f7))))))))) 24).op = Op.move (.tmp 2) := by kernel_rfl
theorem l7_29_i25 : (regOps (tlC (inC (hdC (tlC (inC (inC (tlC (nthC 14 (bodyC Try.f7))))))))))[25]? = some (regOp (tlC (inC (hdC (tlC (inC (inC (tlC (nthC 14 (bodyC Try.f7))))))))) 25) := by kernel_rfl
theorem l7_29_d25 : (regOp (tlC (inC (hdC (tlC (inC (inC (tlC (nthC 14 (bodyC Try.f7))))))))) 25).dst = some 212 := by kernel_rfl
theorem l7_29_g25 : (regOp (tlC (inC (hdC (tlC (inC (inC (tlC (nthC 14 (bodyC Try.f7))))))))) 25).guard = none := by kernel_rfl
theorem l7_29_o25 : (regOp (tlC (inC (hdC (tlC (inC (inC (tlC (nthC 14 (bodyC Try.f7))))))))) 25).op = Op.binOp .mul 3 (.tmp 210) (.tmp 211) 3 := by kernel_rfl
theorem l7_29_i26 : (regOps (tlC (inC (hdC (tlC (inC (inC (tlC (nthC 14 (bodyC Try.f7))))))))))[26]? = some (regOp (tlC (inC (hdC (tlC (inC (inC (tlC (nthC 14 (bodyC Try.f7))))))))) 26) := by kernel_rfl
theorem l7_29_d26 : (regOp (tlC (inC (hdC (tlC (inC (inC (tlC (nthC 14 (bodyC Try.f7))))))))) 26).dst = some 213 := by kernel_rfl
theorem l7_29_g26 : (regOp (tlC (inC (hdC (tlC (inC (inC (tlC (nthC 14 (bodyC Try.f7))))))))) 26).guard = none := by kernel_rfl
theorem l7_29_o26 : (regOp (tlC (inC (hdC (tlC (inC (inC (tlC (nthC 14 (bodyC Try.f7))))))))) 26).op = Op.slice 25 (.tmp 205) (some (.tmp 208)) (some (.tmp 212)) none := by kernel_rfl
theorem l7_29_i27 : (regOps (tlC (inC (hdC (tlC (inC (inC (tlC (nthC 14 (bodyC Try.f7))))))))))[27]? = some (regOp (tlC (inC (hdC (tlC (inC (inC (tlC (nthC 14 (bodyC Try.f7))))))))) 27) := by kernel_rfl
theorem l7_29_d27 : (regOp (tlC (inC (hdC (tlC (inC (inC (tlC (nthC 14 (bodyC Try.f7))))))))) 27).dst = some 214 := by kernel_rfl
theorem l7_29_g27 : (regOp (tlC (inC (hdC (tlC (inC (inC (tlC (nthC 14 (bodyC Try.f7))))))))) 27).guard = none := by kernel_rfl
theorem l7_29_o27 : (regOp (tlC (inC (hdC (tlC (inC (inC (tlC (nthC 14 (bodyC Try.f7))))))))) 27).op = Op.call { callee := .value (.func 27), args := #[.tmp 187, .tmp 191, .tmp 195, .tmp 204, .tmp 213], argTypes := #[70, 31, 3, 56, 25] } := by kernel_rfl
theorem l7_29_f0 : Region.free .any (regOps (tlC (inC (hdC (tlC (inC (inC (tlC (nthC 14 (bodyC Try.f7)))))))))) #[false, false, false, false, false, false, false, false, false, false, false, false, false, false, false, false, false, false, false, false, false, false, false, false, false, false, false, false] 0 = true := by kernel_rfl
theorem l7_29_r0 : (Region.ready .any (regOps (tlC (inC (hdC (tlC (inC (inC (tlC (nthC 14 (bodyC Try.f7)))))))))) #[false, false, false, false, false, false, false, false, false, false, false, false, false, false, false, false, false, false, false, false, false, false, false, false, false, false, false, false]).contains 0 = true := by kernel_rfl
theorem l7_29_f1 : Region.free .any (regOps (tlC (inC (hdC (tlC (inC (inC (tlC (nthC 14 (bodyC Try.f7)))))))))) #[true, false, false, false, false, false, false, false, false, false, false, false, false, false, false, false, false, false, false, false, false, false, false, false, false, false, false, false] 1 = true := by kernel_rfl
theorem l7_29_r1 : (Region.ready .any (regOps (tlC (inC (hdC (tlC (inC (inC (tlC (nthC 14 (bodyC Try.f7)))))))))) #[true, false, false, false, false, false, false, false, false, false, false, false, false, false, false, false, false, false, false, false, false, false, false, false, false, false, false, false]).contains 1 = true := by kernel_rfl
theorem l7_29_f2 : Region.free .any (regOps (tlC (inC (hdC (tlC (inC (inC (tlC (nthC 14 (bodyC Try.f7)))))))))) #[true, true, false, false, false, false, false, false, false, false, false, false, false, false, false, false, false, false, false, false, false, false, false, false, false, false, false, false] 2 = true := by kernel_rfl
theorem l7_29_r2 : (Region.ready .any (regOps (tlC (inC (hdC (tlC (inC (inC (tlC (nthC 14 (bodyC Try.f7)))))))))) #[true, true, false, false, false, false, false, false, false, false, false, false, false, false, false, false, false, false, false, false, false, false, false, false, false, false, false, false]).contains 2 = true := by kernel_rfl
theorem l7_29_f3 : Region.free .any (regOps (tlC (inC (hdC (tlC (inC (inC (tlC (nthC 14 (bodyC Try.f7)))))))))) #[true, true, true, false, false, false, false, false, false, false, false, false, false, false, false, false, false, false, false, false, false, false, false, false, false, false, false, false] 3 = true := by kernel_rfl
theorem l7_29_r3 : (Region.ready .any (regOps (tlC (inC (hdC (tlC (inC (inC (tlC (nthC 14 (bodyC Try.f7)))))))))) #[true, true, true, false, false, false, false, false, false, false, false, false, false, false, false, false, false, false, false, false, false, false, false, false, false, false, false, false]).contains 3 = true := by kernel_rfl
theorem l7_29_f4 : Region.free .any (regOps (tlC (inC (hdC (tlC (inC (inC (tlC (nthC 14 (bodyC Try.f7)))))))))) #[true, true, true, true, false, false, false, false, false, false, false, false, false, false, false, false, false, false, false, false, false, false, false, false, false, false, false, false] 4 = true := by kernel_rfl
theorem l7_29_r4 : (Region.ready .any (regOps (tlC (inC (hdC (tlC (inC (inC (tlC (nthC 14 (bodyC Try.f7)))))))))) #[true, true, true, true, false, false, false, false, false, false, false, false, false, false, false, false, false, false, false, false, false, false, false, false, false, false, false, false]).contains 4 = true := by kernel_rfl
theorem l7_29_f5 : Region.free .any (regOps (tlC (inC (hdC (tlC (inC (inC (tlC (nthC 14 (bodyC Try.f7)))))))))) #[true, true, true, true, true, false, false, false, false, false, false, false, false, false, false, false, false, false, false, false, false, false, false, false, false, false, false, false] 5 = true := by kernel_rfl
theorem l7_29_r5 : (Region.ready .any (regOps (tlC (inC (hdC (tlC (inC (inC (tlC (nthC 14 (bodyC Try.f7)))))))))) #[true, true, true, true, true, false, false, false, false, false, false, false, false, false, false, false, false, false, false, false, false, false, false, false, false, false, false, false]).contains 5 = true := by kernel_rfl
theorem l7_29_f6 : Region.free .any (regOps (tlC (inC (hdC (tlC (inC (inC (tlC (nthC 14 (bodyC Try.f7)))))))))) #[true, true, true, true, true, true, false, false, false, false, false, false, false, false, false, false, false, false, false, false, false, false, false, false, false, false, false, false] 6 = true := by kernel_rfl
theorem l7_29_r6 : (Region.ready .any (regOps (tlC (inC (hdC (tlC (inC (inC (tlC (nthC 14 (bodyC Try.f7)))))))))) #[true, true, true, true, true, true, false, false, false, false, false, false, false, false, false, false, false, false, false, false, false, false, false, false, false, false, false, false]).contains 6 = true := by kernel_rfl
theorem l7_29_f7 : Region.free .any (regOps (tlC (inC (hdC (tlC (inC (inC (tlC (nthC 14 (bodyC Try.f7)))))))))) #[true, true, true, true, true, true, true, false, false, false, false, false, false, false, false, false, false, false, false, false, false, false, false, false, false, false, false, false] 7 = true := by kernel_rfl
theorem l7_29_r7 : (Region.ready .any (regOps (tlC (inC (hdC (tlC (inC (inC (tlC (nthC 14 (bodyC Try.f7)))))))))) #[true, true, true, true, true, true, true, false, false, false, false, false, false, false, false, false, false, false, false, false, false, false, false, false, false, false, false, false]).contains 7 = true := by kernel_rfl
theorem l7_29_f8 : Region.free .any (regOps (tlC (inC (hdC (tlC (inC (inC (tlC (nthC 14 (bodyC Try.f7)))))))))) #[true, true, true, true, true, true, true, true, false, false, false, false, false, false, false, false, false, false, false, false, false, false, false, false, false, false, false, false] 8 = true := by kernel_rfl
theorem l7_29_r8 : (Region.ready .any (regOps (tlC (inC (hdC (tlC (inC (inC (tlC (nthC 14 (bodyC Try.f7)))))))))) #[true, true, true, true, true, true, true, true, false, false, false, false, false, false, false, false, false, false, false, false, false, false, false, false, false, false, false, false]).contains 8 = true := by kernel_rfl
theorem l7_29_f9 : Region.free .any (regOps (tlC (inC (hdC (tlC (inC (inC (tlC (nthC 14 (bodyC Try.f7)))))))))) #[true, true, true, true, true, true, true, true, true, false, false, false, false, false, false, false, false, false, false, false, false, false, false, false, false, false, false, false] 9 = true := by kernel_rfl
theorem l7_29_r9 : (Region.ready .any (regOps (tlC (inC (hdC (tlC (inC (inC (tlC (nthC 14 (bodyC Try.f7)))))))))) #[true, true, true, true, true, true, true, true, true, false, false, false, false, false, false, false, false, false, false, false, false, false, false, false, false, false, false, false]).contains 9 = true := by kernel_rfl
theorem l7_29_f10 : Region.free .any (regOps (tlC (inC (hdC (tlC (inC (inC (tlC (nthC 14 (bodyC Try.f7)))))))))) #[true, true, true, true, true, true, true, true, true, true, false, false, false, false, false, false, false, false, false, false, false, false, false, false, false, false, false, false] 10 = true := by kernel_rfl
theorem l7_29_r10 : (Region.ready .any (regOps (tlC (inC (hdC (tlC (inC (inC (tlC (nthC 14 (bodyC Try.f7)))))))))) #[true, true, true, true, true, true, true, true, true, true, false, false, false, false, false, false, false, false, false, false, false, false, false, false, false, false, false, false]).contains 10 = true := by kernel_rfl
theorem l7_29_f11 : Region.free .any (regOps (tlC (inC (hdC (tlC (inC (inC (tlC (nthC 14 (bodyC Try.f7)))))))))) #[true, true, true, true, true, true, true, true, true, true, true, false, false, false, false, false, false, false, false, false, false, false, false, false, false, false, false, false] 11 = true := by kernel_rfl
theorem l7_29_r11 : (Region.ready .any (regOps (tlC (inC (hdC (tlC (inC (inC (tlC (nthC 14 (bodyC Try.f7)))))))))) #[true, true, true, true, true, true, true, true, true, true, true, false, false, false, false, false, false, false, false, false, false, false, false, false, false, false, false, false]).contains 11 = true := by kernel_rfl
theorem l7_29_f12 : Region.free .any (regOps (tlC (inC (hdC (tlC (inC (inC (tlC (nthC 14 (bodyC Try.f7)))))))))) #[true, true, true, true, true, true, true, true, true, true, true, true, false, false, false, false, false, false, false, false, false, false, false, false, false, false, false, false] 12 = true := by kernel_rfl
theorem l7_29_r12 : (Region.ready .any (regOps (tlC (inC (hdC (tlC (inC (inC (tlC (nthC 14 (bodyC Try.f7)))))))))) #[true, true, true, true, true, true, true, true, true, true, true, true, false, false, false, false, false, false, false, false, false, false, false, false, false, false, false, false]).contains 12 = true := by kernel_rfl
theorem l7_29_f13 : Region.free .any (regOps (tlC (inC (hdC (tlC (inC (inC (tlC (nthC 14 (bodyC Try.f7)))))))))) #[true, true, true, true, true, true, true, true, true, true, true, true, true, false, false, false, false, false, false, false, false, false, false, false, false, false, false, false] 13 = true := by kernel_rfl
theorem l7_29_r13 : (Region.ready .any (regOps (tlC (inC (hdC (tlC (inC (inC (tlC (nthC 14 (bodyC Try.f7)))))))))) #[true, true, true, true, true, true, true, true, true, true, true, true, true, false, false, false, false, false, false, false, false, false, false, false, false, false, false, false]).contains 13 = true := by kernel_rfl
theorem l7_29_f14 : Region.free .any (regOps (tlC (inC (hdC (tlC (inC (inC (tlC (nthC 14 (bodyC Try.f7)))))))))) #[true, true, true, true, true, true, true, true, true, true, true, true, true, true, false, false, false, false, false, false, false, false, false, false, false, false, false, false] 14 = true := by kernel_rfl
theorem l7_29_r14 : (Region.ready .any (regOps (tlC (inC (hdC (tlC (inC (inC (tlC (nthC 14 (bodyC Try.f7)))))))))) #[true, true, true, true, true, true, true, true, true, true, true, true, true, true, false, false, false, false, false, false, false, false, false, false, false, false, false, false]).contains 14 = true := by kernel_rfl
theorem l7_29_f15 : Region.free .any (regOps (tlC (inC (hdC (tlC (inC (inC (tlC (nthC 14 (bodyC Try.f7)))))))))) #[true, true, true, true, true, true, true, true, true, true, true, true, true, true, true, false, false, false, false, false, false, false, false, false, false, false, false, false] 15 = true := by kernel_rfl
theorem l7_29_r15 : (Region.ready .any (regOps (tlC (inC (hdC (tlC (inC (inC (tlC (nthC 14 (bodyC Try.f7)))))))))) #[true, true, true, true, true, true, true, true, true, true, true, true, true, true, true, false, false, false, false, false, false, false, false, false, false, false, false, false]).contains 15 = true := by kernel_rfl
theorem l7_29_f16 : Region.free .any (regOps (tlC (inC (hdC (tlC (inC (inC (tlC (nthC 14 (bodyC Try.f7)))))))))) #[true, true, true, true, true, true, true, true, true, true, true, true, true, true, true, true, false, false, false, false, false, false, false, false, false, false, false, false] 16 = true := by kernel_rfl
theorem l7_29_r16 : (Region.ready .any (regOps (tlC (inC (hdC (tlC (inC (inC (tlC (nthC 14 (bodyC Try.f7)))))))))) #[true, true, true, true, true, true, true, true, true, true, true, true, true, true, true, true, false, false, false, false, false, false, false, false, false, false, false, false]).contains 16 = true := by kernel_rfl
theorem l7_29_f17 : Region.free .any (regOps (tlC (inC (hdC (tlC (inC (inC (tlC (nthC 14 (bodyC Try.f7)))))))))) #[true, true, true, true, true, true, true, true, true, true, true, true, true, true, true, true, true, false, false, false, false, false, false, false, false, false, false, false] 17 = true := by kernel_rfl
theorem l7_29_r17 : (Region.ready .any (regOps (tlC (inC (hdC (tlC (inC (inC (tlC (nthC 14 (bodyC Try.f7)))))))))) #[true, true, true, true, true, true, true, true, true, true, true, true, true, true, true, true, true, false, false, false, false, false, false, false, false, false, false, false]).contains 17 = true := by kernel_rfl
theorem l7_29_f18 : Region.free .any (regOps (tlC (inC (hdC (tlC (inC (inC (tlC (nthC 14 (bodyC Try.f7)))))))))) #[true, true, true, true, true, true, true, true, true, true, true, true, true, true, true, true, true, true, false, false, false, false, false, false, false, false, false, false] 18 = true := by kernel_rfl
theorem l7_29_r18 : (Region.ready .any (regOps (tlC (inC (hdC (tlC (inC (inC (tlC (nthC 14 (bodyC Try.f7)))))))))) #[true, true, true, true, true, true, true, true, true, true, true, true, true, true, true, true, true, true, false, false, false, false, false, false, false, false, false, false]).contains 18 = true := by kernel_rfl
theorem l7_29_f19 : Region.free .any (regOps (tlC (inC (hdC (tlC (inC (inC (tlC (nthC 14 (bodyC Try.f7)))))))))) #[true, true, true, true, true, true, true, true, true, true, true, true, true, true, true, true, true, true, true, false, false, false, false, false, false, false, false, false] 19 = true := by kernel_rfl
theorem l7_29_r19 : (Region.ready .any (regOps (tlC (inC (hdC (tlC (inC (inC (tlC (nthC 14 (bodyC Try.f7)))))))))) #[true, true, true, true, true, true, true, true, true, true, true, true, true, true, true, true, true, true, true, false, false, false, false, false, false, false, false, false]).contains 19 = true := by kernel_rfl
theorem l7_29_f20 : Region.free .any (regOps (tlC (inC (hdC (tlC (inC (inC (tlC (nthC 14 (bodyC Try.f7)))))))))) #[true, true, true, true, true, true, true, true, true, true, true, true, true, true, true, true, true, true, true, true, false, false, false, false, false, false, false, false] 20 = true := by kernel_rfl
theorem l7_29_r20 : (Region.ready .any (regOps (tlC (inC (hdC (tlC (inC (inC (tlC (nthC 14 (bodyC Try.f7)))))))))) #[true, true, true, true, true, true, true, true, true, true, true, true, true, true, true, true, true, true, true, true, false, false, false, false, false, false, false, false]).contains 20 = true := by kernel_rfl
theorem l7_29_f21 : Region.free .any (regOps (tlC (inC (hdC (tlC (inC (inC (tlC (nthC 14 (bodyC Try.f7)))))))))) #[true, true, true, true, true, true, true, true, true, true, true, true, true, true, true, true, true, true, true, true, true, false, false, false, false, false, false, false] 21 = true := by kernel_rfl
theorem l7_29_r21 : (Region.ready .any (regOps (tlC (inC (hdC (tlC (inC (inC (tlC (nthC 14 (bodyC Try.f7)))))))))) #[true, true, true, true, true, true, true, true, true, true, true, true, true, true, true, true, true, true, true, true, true, false, false, false, false, false, false, false]).contains 21 = true := by kernel_rfl
theorem l7_29_f22 : Region.free .any (regOps (tlC (inC (hdC (tlC (inC (inC (tlC (nthC 14 (bodyC Try.f7)))))))))) #[true, true, true, true, true, true, true, true, true, true, true, true, true, true, true, true, true, true, true, true, true, true, false, false, false, false, false, false] 22 = true := by kernel_rfl
theorem l7_29_r22 : (Region.ready .any (regOps (tlC (inC (hdC (tlC (inC (inC (tlC (nthC 14 (bodyC Try.f7)))))))))) #[true, true, true, true, true, true, true, true, true, true, true, true, true, true, true, true, true, true, true, true, true, true, false, false, false, false, false, false]).contains 22 = true := by kernel_rfl
theorem l7_29_f23 : Region.free .any (regOps (tlC (inC (hdC (tlC (inC (inC (tlC (nthC 14 (bodyC Try.f7)))))))))) #[true, true, true, true, true, true, true, true, true, true, true, true, true, true, true, true, true, true, true, true, true, true, true, false, false, false, false, false] 23 = true := by kernel_rfl
theorem l7_29_r23 : (Region.ready .any (regOps (tlC (inC (hdC (tlC (inC (inC (tlC (nthC 14 (bodyC Try.f7)))))))))) #[true, true, true, true, true, true, true, true, true, true, true, true, true, true, true, true, true, true, true, true, true, true, true, false, false, false, false, false]).contains 23 = true := by kernel_rfl
theorem l7_29_f24 : Region.free .any (regOps (tlC (inC (hdC (tlC (inC (inC (tlC (nthC 14 (bodyC Try.f7)))))))))) #[true, true, true, true, true, true, true, true, true, true, true, true, true, true, true, true, true, true, true, true, true, true, true, true, false, false, false, false] 24 = true := by kernel_rfl
theorem l7_29_r24 : (Region.ready .any (regOps (tlC (inC (hdC (tlC (inC (inC (tlC (nthC 14 (bodyC Try.f7)))))))))) #[true, true, true, true, true, true, true, true, true, true, true, true, true, true, true, true, true, true, true, true, true, true, true, true, false, false, false, false]).contains 24 = true := by kernel_rfl
theorem l7_29_f25 : Region.free .any (regOps (tlC (inC (hdC (tlC (inC (inC (tlC (nthC 14 (bodyC Try.f7)))))))))) #[true, true, true, true, true, true, true, true, true, true, true, true, true, true, true, true, true, true, true, true, true, true, true, true, true, false, false, false] 25 = true := by kernel_rfl
theorem l7_29_r25 : (Region.ready .any (regOps (tlC (inC (hdC (tlC (inC (inC (tlC (nthC 14 (bodyC Try.f7)))))))))) #[true, true, true, true, true, true, true, true, true, true, true, true, true, true, true, true, true, true, true, true, true, true, true, true, true, false, false, false]).contains 25 = true := by kernel_rfl
theorem l7_29_f26 : Region.free .any (regOps (tlC (inC (hdC (tlC (inC (inC (tlC (nthC 14 (bodyC Try.f7)))))))))) #[true, true, true, true, true, true, true, true, true, true, true, true, true, true, true, true, true, true, true, true, true, true, true, true, true, true, false, false] 26 = true := by kernel_rfl
theorem l7_29_r26 : (Region.ready .any (regOps (tlC (inC (hdC (tlC (inC (inC (tlC (nthC 14 (bodyC Try.f7)))))))))) #[true, true, true, true, true, true, true, true, true, true, true, true, true, true, true, true, true, true, true, true, true, true, true, true, true, true, false, false]).contains 26 = true := by kernel_rfl
theorem l7_29_r27 : Region.ready .any (regOps (tlC (inC (hdC (tlC (inC (inC (tlC (nthC 14 (bodyC Try.f7)))))))))) #[true, true, true, true, true, true, true, true, true, true, true, true, true, true, true, true, true, true, true, true, true, true, true, true, true, true, true, false] = [27] := by kernel_rfl
theorem l7_29_e : Region.ready .any (regOps (tlC (inC (hdC (tlC (inC (inC (tlC (nthC 14 (bodyC Try.f7)))))))))) #[true, true, true, true, true, true, true, true, true, true, true, true, true, true, true, true, true, true, true, true, true, true, true, true, true, true, true, true] = [] := by kernel_rfl

set_option maxRecDepth 10000 in
set_option maxHeartbeats 1000000 in
theorem l7_29p (kap st : Int) (m K I pb cb rb ib q1 q2 b1 b2 k lo hi : Nat) (p ck : Int) (G : World → Prop) (a : Act) (w : World) (Q : Exit → Act → World → Prop) (hfr : Fr 282 a) (hs : Slots [(0, .int .i64 kap), (1, .int .u32 st), (2, .int .i64 (m : Nat)), (3, .slice (some ⟨pb, 0, none⟩) K K), (4, .slice (some ⟨cb, 0, none⟩) K K), (5, .slice (some ⟨rb, 0, none⟩) I I), (6, .slice (some ⟨ib, 0, none⟩) I I), (15, .slice (some ⟨q1, 0, none⟩) I I), (16, .slice (some ⟨q2, 0, none⟩) I I), (19, .pointer (some ⟨b1, 0, none⟩)), (20, .pointer (some ⟨b2, 0, none⟩)), (21, .int .i64 (k : Nat))] a)
    (hlo : IntKind.i64.wrap ((k : Int) * (m : Int)) = (lo : Int)) (hhi : IntKind.i64.wrap (((k : Int) + 1) * (m : Int)) = (hi : Int)) (hle : (lo : Int) ≤ hi) (hhI : (hi : Int) ≤ I) (hIl : ¬ (I = lo)) (hk1 : IntKind.i64.wrap ((k : Int) + 1) = (k : Int) + 1) (lk : (k : Int) < K)
    (cp : w.cell? ⟨pb, k, none⟩ = some (.int .u64 p)) (cc : w.cell? ⟨cb, k, none⟩ = some (.int .i64 ck))
    (hcall : Calls Try.prog 27 #[.pointer (some ⟨b2, 0, none⟩), .int .u64 p, .int .i64 ck, .slice (some ⟨q1, lo, none⟩) (hi - lo) (I - lo), .slice (some ⟨q2, lo, none⟩) (hi - lo) (I - lo)] w.drew fun e w' => e = .returned (.tuple #[]) ∧ (fun w' : World => w'.cell? ⟨pb, k, none⟩ = some (.int .u64 p) ∧ w'.cell? ⟨cb, k, none⟩ = some (.int .i64 ck)) w' ∧ G w')
    (hQ : ∀ a' w', G w' → Fr 282 a' → Slots [(0, .int .i64 kap), (1, .int .u32 st), (2, .int .i64 (m : Nat)), (3, .slice (some ⟨pb, 0, none⟩) K K), (4, .slice (some ⟨cb, 0, none⟩) K K), (5, .slice (some ⟨rb, 0, none⟩) I I), (6, .slice (some ⟨ib, 0, none⟩) I I), (15, .slice (some ⟨q1, 0, none⟩) I I), (16, .slice (some ⟨q2, 0, none⟩) I I), (19, .pointer (some ⟨b1, 0, none⟩)), (20, .pointer (some ⟨b2, 0, none⟩)), (21, .int .i64 (k : Nat))] a' → Q .normal a' w') :
    Code.wp Try.prog (tlC (inC (hdC (tlC (inC (inC (tlC (nthC 14 (bodyC Try.f7))))))))) Q a w := by
  obtain ⟨t0, t1, t2, t3, t4, t5, t6, t15, t16, t19, t20, t21, -⟩ := hs
  replace t0 : a.tmps[0]?.getD undef = .int .i64 kap := (sl_at a 0).symm.trans t0
  replace t1 : a.tmps[1]?.getD undef = .int .u32 st := (sl_at a 1).symm.trans t1
  replace t2 : a.tmps[2]?.getD undef = .int .i64 (m : Nat) := (sl_at a 2).symm.trans t2
  replace t3 : a.tmps[3]?.getD undef = .slice (some ⟨pb, 0, none⟩) K K := (sl_at a 3).symm.trans t3
  replace t4 : a.tmps[4]?.getD undef = .slice (some ⟨cb, 0, none⟩) K K := (sl_at a 4).symm.trans t4
  replace t5 : a.tmps[5]?.getD undef = .slice (some ⟨rb, 0, none⟩) I I := (sl_at a 5).symm.trans t5
  replace t6 : a.tmps[6]?.getD undef = .slice (some ⟨ib, 0, none⟩) I I := (sl_at a 6).symm.trans t6
  replace t15 : a.tmps[15]?.getD undef = .slice (some ⟨q1, 0, none⟩) I I := (sl_at a 15).symm.trans t15
  replace t16 : a.tmps[16]?.getD undef = .slice (some ⟨q2, 0, none⟩) I I := (sl_at a 16).symm.trans t16
  replace t19 : a.tmps[19]?.getD undef = .pointer (some ⟨b1, 0, none⟩) := (sl_at a 19).symm.trans t19
  replace t20 : a.tmps[20]?.getD undef = .pointer (some ⟨b2, 0, none⟩) := (sl_at a 20).symm.trans t20
  replace t21 : a.tmps[21]?.getD undef = .int .i64 (k : Nat) := (sl_at a 21).symm.trans t21
  have hS0 : (fun w' : World => w'.cell? ⟨pb, k, none⟩ = some (.int .u64 p) ∧ w'.cell? ⟨cb, k, none⟩ = some (.int .i64 ck)) w.drew := ⟨cp, cc⟩
  refine wp_navR (fun w' : World => w'.cell? ⟨pb, k, none⟩ = some (.int .u64 p) ∧ w'.cell? ⟨cb, k, none⟩ = some (.int .i64 ck)) (fun a' w' => G w' ∧ Fr 282 a' ∧ Slots [(0, .int .i64 kap), (1, .int .u32 st), (2, .int .i64 (m : Nat)), (3, .slice (some ⟨pb, 0, none⟩) K K), (4, .slice (some ⟨cb, 0, none⟩) K K), (5, .slice (some ⟨rb, 0, none⟩) I I), (6, .slice (some ⟨ib, 0, none⟩) I I), (15, .slice (some ⟨q1, 0, none⟩) I I), (16, .slice (some ⟨q2, 0, none⟩) I I), (19, .pointer (some ⟨b1, 0, none⟩)), (20, .pointer (some ⟨b2, 0, none⟩)), (21, .int .i64 (k : Nat))] a') 28 #[false, false, false, false, false, false, false, false, false, false, false, false, false, false, false, false, false, false, false, false, false, false, false, false, false, false, false, false] (by kernel_rfl) (by kernel_rfl) (by kernel_rfl) rfl ?_ (fun a' w' ⟨h1, h2, h3⟩ => hQ a' w' h1 h2 h3)
  clear hQ
  refine take1 0 187 _ (.pointer (some ⟨b2, 0, none⟩)) #[true, false, false, false, false, false, false, false, false, false, false, false, false, false, false, false, false, false, false, false, false, false, false, false, false, false, false, false] l7_29_i0 l7_29_d0 (by decide) l7_29_s l7_29_f0 l7_29_r0 l7_29_g0 rfl hS0 hfr ?_ ?_
  · intro wx hx; obtain ⟨h0, h1⟩ := hx; simp only [execOp, l7_29_o0]; go_simp
  intro a1 fr1 t187 ho
  replace t0 := (ho 0 (by decide)).trans t0
  replace t1 := (ho 1 (by decide)).trans t1
  replace t2 := (ho 2 (by decide)).trans t2
  replace t3 := (ho 3 (by decide)).trans t3
  replace t4 := (ho 4 (by decide)).trans t4
  replace t5 := (ho 5 (by decide)).trans t5
  replace t6 := (ho 6 (by decide)).trans t6
  replace t15 := (ho 15 (by decide)).trans t15
  replace t16 := (ho 16 (by decide)).trans t16
  replace t19 := (ho 19 (by decide)).trans t19
  replace t20 := (ho 20 (by decide)).trans t20
  replace t21 := (ho 21 (by decide)).trans t21
  clear hfr ho
  refine take1 1 188 _ (.slice (some ⟨pb, 0, none⟩) K K) #[true, true, false, false, false, false, false, false, false, false, false, false, false, false, false, false, false, false, false, false, false, false, false, false, false, false, false, false] l7_29_i1 l7_29_d1 (by decide) l7_29_s l7_29_f1 l7_29_r1 l7_29_g1 rfl hS0 fr1 ?_ ?_
  · intro wx hx; obtain ⟨h0, h1⟩ := hx; simp only [execOp, l7_29_o1]; go_simp
  intro a2 fr2 t188 ho
  replace t0 := (ho 0 (by decide)).trans t0
  replace t1 := (ho 1 (by decide)).trans t1
  replace t2 := (ho 2 (by decide)).trans t2
  replace t3 := (ho 3 (by decide)).trans t3
  replace t4 := (ho 4 (by decide)).trans t4
  replace t5 := (ho 5 (by decide)).trans t5
  replace t6 := (ho 6 (by decide)).trans t6
  replace t15 := (ho 15 (by decide)).trans t15
  replace t16 := (ho 16 (by decide)).trans t16
  replace t19 := (ho 19 (by decide)).trans t19
  replace t20 := (ho 20 (by decide)).trans t20
  replace t21 := (ho 21 (by decide)).trans t21
  replace t187 := (ho 187 (by decide)).trans t187
  clear fr1 ho
  refine take1 2 189 _ (.int .i64 (k : Nat)) #[true, true, true, false, false, false, false, false, false, false, false, false, false, false, false, false, false, false, false, false, false, false, false, false, false, false, false, false] l7_29_i2 l7_29_d2 (by decide) l7_29_s l7_29_f2 l7_29_r2 l7_29_g2 rfl hS0 fr2 ?_ ?_
  · intro wx hx; obtain ⟨h0, h1⟩ := hx; simp only [execOp, l7_29_o2]; go_simp
  intro a3 fr3 t189 ho
  replace t0 := (ho 0 (by decide)).trans t0
  replace t1 := (ho 1 (by decide)).trans t1
  replace t2 := (ho 2 (by decide)).trans t2
  replace t3 := (ho 3 (by decide)).trans t3
  replace t4 := (ho 4 (by decide)).trans t4
  replace t5 := (ho 5 (by decide)).trans t5
  replace t6 := (ho 6 (by decide)).trans t6
  replace t15 := (ho 15 (by decide)).trans t15
  replace t16 := (ho 16 (by decide)).trans t16
  replace t19 := (ho 19 (by decide)).trans t19
  replace t20 := (ho 20 (by decide)).trans t20
  replace t21 := (ho 21 (by decide)).trans t21
  replace t187 := (ho 187 (by decide)).trans t187
  replace t188 := (ho 188 (by decide)).trans t188
  clear fr2 ho
  refine take1 3 190 _ (.pointer (some ⟨pb, k, none⟩)) #[true, true, true, true, false, false, false, false, false, false, false, false, false, false, false, false, false, false, false, false, false, false, false, false, false, false, false, false] l7_29_i3 l7_29_d3 (by decide) l7_29_s l7_29_f3 l7_29_r3 l7_29_g3 rfl hS0 fr3 ?_ ?_
  · intro wx hx; obtain ⟨h0, h1⟩ := hx; simp only [execOp, l7_29_o3]; go_simp
  intro a4 fr4 t190 ho
  replace t0 := (ho 0 (by decide)).trans t0
  replace t1 := (ho 1 (by decide)).trans t1
  replace t2 := (ho 2 (by decide)).trans t2
  replace t3 := (ho 3 (by decide)).trans t3
  replace t4 := (ho 4 (by decide)).trans t4
  replace t5 := (ho 5 (by decide)).trans t5
  replace t6 := (ho 6 (by decide)).trans t6
  replace t15 := (ho 15 (by decide)).trans t15
  replace t16 := (ho 16 (by decide)).trans t16
  replace t19 := (ho 19 (by decide)).trans t19
  replace t20 := (ho 20 (by decide)).trans t20
  replace t21 := (ho 21 (by decide)).trans t21
  replace t187 := (ho 187 (by decide)).trans t187
  replace t188 := (ho 188 (by decide)).trans t188
  replace t189 := (ho 189 (by decide)).trans t189
  clear fr3 ho
  clear t188 t189
  refine take1 4 191 _ (.int .u64 p) #[true, true, true, true, true, false, false, false, false, false, false, false, false, false, false, false, false, false, false, false, false, false, false, false, false, false, false, false] l7_29_i4 l7_29_d4 (by decide) l7_29_s l7_29_f4 l7_29_r4 l7_29_g4 rfl hS0 fr4 ?_ ?_
  · intro wx hx; obtain ⟨h0, h1⟩ := hx; simp only [execOp, l7_29_o4]; go_simp
  intro a5 fr5 t191 ho
  replace t0 := (ho 0 (by decide)).trans t0
  replace t1 := (ho 1 (by decide)).trans t1
  replace t2 := (ho 2 (by decide)).trans t2
  replace t3 := (ho 3 (by decide)).trans t3
  replace t4 := (ho 4 (by decide)).trans t4
  replace t5 := (ho 5 (by decide)).trans t5
  replace t6 := (ho 6 (by decide)).trans t6
  replace t15 := (ho 15 (by decide)).trans t15
  replace t16 := (ho 16 (by decide)).trans t16
  replace t19 := (ho 19 (by decide)).trans t19
  replace t20 := (ho 20 (by decide)).trans t20
  replace t21 := (ho 21 (by decide)).trans t21
  replace t187 := (ho 187 (by decide)).trans t187
  replace t190 := (ho 190 (by decide)).trans t190
  clear fr4 ho
  clear t190
  refine take1 5 192 _ (.slice (some ⟨cb, 0, none⟩) K K) #[true, true, true, true, true, true, false, false, false, false, false, false, false, false, false, false, false, false, false, false, false, false, false, false, false, false, false, false] l7_29_i5 l7_29_d5 (by decide) l7_29_s l7_29_f5 l7_29_r5 l7_29_g5 rfl hS0 fr5 ?_ ?_
  · intro wx hx; obtain ⟨h0, h1⟩ := hx; simp only [execOp, l7_29_o5]; go_simp
  intro a6 fr6 t192 ho
  replace t0 := (ho 0 (by decide)).trans t0
  replace t1 := (ho 1 (by decide)).trans t1
  replace t2 := (ho 2 (by decide)).trans t2
  replace t3 := (ho 3 (by decide)).trans t3
  replace t4 := (ho 4 (by decide)).trans t4
  replace t5 := (ho 5 (by decide)).trans t5
  replace t6 := (ho 6 (by decide)).trans t6
  replace t15 := (ho 15 (by decide)).trans t15
  replace t16 := (ho 16 (by decide)).trans t16
  replace t19 := (ho 19 (by decide)).trans t19
  replace t20 := (ho 20 (by decide)).trans t20
  replace t21 := (ho 21 (by decide)).trans t21
  replace t187 := (ho 187 (by decide)).trans t187
  replace t191 := (ho 191 (by decide)).trans t191
  clear fr5 ho
  refine take1 6 193 _ (.int .i64 (k : Nat)) #[true, true, true, true, true, true, true, false, false, false, false, false, false, false, false, false, false, false, false, false, false, false, false, false, false, false, false, false] l7_29_i6 l7_29_d6 (by decide) l7_29_s l7_29_f6 l7_29_r6 l7_29_g6 rfl hS0 fr6 ?_ ?_
  · intro wx hx; obtain ⟨h0, h1⟩ := hx; simp only [execOp, l7_29_o6]; go_simp
  intro a7 fr7 t193 ho
  replace t0 := (ho 0 (by decide)).trans t0
  replace t1 := (ho 1 (by decide)).trans t1
  replace t2 := (ho 2 (by decide)).trans t2
  replace t3 := (ho 3 (by decide)).trans t3
  replace t4 := (ho 4 (by decide)).trans t4
  replace t5 := (ho 5 (by decide)).trans t5
  replace t6 := (ho 6 (by decide)).trans t6
  replace t15 := (ho 15 (by decide)).trans t15
  replace t16 := (ho 16 (by decide)).trans t16
  replace t19 := (ho 19 (by decide)).trans t19
  replace t20 := (ho 20 (by decide)).trans t20
  replace t21 := (ho 21 (by decide)).trans t21
  replace t187 := (ho 187 (by decide)).trans t187
  replace t191 := (ho 191 (by decide)).trans t191
  replace t192 := (ho 192 (by decide)).trans t192
  clear fr6 ho
  refine take1 7 194 _ (.pointer (some ⟨cb, k, none⟩)) #[true, true, true, true, true, true, true, true, false, false, false, false, false, false, false, false, false, false, false, false, false, false, false, false, false, false, false, false] l7_29_i7 l7_29_d7 (by decide) l7_29_s l7_29_f7 l7_29_r7 l7_29_g7 rfl hS0 fr7 ?_ ?_
  · intro wx hx; obtain ⟨h0, h1⟩ := hx; simp only [execOp, l7_29_o7]; go_simp
  intro a8 fr8 t194 ho
  replace t0 := (ho 0 (by decide)).trans t0
  replace t1 := (ho 1 (by decide)).trans t1
  replace t2 := (ho 2 (by decide)).trans t2
  replace t3 := (ho 3 (by decide)).trans t3
  replace t4 := (ho 4 (by decide)).trans t4
  replace t5 := (ho 5 (by decide)).trans t5
  replace t6 := (ho 6 (by decide)).trans t6
  replace t15 := (ho 15 (by decide)).trans t15
  replace t16 := (ho 16 (by decide)).trans t16
  replace t19 := (ho 19 (by decide)).trans t19
  replace t20 := (ho 20 (by decide)).trans t20
  replace t21 := (ho 21 (by decide)).trans t21
  replace t187 := (ho 187 (by decide)).trans t187
  replace t191 := (ho 191 (by decide)).trans t191
  replace t192 := (ho 192 (by decide)).trans t192
  replace t193 := (ho 193 (by decide)).trans t193
  clear fr7 ho
  clear t192 t193
  refine take1 8 195 _ (.int .i64 ck) #[true, true, true, true, true, true, true, true, true, false, false, false, false, false, false, false, false, false, false, false, false, false, false, false, false, false, false, false] l7_29_i8 l7_29_d8 (by decide) l7_29_s l7_29_f8 l7_29_r8 l7_29_g8 rfl hS0 fr8 ?_ ?_
  · intro wx hx; obtain ⟨h0, h1⟩ := hx; simp only [execOp, l7_29_o8]; go_simp
  intro a9 fr9 t195 ho
  replace t0 := (ho 0 (by decide)).trans t0
  replace t1 := (ho 1 (by decide)).trans t1
  replace t2 := (ho 2 (by decide)).trans t2
  replace t3 := (ho 3 (by decide)).trans t3
  replace t4 := (ho 4 (by decide)).trans t4
  replace t5 := (ho 5 (by decide)).trans t5
  replace t6 := (ho 6 (by decide)).trans t6
  replace t15 := (ho 15 (by decide)).trans t15
  replace t16 := (ho 16 (by decide)).trans t16
  replace t19 := (ho 19 (by decide)).trans t19
  replace t20 := (ho 20 (by decide)).trans t20
  replace t21 := (ho 21 (by decide)).trans t21
  replace t187 := (ho 187 (by decide)).trans t187
  replace t191 := (ho 191 (by decide)).trans t191
  replace t194 := (ho 194 (by decide)).trans t194
  clear fr8 ho
  clear t194
  refine take1 9 196 _ (.slice (some ⟨q1, 0, none⟩) I I) #[true, true, true, true, true, true, true, true, true, true, false, false, false, false, false, false, false, false, false, false, false, false, false, false, false, false, false, false] l7_29_i9 l7_29_d9 (by decide) l7_29_s l7_29_f9 l7_29_r9 l7_29_g9 rfl hS0 fr9 ?_ ?_
  · intro wx hx; obtain ⟨h0, h1⟩ := hx; simp only [execOp, l7_29_o9]; go_simp
  intro a10 fr10 t196 ho
  replace t0 := (ho 0 (by decide)).trans t0
  replace t1 := (ho 1 (by decide)).trans t1
  replace t2 := (ho 2 (by decide)).trans t2
  replace t3 := (ho 3 (by decide)).trans t3
  replace t4 := (ho 4 (by decide)).trans t4
  replace t5 := (ho 5 (by decide)).trans t5
  replace t6 := (ho 6 (by decide)).trans t6
  replace t15 := (ho 15 (by decide)).trans t15
  replace t16 := (ho 16 (by decide)).trans t16
  replace t19 := (ho 19 (by decide)).trans t19
  replace t20 := (ho 20 (by decide)).trans t20
  replace t21 := (ho 21 (by decide)).trans t21
  replace t187 := (ho 187 (by decide)).trans t187
  replace t191 := (ho 191 (by decide)).trans t191
  replace t195 := (ho 195 (by decide)).trans t195
  clear fr9 ho
  refine take1 10 197 _ (.int .i64 (k : Nat)) #[true, true, true, true, true, true, true, true, true, true, true, false, false, false, false, false, false, false, false, false, false, false, false, false, false, false, false, false] l7_29_i10 l7_29_d10 (by decide) l7_29_s l7_29_f10 l7_29_r10 l7_29_g10 rfl hS0 fr10 ?_ ?_
  · intro wx hx; obtain ⟨h0, h1⟩ := hx; simp only [execOp, l7_29_o10]; go_simp
  intro a11 fr11 t197 ho
  replace t0 := (ho 0 (by decide)).trans t0
  replace t1 := (ho 1 (by decide)).trans t1
  replace t2 := (ho 2 (by decide)).trans t2
  replace t3 := (ho 3 (by decide)).trans t3
  replace t4 := (ho 4 (by decide)).trans t4
  replace t5 := (ho 5 (by decide)).trans t5
  replace t6 := (ho 6 (by decide)).trans t6
  replace t15 := (ho 15 (by decide)).trans t15
  replace t16 := (ho 16 (by decide)).trans t16
  replace t19 := (ho 19 (by decide)).trans t19
  replace t20 := (ho 20 (by decide)).trans t20
  replace t21 := (ho 21 (by decide)).trans t21
  replace t187 := (ho 187 (by decide)).trans t187
  replace t191 := (ho 191 (by decide)).trans t191
  replace t195 := (ho 195 (by decide)).trans t195
  replace t196 := (ho 196 (by decide)).trans t196
  clear fr10 ho
  refine take1 11 198 _ (.int .i64 (m : Nat)) #[true, true, true, true, true, true, true, true, true, true, true, true, false, false, false, false, false, false, false, false, false, false, false, false, false, false, false, false] l7_29_i11 l7_29_d11 (by decide) l7_29_s l7_29_f11 l7_29_r11 l7_29_g11 rfl hS0 fr11 ?_ ?_
  · intro wx hx; obtain ⟨h0, h1⟩ := hx; simp only [execOp, l7_29_o11]; go_simp
  intro a12 fr12 t198 ho
  replace t0 := (ho 0 (by decide)).trans t0
  replace t1 := (ho 1 (by decide)).trans t1
  replace t2 := (ho 2 (by decide)).trans t2
  replace t3 := (ho 3 (by decide)).trans t3
  replace t4 := (ho 4 (by decide)).trans t4
  replace t5 := (ho 5 (by decide)).trans t5
  replace t6 := (ho 6 (by decide)).trans t6
  replace t15 := (ho 15 (by decide)).trans t15
  replace t16 := (ho 16 (by decide)).trans t16
  replace t19 := (ho 19 (by decide)).trans t19
  replace t20 := (ho 20 (by decide)).trans t20
  replace t21 := (ho 21 (by decide)).trans t21
  replace t187 := (ho 187 (by decide)).trans t187
  replace t191 := (ho 191 (by decide)).trans t191
  replace t195 := (ho 195 (by decide)).trans t195
  replace t196 := (ho 196 (by decide)).trans t196
  replace t197 := (ho 197 (by decide)).trans t197
  clear fr11 ho
  refine take1 12 199 _ (.int .i64 (lo : Nat)) #[true, true, true, true, true, true, true, true, true, true, true, true, true, false, false, false, false, false, false, false, false, false, false, false, false, false, false, false] l7_29_i12 l7_29_d12 (by decide) l7_29_s l7_29_f12 l7_29_r12 l7_29_g12 rfl hS0 fr12 ?_ ?_
  · intro wx hx; obtain ⟨h0, h1⟩ := hx; simp only [execOp, l7_29_o12]; go_simp
  intro a13 fr13 t199 ho
  replace t0 := (ho 0 (by decide)).trans t0
  replace t1 := (ho 1 (by decide)).trans t1
  replace t2 := (ho 2 (by decide)).trans t2
  replace t3 := (ho 3 (by decide)).trans t3
  replace t4 := (ho 4 (by decide)).trans t4
  replace t5 := (ho 5 (by decide)).trans t5
  replace t6 := (ho 6 (by decide)).trans t6
  replace t15 := (ho 15 (by decide)).trans t15
  replace t16 := (ho 16 (by decide)).trans t16
  replace t19 := (ho 19 (by decide)).trans t19
  replace t20 := (ho 20 (by decide)).trans t20
  replace t21 := (ho 21 (by decide)).trans t21
  replace t187 := (ho 187 (by decide)).trans t187
  replace t191 := (ho 191 (by decide)).trans t191
  replace t195 := (ho 195 (by decide)).trans t195
  replace t196 := (ho 196 (by decide)).trans t196
  replace t197 := (ho 197 (by decide)).trans t197
  replace t198 := (ho 198 (by decide)).trans t198
  clear fr12 ho
  clear t197 t198
  refine take1 13 200 _ (.int .i64 (k : Nat)) #[true, true, true, true, true, true, true, true, true, true, true, true, true, true, false, false, false, false, false, false, false, false, false, false, false, false, false, false] l7_29_i13 l7_29_d13 (by decide) l7_29_s l7_29_f13 l7_29_r13 l7_29_g13 rfl hS0 fr13 ?_ ?_
  · intro wx hx; obtain ⟨h0, h1⟩ := hx; simp only [execOp, l7_29_o13]; go_simp
  intro a14 fr14 t200 ho
  replace t0 := (ho 0 (by decide)).trans t0
  replace t1 := (ho 1 (by decide)).trans t1
  replace t2 := (ho 2 (by decide)).trans t2
  replace t3 := (ho 3 (by decide)).trans t3
  replace t4 := (ho 4 (by decide)).trans t4
  replace t5 := (ho 5 (by decide)).trans t5
  replace t6 := (ho 6 (by decide)).trans t6
  replace t15 := (ho 15 (by decide)).trans t15
  replace t16 := (ho 16 (by decide)).trans t16
  replace t19 := (ho 19 (by decide)).trans t19
  replace t20 := (ho 20 (by decide)).trans t20
  replace t21 := (ho 21 (by decide)).trans t21
  replace t187 := (ho 187 (by decide)).trans t187
  replace t191 := (ho 191 (by decide)).trans t191
  replace t195 := (ho 195 (by decide)).trans t195
  replace t196 := (ho 196 (by decide)).trans t196
  replace t199 := (ho 199 (by decide)).trans t199
  clear fr13 ho
  refine take1 14 201 _ (.int .i64 ((k : Nat) + 1)) #[true, true, true, true, true, true, true, true, true, true, true, true, true, true, true, false, false, false, false, false, false, false, false, false, false, false, false, false] l7_29_i14 l7_29_d14 (by decide) l7_29_s l7_29_f14 l7_29_r14 l7_29_g14 rfl hS0 fr14 ?_ ?_
  · intro wx hx; obtain ⟨h0, h1⟩ := hx; simp only [execOp, l7_29_o14]; go_simp
  intro a15 fr15 t201 ho
  replace t0 := (ho 0 (by decide)).trans t0
  replace t1 := (ho 1 (by decide)).trans t1
  replace t2 := (ho 2 (by decide)).trans t2
  replace t3 := (ho 3 (by decide)).trans t3
  replace t4 := (ho 4 (by decide)).trans t4
  replace t5 := (ho 5 (by decide)).trans t5
  replace t6 := (ho 6 (by decide)).trans t6
  replace t15 := (ho 15 (by decide)).trans t15
  replace t16 := (ho 16 (by decide)).trans t16
  replace t19 := (ho 19 (by decide)).trans t19
  replace t20 := (ho 20 (by decide)).trans t20
  replace t21 := (ho 21 (by decide)).trans t21
  replace t187 := (ho 187 (by decide)).trans t187
  replace t191 := (ho 191 (by decide)).trans t191
  replace t195 := (ho 195 (by decide)).trans t195
  replace t196 := (ho 196 (by decide)).trans t196
  replace t199 := (ho 199 (by decide)).trans t199
  replace t200 := (ho 200 (by decide)).trans t200
  clear fr14 ho
  clear t200
  refine take1 15 202 _ (.int .i64 (m : Nat)) #[true, true, true, true, true, true, true, true, true, true, true, true, true, true, true, true, false, false, false, false, false, false, false, false, false, false, false, false] l7_29_i15 l7_29_d15 (by decide) l7_29_s l7_29_f15 l7_29_r15 l7_29_g15 rfl hS0 fr15 ?_ ?_
  · intro wx hx; obtain ⟨h0, h1⟩ := hx; simp only [execOp, l7_29_o15]; go_simp
  intro a16 fr16 t202 ho
  replace t0 := (ho 0 (by decide)).trans t0
  replace t1 := (ho 1 (by decide)).trans t1
  replace t2 := (ho 2 (by decide)).trans t2
  replace t3 := (ho 3 (by decide)).trans t3
  replace t4 := (ho 4 (by decide)).trans t4
  replace t5 := (ho 5 (by decide)).trans t5
  replace t6 := (ho 6 (by decide)).trans t6
  replace t15 := (ho 15 (by decide)).trans t15
  replace t16 := (ho 16 (by decide)).trans t16
  replace t19 := (ho 19 (by decide)).trans t19
  replace t20 := (ho 20 (by decide)).trans t20
  replace t21 := (ho 21 (by decide)).trans t21
  replace t187 := (ho 187 (by decide)).trans t187
  replace t191 := (ho 191 (by decide)).trans t191
  replace t195 := (ho 195 (by decide)).trans t195
  replace t196 := (ho 196 (by decide)).trans t196
  replace t199 := (ho 199 (by decide)).trans t199
  replace t201 := (ho 201 (by decide)).trans t201
  clear fr15 ho
  refine take1 16 203 _ (.int .i64 (hi : Nat)) #[true, true, true, true, true, true, true, true, true, true, true, true, true, true, true, true, true, false, false, false, false, false, false, false, false, false, false, false] l7_29_i16 l7_29_d16 (by decide) l7_29_s l7_29_f16 l7_29_r16 l7_29_g16 rfl hS0 fr16 ?_ ?_
  · intro wx hx; obtain ⟨h0, h1⟩ := hx; simp only [execOp, l7_29_o16]; go_simp
  intro a17 fr17 t203 ho
  replace t0 := (ho 0 (by decide)).trans t0
  replace t1 := (ho 1 (by decide)).trans t1
  replace t2 := (ho 2 (by decide)).trans t2
  replace t3 := (ho 3 (by decide)).trans t3
  replace t4 := (ho 4 (by decide)).trans t4
  replace t5 := (ho 5 (by decide)).trans t5
  replace t6 := (ho 6 (by decide)).trans t6
  replace t15 := (ho 15 (by decide)).trans t15
  replace t16 := (ho 16 (by decide)).trans t16
  replace t19 := (ho 19 (by decide)).trans t19
  replace t20 := (ho 20 (by decide)).trans t20
  replace t21 := (ho 21 (by decide)).trans t21
  replace t187 := (ho 187 (by decide)).trans t187
  replace t191 := (ho 191 (by decide)).trans t191
  replace t195 := (ho 195 (by decide)).trans t195
  replace t196 := (ho 196 (by decide)).trans t196
  replace t199 := (ho 199 (by decide)).trans t199
  replace t201 := (ho 201 (by decide)).trans t201
  replace t202 := (ho 202 (by decide)).trans t202
  clear fr16 ho
  clear t201 t202
  refine take1 17 204 _ (.slice (some ⟨q1, lo, none⟩) (hi - lo) (I - lo)) #[true, true, true, true, true, true, true, true, true, true, true, true, true, true, true, true, true, true, false, false, false, false, false, false, false, false, false, false] l7_29_i17 l7_29_d17 (by decide) l7_29_s l7_29_f17 l7_29_r17 l7_29_g17 rfl hS0 fr17 ?_ ?_
  · intro wx hx; obtain ⟨h0, h1⟩ := hx; simp only [execOp, l7_29_o17]; go_simp
  intro a18 fr18 t204 ho
  replace t0 := (ho 0 (by decide)).trans t0
  replace t1 := (ho 1 (by decide)).trans t1
  replace t2 := (ho 2 (by decide)).trans t2
  replace t3 := (ho 3 (by decide)).trans t3
  replace t4 := (ho 4 (by decide)).trans t4
  replace t5 := (ho 5 (by decide)).trans t5
  replace t6 := (ho 6 (by decide)).trans t6
  replace t15 := (ho 15 (by decide)).trans t15
  replace t16 := (ho 16 (by decide)).trans t16
  replace t19 := (ho 19 (by decide)).trans t19
  replace t20 := (ho 20 (by decide)).trans t20
  replace t21 := (ho 21 (by decide)).trans t21
  replace t187 := (ho 187 (by decide)).trans t187
  replace t191 := (ho 191 (by decide)).trans t191
  replace t195 := (ho 195 (by decide)).trans t195
  replace t196 := (ho 196 (by decide)).trans t196
  replace t199 := (ho 199 (by decide)).trans t199
  replace t203 := (ho 203 (by decide)).trans t203
  clear fr17 ho
  clear t196 t199 t203
  refine take1 18 205 _ (.slice (some ⟨q2, 0, none⟩) I I) #[true, true, true, true, true, true, true, true, true, true, true, true, true, true, true, true, true, true, true, false, false, false, false, false, false, false, false, false] l7_29_i18 l7_29_d18 (by decide) l7_29_s l7_29_f18 l7_29_r18 l7_29_g18 rfl hS0 fr18 ?_ ?_
  · intro wx hx; obtain ⟨h0, h1⟩ := hx; simp only [execOp, l7_29_o18]; go_simp
  intro a19 fr19 t205 ho
  replace t0 := (ho 0 (by decide)).trans t0
  replace t1 := (ho 1 (by decide)).trans t1
  replace t2 := (ho 2 (by decide)).trans t2
  replace t3 := (ho 3 (by decide)).trans t3
  replace t4 := (ho 4 (by decide)).trans t4
  replace t5 := (ho 5 (by decide)).trans t5
  replace t6 := (ho 6 (by decide)).trans t6
  replace t15 := (ho 15 (by decide)).trans t15
  replace t16 := (ho 16 (by decide)).trans t16
  replace t19 := (ho 19 (by decide)).trans t19
  replace t20 := (ho 20 (by decide)).trans t20
  replace t21 := (ho 21 (by decide)).trans t21
  replace t187 := (ho 187 (by decide)).trans t187
  replace t191 := (ho 191 (by decide)).trans t191
  replace t195 := (ho 195 (by decide)).trans t195
  replace t204 := (ho 204 (by decide)).trans t204
  clear fr18 ho
  refine take1 19 206 _ (.int .i64 (k : Nat)) #[true, true, true, true, true, true, true, true, true, true, true, true, true, true, true, true, true, true, true, true, false, false, false, false, false, false, false, false] l7_29_i19 l7_29_d19 (by decide) l7_29_s l7_29_f19 l7_29_r19 l7_29_g19 rfl hS0 fr19 ?_ ?_
  · intro wx hx; obtain ⟨h0, h1⟩ := hx; simp only [execOp, l7_29_o19]; go_simp
  intro a20 fr20 t206 ho
  replace t0 := (ho 0 (by decide)).trans t0
  replace t1 := (ho 1 (by decide)).trans t1
  replace t2 := (ho 2 (by decide)).trans t2
  replace t3 := (ho 3 (by decide)).trans t3
  replace t4 := (ho 4 (by decide)).trans t4
  replace t5 := (ho 5 (by decide)).trans t5
  replace t6 := (ho 6 (by decide)).trans t6
  replace t15 := (ho 15 (by decide)).trans t15
  replace t16 := (ho 16 (by decide)).trans t16
  replace t19 := (ho 19 (by decide)).trans t19
  replace t20 := (ho 20 (by decide)).trans t20
  replace t21 := (ho 21 (by decide)).trans t21
  replace t187 := (ho 187 (by decide)).trans t187
  replace t191 := (ho 191 (by decide)).trans t191
  replace t195 := (ho 195 (by decide)).trans t195
  replace t204 := (ho 204 (by decide)).trans t204
  replace t205 := (ho 205 (by decide)).trans t205
  clear fr19 ho
  refine take1 20 207 _ (.int .i64 (m : Nat)) #[true, true, true, true, true, true, true, true, true, true, true, true, true, true, true, true, true, true, true, true, true, false, false, false, false, false, false, false] l7_29_i20 l7_29_d20 (by decide) l7_29_s l7_29_f20 l7_29_r20 l7_29_g20 rfl hS0 fr20 ?_ ?_
  · intro wx hx; obtain ⟨h0, h1⟩ := hx; simp only [execOp, l7_29_o20]; go_simp
  intro a21 fr21 t207 ho
  replace t0 := (ho 0 (by decide)).trans t0
  replace t1 := (ho 1 (by decide)).trans t1
  replace t2 := (ho 2 (by decide)).trans t2
  replace t3 := (ho 3 (by decide)).trans t3
  replace t4 := (ho 4 (by decide)).trans t4
  replace t5 := (ho 5 (by decide)).trans t5
  replace t6 := (ho 6 (by decide)).trans t6
  replace t15 := (ho 15 (by decide)).trans t15
  replace t16 := (ho 16 (by decide)).trans t16
  replace t19 := (ho 19 (by decide)).trans t19
  replace t20 := (ho 20 (by decide)).trans t20
  replace t21 := (ho 21 (by decide)).trans t21
  replace t187 := (ho 187 (by decide)).trans t187
  replace t191 := (ho 191 (by decide)).trans t191
  replace t195 := (ho 195 (by decide)).trans t195
  replace t204 := (ho 204 (by decide)).trans t204
  replace t205 := (ho 205 (by decide)).trans t205
  replace t206 := (ho 206 (by decide)).trans t206
  clear fr20 ho
  refine take1 21 208 _ (.int .i64 (lo : Nat)) #[true, true, true, true, true, true, true, true, true, true, true, true, true, true, true, true, true, true, true, true, true, true, false, false, false, false, false, false] l7_29_i21 l7_29_d21 (by decide) l7_29_s l7_29_f21 l7_29_r21 l7_29_g21 rfl hS0 fr21 ?_ ?_
  · intro wx hx; obtain ⟨h0, h1⟩ := hx; simp only [execOp, l7_29_o21]; go_simp
  intro a22 fr22 t208 ho
  replace t0 := (ho 0 (by decide)).trans t0
  replace t1 := (ho 1 (by decide)).trans t1
  replace t2 := (ho 2 (by decide)).trans t2
  replace t3 := (ho 3 (by decide)).trans t3
  replace t4 := (ho 4 (by decide)).trans t4
  replace t5 := (ho 5 (by decide)).trans t5
  replace t6 := (ho 6 (by decide)).trans t6
  replace t15 := (ho 15 (by decide)).trans t15
  replace t16 := (ho 16 (by decide)).trans t16
  replace t19 := (ho 19 (by decide)).trans t19
  replace t20 := (ho 20 (by decide)).trans t20
  replace t21 := (ho 21 (by decide)).trans t21
  replace t187 := (ho 187 (by decide)).trans t187
  replace t191 := (ho 191 (by decide)).trans t191
  replace t195 := (ho 195 (by decide)).trans t195
  replace t204 := (ho 204 (by decide)).trans t204
  replace t205 := (ho 205 (by decide)).trans t205
  replace t206 := (ho 206 (by decide)).trans t206
  replace t207 := (ho 207 (by decide)).trans t207
  clear fr21 ho
  clear t206 t207
  refine take1 22 209 _ (.int .i64 (k : Nat)) #[true, true, true, true, true, true, true, true, true, true, true, true, true, true, true, true, true, true, true, true, true, true, true, false, false, false, false, false] l7_29_i22 l7_29_d22 (by decide) l7_29_s l7_29_f22 l7_29_r22 l7_29_g22 rfl hS0 fr22 ?_ ?_
  · intro wx hx; obtain ⟨h0, h1⟩ := hx; simp only [execOp, l7_29_o22]; go_simp
  intro a23 fr23 t209 ho
  replace t0 := (ho 0 (by decide)).trans t0
  replace t1 := (ho 1 (by decide)).trans t1
  replace t2 := (ho 2 (by decide)).trans t2
  replace t3 := (ho 3 (by decide)).trans t3
  replace t4 := (ho 4 (by decide)).trans t4
  replace t5 := (ho 5 (by decide)).trans t5
  replace t6 := (ho 6 (by decide)).trans t6
  replace t15 := (ho 15 (by decide)).trans t15
  replace t16 := (ho 16 (by decide)).trans t16
  replace t19 := (ho 19 (by decide)).trans t19
  replace t20 := (ho 20 (by decide)).trans t20
  replace t21 := (ho 21 (by decide)).trans t21
  replace t187 := (ho 187 (by decide)).trans t187
  replace t191 := (ho 191 (by decide)).trans t191
  replace t195 := (ho 195 (by decide)).trans t195
  replace t204 := (ho 204 (by decide)).trans t204
  replace t205 := (ho 205 (by decide)).trans t205
  replace t208 := (ho 208 (by decide)).trans t208
  clear fr22 ho
  refine take1 23 210 _ (.int .i64 ((k : Nat) + 1)) #[true, true, true, true, true, true, true, true, true, true, true, true, true, true, true, true, true, true, true, true, true, true, true, true, false, false, false, false] l7_29_i23 l7_29_d23 (by decide) l7_29_s l7_29_f23 l7_29_r23 l7_29_g23 rfl hS0 fr23 ?_ ?_
  · intro wx hx; obtain ⟨h0, h1⟩ := hx; simp only [execOp, l7_29_o23]; go_simp
  intro a24 fr24 t210 ho
  replace t0 := (ho 0 (by decide)).trans t0
  replace t1 := (ho 1 (by decide)).trans t1
  replace t2 := (ho 2 (by decide)).trans t2
  replace t3 := (ho 3 (by decide)).trans t3
  replace t4 := (ho 4 (by decide)).trans t4
  replace t5 := (ho 5 (by decide)).trans t5
  replace t6 := (ho 6 (by decide)).trans t6
  replace t15 := (ho 15 (by decide)).trans t15
  replace t16 := (ho 16 (by decide)).trans t16
  replace t19 := (ho 19 (by decide)).trans t19
  replace t20 := (ho 20 (by decide)).trans t20
  replace t21 := (ho 21 (by decide)).trans t21
  replace t187 := (ho 187 (by decide)).trans t187
  replace t191 := (ho 191 (by decide)).trans t191
  replace t195 := (ho 195 (by decide)).trans t195
  replace t204 := (ho 204 (by decide)).trans t204
  replace t205 := (ho 205 (by decide)).trans t205
  replace t208 := (ho 208 (by decide)).trans t208
  replace t209 := (ho 209 (by decide)).trans t209
  clear fr23 ho
  clear t209
  refine take1 24 211 _ (.int .i64 (m : Nat)) #[true, true, true, true, true, true, true, true, true, true, true, true, true, true, true, true, true, true, true, true, true, true, true, true, true, false, false, false] l7_29_i24 l7_29_d24 (by decide) l7_29_s l7_29_f24 l7_29_r24 l7_29_g24 rfl hS0 fr24 ?_ ?_
  · intro wx hx; obtain ⟨h0, h1⟩ := hx; simp only [execOp, l7_29_o24]; go_simp
  intro a25 fr25 t211 ho
  replace t0 := (ho 0 (by decide)).trans t0
  replace t1 := (ho 1 (by decide)).trans t1
  replace t2 := (ho 2 (by decide)).trans t2
  replace t3 := (ho 3 (by decide)).trans t3
  replace t4 := (ho 4 (by decide)).trans t4
  replace t5 := (ho 5 (by decide)).trans t5
  replace t6 := (ho 6 (by decide)).trans t6
  replace t15 := (ho 15 (by decide)).trans t15
  replace t16 := (ho 16 (by decide)).trans t16
  replace t19 := (ho 19 (by decide)).trans t19
  replace t20 := (ho 20 (by decide)).trans t20
  replace t21 := (ho 21 (by decide)).trans t21
  replace t187 := (ho 187 (by decide)).trans t187
  replace t191 := (ho 191 (by decide)).trans t191
  replace t195 := (ho 195 (by decide)).trans t195
  replace t204 := (ho 204 (by decide)).trans t204
  replace t205 := (ho 205 (by decide)).trans t205
  replace t208 := (ho 208 (by decide)).trans t208
  replace t210 := (ho 210 (by decide)).trans t210
  clear fr24 ho
  refine take1 25 212 _ (.int .i64 (hi : Nat)) #[true, true, true, true, true, true, true, true, true, true, true, true, true, true, true, true, true, true, true, true, true, true, true, true, true, true, false, false] l7_29_i25 l7_29_d25 (by decide) l7_29_s l7_29_f25 l7_29_r25 l7_29_g25 rfl hS0 fr25 ?_ ?_
  · intro wx hx; obtain ⟨h0, h1⟩ := hx; simp only [execOp, l7_29_o25]; go_simp
  intro a26 fr26 t212 ho
  replace t0 := (ho 0 (by decide)).trans t0
  replace t1 := (ho 1 (by decide)).trans t1
  replace t2 := (ho 2 (by decide)).trans t2
  replace t3 := (ho 3 (by decide)).trans t3
  replace t4 := (ho 4 (by decide)).trans t4
  replace t5 := (ho 5 (by decide)).trans t5
  replace t6 := (ho 6 (by decide)).trans t6
  replace t15 := (ho 15 (by decide)).trans t15
  replace t16 := (ho 16 (by decide)).trans t16
  replace t19 := (ho 19 (by decide)).trans t19
  replace t20 := (ho 20 (by decide)).trans t20
  replace t21 := (ho 21 (by decide)).trans t21
  replace t187 := (ho 187 (by decide)).trans t187
  replace t191 := (ho 191 (by decide)).trans t191
  replace t195 := (ho 195 (by decide)).trans t195
  replace t204 := (ho 204 (by decide)).trans t204
  replace t205 := (ho 205 (by decide)).trans t205
  replace t208 := (ho 208 (by decide)).trans t208
  replace t210 := (ho 210 (by decide)).trans t210
  replace t211 := (ho 211 (by decide)).trans t211
  clear fr25 ho
  clear t210 t211
  refine take1 26 213 _ (.slice (some ⟨q2, lo, none⟩) (hi - lo) (I - lo)) #[true, true, true, true, true, true, true, true, true, true, true, true, true, true, true, true, true, true, true, true, true, true, true, true, true, true, true, false] l7_29_i26 l7_29_d26 (by decide) l7_29_s l7_29_f26 l7_29_r26 l7_29_g26 rfl hS0 fr26 ?_ ?_
  · intro wx hx; obtain ⟨h0, h1⟩ := hx; simp only [execOp, l7_29_o26]; go_simp
  intro a27 fr27 t213 ho
  replace t0 := (ho 0 (by decide)).trans t0
  replace t1 := (ho 1 (by decide)).trans t1
  replace t2 := (ho 2 (by decide)).trans t2
  replace t3 := (ho 3 (by decide)).trans t3
  replace t4 := (ho 4 (by decide)).trans t4
  replace t5 := (ho 5 (by decide)).trans t5
  replace t6 := (ho 6 (by decide)).trans t6
  replace t15 := (ho 15 (by decide)).trans t15
  replace t16 := (ho 16 (by decide)).trans t16
  replace t19 := (ho 19 (by decide)).trans t19
  replace t20 := (ho 20 (by decide)).trans t20
  replace t21 := (ho 21 (by decide)).trans t21
  replace t187 := (ho 187 (by decide)).trans t187
  replace t191 := (ho 191 (by decide)).trans t191
  replace t195 := (ho 195 (by decide)).trans t195
  replace t204 := (ho 204 (by decide)).trans t204
  replace t205 := (ho 205 (by decide)).trans t205
  replace t208 := (ho 208 (by decide)).trans t208
  replace t212 := (ho 212 (by decide)).trans t212
  clear fr26 ho
  clear t205 t208 t212
  refine only1 27 l7_29_r27 (actC 27 214 _ (.tuple #[]) 27 #[.pointer (some ⟨b2, 0, none⟩), .int .u64 p, .int .i64 ck, .slice (some ⟨q1, lo, none⟩) (hi - lo) (I - lo), .slice (some ⟨q2, lo, none⟩) (hi - lo) (I - lo)] G #[true, true, true, true, true, true, true, true, true, true, true, true, true, true, true, true, true, true, true, true, true, true, true, true, true, true, true, true] l7_29_i27 l7_29_d27 (by decide) l7_29_g27 rfl fr27 ?_ hcall ?_)
  · simp only [execOp, l7_29_o27]; clear hcall; go_simp
  intro aE wE hG frE tE ho
  replace t0 := (ho 0 (by decide)).trans t0
  replace t1 := (ho 1 (by decide)).trans t1
  replace t2 := (ho 2 (by decide)).trans t2
  replace t3 := (ho 3 (by decide)).trans t3
  replace t4 := (ho 4 (by decide)).trans t4
  replace t5 := (ho 5 (by decide)).trans t5
  replace t6 := (ho 6 (by decide)).trans t6
  replace t15 := (ho 15 (by decide)).trans t15
  replace t16 := (ho 16 (by decide)).trans t16
  replace t19 := (ho 19 (by decide)).trans t19
  replace t20 := (ho 20 (by decide)).trans t20
  replace t21 := (ho 21 (by decide)).trans t21
  refine wpAnyH_done l7_29_e ?_ _
  exact ⟨hG, frE, (sl_at _ _).trans t0, (sl_at _ _).trans t1, (sl_at _ _).trans t2, (sl_at _ _).trans t3, (sl_at _ _).trans t4, (sl_at _ _).trans t5, (sl_at _ _).trans t6, (sl_at _ _).trans t15, (sl_at _ _).trans t16, (sl_at _ _).trans t19, (sl_at _ _).trans t20, (sl_at _ _).trans t21, trivial⟩

set_option maxRecDepth 10000 in
set_option maxHeartbeats 1000000 in
theorem l7_29z (kap st : Int) (K pb cb b1 b2 k : Nat) (x5 x6 x15 x16 : Option Addr) (p ck : Int) (G : World → Prop) (a : Act) (w : World) (Q : Exit → Act → World → Prop) (hfr : Fr 282 a) (hs : Slots [(0, .int .i64 kap), (1, .int .u32 st), (2, .int .i64 0), (3, .slice (some ⟨pb, 0, none⟩) K K), (4, .slice (some ⟨cb, 0, none⟩) K K), (5, .slice x5 0 0), (6, .slice x6 0 0), (15, .slice x15 0 0), (16, .slice x16 0 0), (19, .pointer (some ⟨b1, 0, none⟩)), (20, .pointer (some ⟨b2, 0, none⟩)), (21, .int .i64 (k : Nat))] a)
    (hw0 : IntKind.i64.wrap 0 = 0) (hk1 : IntKind.i64.wrap ((k : Int) + 1) = (k : Int) + 1) (lk : (k : Int) < K)
    (cp : w.cell? ⟨pb, k, none⟩ = some (.int .u64 p)) (cc : w.cell? ⟨cb, k, none⟩ = some (.int .i64 ck))
    (hcall : Calls Try.prog 27 #[.pointer (some ⟨b2, 0, none⟩), .int .u64 p, .int .i64 ck, .slice x15 0 0, .slice x16 0 0] w.drew fun e w' => e = .returned (.tuple #[]) ∧ (fun w' : World => w'.cell? ⟨pb, k, none⟩ = some (.int .u64 p) ∧ w'.cell? ⟨cb, k, none⟩ = some (.int .i64 ck)) w' ∧ G w')
    (hQ : ∀ a' w', G w' → Fr 282 a' → Slots [(0, .int .i64 kap), (1, .int .u32 st), (2, .int .i64 0), (3, .slice (some ⟨pb, 0, none⟩) K K), (4, .slice (some ⟨cb, 0, none⟩) K K), (5, .slice x5 0 0), (6, .slice x6 0 0), (15, .slice x15 0 0), (16, .slice x16 0 0), (19, .pointer (some ⟨b1, 0, none⟩)), (20, .pointer (some ⟨b2, 0, none⟩)), (21, .int .i64 (k : Nat))] a' → Q .normal a' w') :
    Code.wp Try.prog (tlC (inC (hdC (tlC (inC (inC (tlC (nthC 14 (bodyC Try.f7))))))))) Q a w := by
  obtain ⟨t0, t1, t2, t3, t4, t5, t6, t15, t16, t19, t20, t21, -⟩ := hs
  replace t0 : a.tmps[0]?.getD undef = .int .i64 kap := (sl_at a 0).symm.trans t0
  replace t1 : a.tmps[1]?.getD undef = .int .u32 st := (sl_at a 1).symm.trans t1
  replace t2 : a.tmps[2]?.getD undef = .int .i64 0 := (sl_at a 2).symm.trans t2
  replace t3 : a.tmps[3]?.getD undef = .slice (some ⟨pb, 0, none⟩) K K := (sl_at a 3).symm.trans t3
  replace t4 : a.tmps[4]?.getD undef = .slice (some ⟨cb, 0, none⟩) K K := (sl_at a 4).symm.trans t4
  replace t5 : a.tmps[5]?.getD undef = .slice x5 0 0 := (sl_at a 5).symm.trans t5
  replace t6 : a.tmps[6]?.getD undef = .slice x6 0 0 := (sl_at a 6).symm.trans t6
  replace t15 : a.tmps[15]?.getD undef = .slice x15 0 0 := (sl_at a 15).symm.trans t15
  replace t16 : a.tmps[16]?.getD undef = .slice x16 0 0 := (sl_at a 16).symm.trans t16
  replace t19 : a.tmps[19]?.getD undef = .pointer (some ⟨b1, 0, none⟩) := (sl_at a 19).symm.trans t19
  replace t20 : a.tmps[20]?.getD undef = .pointer (some ⟨b2, 0, none⟩) := (sl_at a 20).symm.trans t20
  replace t21 : a.tmps[21]?.getD undef = .int .i64 (k : Nat) := (sl_at a 21).symm.trans t21
  have hS0 : (fun w' : World => w'.cell? ⟨pb, k, none⟩ = some (.int .u64 p) ∧ w'.cell? ⟨cb, k, none⟩ = some (.int .i64 ck)) w.drew := ⟨cp, cc⟩
  refine wp_navR (fun w' : World => w'.cell? ⟨pb, k, none⟩ = some (.int .u64 p) ∧ w'.cell? ⟨cb, k, none⟩ = some (.int .i64 ck)) (fun a' w' => G w' ∧ Fr 282 a' ∧ Slots [(0, .int .i64 kap), (1, .int .u32 st), (2, .int .i64 0), (3, .slice (some ⟨pb, 0, none⟩) K K), (4, .slice (some ⟨cb, 0, none⟩) K K), (5, .slice x5 0 0), (6, .slice x6 0 0), (15, .slice x15 0 0), (16, .slice x16 0 0), (19, .pointer (some ⟨b1, 0, none⟩)), (20, .pointer (some ⟨b2, 0, none⟩)), (21, .int .i64 (k : Nat))] a') 28 #[false, false, false, false, false, false, false, false, false, false, false, false, false, false, false, false, false, false, false, false, false, false, false, false, false, false, false, false] (by kernel_rfl) (by kernel_rfl) (by kernel_rfl) rfl ?_ (fun a' w' ⟨h1, h2, h3⟩ => hQ a' w' h1 h2 h3)
  clear hQ
  refine take1 0 187 _ (.pointer (some ⟨b2, 0, none⟩)) #[true, false, false, false, false, false, false, false, false, false, false, false, false, false, false, false, false, false, false, false, false, false, false, false, false, false, false, false] l7_29_i0 l7_29_d0 (by decide) l7_29_s l7_29_f0 l7_29_r0 l7_29_g0 rfl hS0 hfr ?_ ?_
  · intro wx hx; obtain ⟨h0, h1⟩ := hx; simp only [execOp, l7_29_o0]; go_simp
  intro a1 fr1 t187 ho
  replace t0 := (ho 0 (by decide)).trans t0
  replace t1 := (ho 1 (by decide)).trans t1
  replace t2 := (ho 2 (by decide)).trans t2
  replace t3 := (ho 3 (by decide)).trans t3
  replace t4 := (ho 4 (by decide)).trans t4
  replace t5 := (ho 5 (by decide)).trans t5
  replace t6 := (ho 6 (by decide)).trans t6
  replace t15 := (ho 15 (by decide)).trans t15
  replace t16 := (ho 16 (by decide)).trans t16
  replace t19 := (ho 19 (by decide)).trans t19
  replace t20 := (ho 20 (by decide)).trans t20
  replace t21 := (ho 21 (by decide)).trans t21
  clear hfr ho
  refine take1 1 188 _ (.slice (some ⟨pb, 0, none⟩) K K) #[true, true, false, false, false, false, false, false, false, false, false, false, false, false, false, false, false, false, false, false, false, false, false, false, false, false, false, false] l7_29_i1 l7_29_d1 (by decide) l7_29_s l7_29_f1 l7_29_r1 l7_29_g1 rfl hS0 fr1 ?_ ?_
  · intro wx hx; obtain ⟨h0, h1⟩ := hx; simp only [execOp, l7_29_o1]; go_simp
  intro a2 fr2 t188 ho
  replace t0 := (ho 0 (by decide)).trans t0
  replace t1 := (ho 1 (by decide)).trans t1
  replace t2 := (ho 2 (by decide)).trans t2
  replace t3 := (ho 3 (by decide)).trans t3
  replace t4 := (ho 4 (by decide)).trans t4
  replace t5 := (ho 5 (by decide)).trans t5
  replace t6 := (ho 6 (by decide)).trans t6
  replace t15 := (ho 15 (by decide)).trans t15
  replace t16 := (ho 16 (by decide)).trans t16
  replace t19 := (ho 19 (by decide)).trans t19
  replace t20 := (ho 20 (by decide)).trans t20
  replace t21 := (ho 21 (by decide)).trans t21
  replace t187 := (ho 187 (by decide)).trans t187
  clear fr1 ho
  refine take1 2 189 _ (.int .i64 (k : Nat)) #[true, true, true, false, false, false, false, false, false, false, false, false, false, false, false, false, false, false, false, false, false, false, false, false, false, false, false, false] l7_29_i2 l7_29_d2 (by decide) l7_29_s l7_29_f2 l7_29_r2 l7_29_g2 rfl hS0 fr2 ?_ ?_
  · intro wx hx; obtain ⟨h0, h1⟩ := hx; simp only [execOp, l7_29_o2]; go_simp
  intro a3 fr3 t189 ho
  replace t0 := (ho 0 (by decide)).trans t0
  replace t1 := (ho 1 (by decide)).trans t1
  replace t2 := (ho 2 (by decide)).trans t2
  replace t3 := (ho 3 (by decide)).trans t3
  replace t4 := (ho 4 (by decide)).trans t4
  replace t5 := (ho 5 (by decide)).trans t5
  replace t6 := (ho 6 (by decide)).trans t6
  replace t15 := (ho 15 (by decide)).trans t15
  replace t16 := (ho 16 (by decide)).trans t16
  replace t19 := (ho 19 (by decide)).trans t19
  replace t20 := (ho 20 (by decide)).trans t20
  replace t21 := (ho 21 (by decide)).trans t21
  replace t187 := (ho 187 (by decide)).trans t187
  replace t188 := (ho 188 (by decide)).trans t188
  clear fr2 ho
  refine take1 3 190 _ (.pointer (some ⟨pb, k, none⟩)) #[true, true, true, true, false, false, false, false, false, false, false, false, false, false, false, false, false, false, false, false, false, false, false, false, false, false, false, false] l7_29_i3 l7_29_d3 (by decide) l7_29_s l7_29_f3 l7_29_r3 l7_29_g3 rfl hS0 fr3 ?_ ?_
  · intro wx hx; obtain ⟨h0, h1⟩ := hx; simp only [execOp, l7_29_o3]; go_simp
  intro a4 fr4 t190 ho
  replace t0 := (ho 0 (by decide)).trans t0
  replace t1 := (ho 1 (by decide)).trans t1
  replace t2 := (ho 2 (by decide)).trans t2
  replace t3 := (ho 3 (by decide)).trans t3
  replace t4 := (ho 4 (by decide)).trans t4
  replace t5 := (ho 5 (by decide)).trans t5
  replace t6 := (ho 6 (by decide)).trans t6
  replace t15 := (ho 15 (by decide)).trans t15
  replace t16 := (ho 16 (by decide)).trans t16
  replace t19 := (ho 19 (by decide)).trans t19
  replace t20 := (ho 20 (by decide)).trans t20
  replace t21 := (ho 21 (by decide)).trans t21
  replace t187 := (ho 187 (by decide)).trans t187
  replace t188 := (ho 188 (by decide)).trans t188
  replace t189 := (ho 189 (by decide)).trans t189
  clear fr3 ho
  clear t188 t189
  refine take1 4 191 _ (.int .u64 p) #[true, true, true, true, true, false, false, false, false, false, false, false, false, false, false, false, false, false, false, false, false, false, false, false, false, false, false, false] l7_29_i4 l7_29_d4 (by decide) l7_29_s l7_29_f4 l7_29_r4 l7_29_g4 rfl hS0 fr4 ?_ ?_
  · intro wx hx; obtain ⟨h0, h1⟩ := hx; simp only [execOp, l7_29_o4]; go_simp
  intro a5 fr5 t191 ho
  replace t0 := (ho 0 (by decide)).trans t0
  replace t1 := (ho 1 (by decide)).trans t1
  replace t2 := (ho 2 (by decide)).trans t2
  replace t3 := (ho 3 (by decide)).trans t3
  replace t4 := (ho 4 (by decide)).trans t4
  replace t5 := (ho 5 (by decide)).trans t5
  replace t6 := (ho 6 (by decide)).trans t6
  replace t15 := (ho 15 (by decide)).trans t15
  replace t16 := (ho 16 (by decide)).trans t16
  replace t19 := (ho 19 (by decide)).trans t19
  replace t20 := (ho 20 (by decide)).trans t20
  replace t21 := (ho 21 (by decide)).trans t21
  replace t187 := (ho 187 (by decide)).trans t187
  replace t190 := (ho 190 (by decide)).trans t190
  clear fr4 ho
  clear t190
  refine take1 5 192 _ (.slice (some ⟨cb, 0, none⟩) K K) #[true, true, true, true, true, true, false, false, false, false, false, false, false, false, false, false, false, false, false, false, false, false, false, false, false, false, false, false] l7_29_i5 l7_29_d5 (by decide) l7_29_s l7_29_f5 l7_29_r5 l7_29_g5 rfl hS0 fr5 ?_ ?_
  · intro wx hx; obtain ⟨h0, h1⟩ := hx; simp only [execOp, l7_29_o5]; go_simp
  intro a6 fr6 t192 ho
  replace t0 := (ho 0 (by decide)).trans t0
  replace t1 := (ho 1 (by decide)).trans t1
  replace t2 := (ho 2 (by decide)).trans t2
  replace t3 := (ho 3 (by decide)).trans t3
  replace t4 := (ho 4 (by decide)).trans t4
  replace t5 := (ho 5 (by decide)).trans t5
  replace t6 := (ho 6 (by decide)).trans t6
  replace t15 := (ho 15 (by decide)).trans t15
  replace t16 := (ho 16 (by decide)).trans t16
  replace t19 := (ho 19 (by decide)).trans t19
  replace t20 := (ho 20 (by decide)).trans t20
  replace t21 := (ho 21 (by decide)).trans t21
  replace t187 := (ho 187 (by decide)).trans t187
  replace t191 := (ho 191 (by decide)).trans t191
  clear fr5 ho
  refine take1 6 193 _ (.int .i64 (k : Nat)) #[true, true, true, true, true, true, true, false, false, false, false, false, false, false, false, false, false, false, false, false, false, false, false, false, false, false, false, false] l7_29_i6 l7_29_d6 (by decide) l7_29_s l7_29_f6 l7_29_r6 l7_29_g6 rfl hS0 fr6 ?_ ?_
  · intro wx hx; obtain ⟨h0, h1⟩ := hx; simp only [execOp, l7_29_o6]; go_simp
  intro a7 fr7 t193 ho
  replace t0 := (ho 0 (by decide)).trans t0
  replace t1 := (ho 1 (by decide)).trans t1
  replace t2 := (ho 2 (by decide)).trans t2
  replace t3 := (ho 3 (by decide)).trans t3
  replace t4 := (ho 4 (by decide)).trans t4
  replace t5 := (ho 5 (by decide)).trans t5
  replace t6 := (ho 6 (by decide)).trans t6
  replace t15 := (ho 15 (by decide)).trans t15
  replace t16 := (ho 16 (by decide)).trans t16
  replace t19 := (ho 19 (by decide)).trans t19
  replace t20 := (ho 20 (by decide)).trans t20
  replace t21 := (ho 21 (by decide)).trans t21
  replace t187 := (ho 187 (by decide)).trans t187
  replace t191 := (ho 191 (by decide)).trans t191
  replace t192 := (ho 192 (by decide)).trans t192
  clear fr6 ho
  refine take1 7 194 _ (.pointer (some ⟨cb, k, none⟩)) #[true, true, true, true, true, true, true, true, false, false, false, false, false, false, false, false, false, false, false, false, false, false, false, false, false, false, false, false] l7_29_i7 l7_29_d7 (by decide) l7_29_s l7_29_f7 l7_29_r7 l7_29_g7 rfl hS0 fr7 ?_ ?_
  · intro wx hx; obtain ⟨h0, h1⟩ := hx; simp only [execOp, l7_29_o7]; go_simp
  intro a8 fr8 t194 ho
  replace t0 := (ho 0 (by decide)).trans t0
  replace t1 := (ho 1 (by decide)).trans t1
  replace t2 := (ho 2 (by decide)).trans t2
  replace t3 := (ho 3 (by decide)).trans t3
  replace t4 := (ho 4 (by decide)).trans t4
  replace t5 := (ho 5 (by decide)).trans t5
  replace t6 := (ho 6 (by decide)).trans t6
  replace t15 := (ho 15 (by decide)).trans t15
  replace t16 := (ho 16 (by decide)).trans t16
  replace t19 := (ho 19 (by decide)).trans t19
  replace t20 := (ho 20 (by decide)).trans t20
  replace t21 := (ho 21 (by decide)).trans t21
  replace t187 := (ho 187 (by decide)).trans t187
  replace t191 := (ho 191 (by decide)).trans t191
  replace t192 := (ho 192 (by decide)).trans t192
  replace t193 := (ho 193 (by decide)).trans t193
  clear fr7 ho
  clear t192 t193
  refine take1 8 195 _ (.int .i64 ck) #[true, true, true, true, true, true, true, true, true, false, false, false, false, false, false, false, false, false, false, false, false, false, false, false, false, false, false, false] l7_29_i8 l7_29_d8 (by decide) l7_29_s l7_29_f8 l7_29_r8 l7_29_g8 rfl hS0 fr8 ?_ ?_
  · intro wx hx; obtain ⟨h0, h1⟩ := hx; simp only [execOp, l7_29_o8]; go_simp
  intro a9 fr9 t195 ho
  replace t0 := (ho 0 (by decide)).trans t0
  replace t1 := (ho 1 (by decide)).trans t1
  replace t2 := (ho 2 (by decide)).trans t2
  replace t3 := (ho 3 (by decide)).trans t3
  replace t4 := (ho 4 (by decide)).trans t4
  replace t5 := (ho 5 (by decide)).trans t5
  replace t6 := (ho 6 (by decide)).trans t6
  replace t15 := (ho 15 (by decide)).trans t15
  replace t16 := (ho 16 (by decide)).trans t16
  replace t19 := (ho 19 (by decide)).trans t19
  replace t20 := (ho 20 (by decide)).trans t20
  replace t21 := (ho 21 (by decide)).trans t21
  replace t187 := (ho 187 (by decide)).trans t187
  replace t191 := (ho 191 (by decide)).trans t191
  replace t194 := (ho 194 (by decide)).trans t194
  clear fr8 ho
  clear t194
  refine take1 9 196 _ (.slice x15 0 0) #[true, true, true, true, true, true, true, true, true, true, false, false, false, false, false, false, false, false, false, false, false, false, false, false, false, false, false, false] l7_29_i9 l7_29_d9 (by decide) l7_29_s l7_29_f9 l7_29_r9 l7_29_g9 rfl hS0 fr9 ?_ ?_
  · intro wx hx; obtain ⟨h0, h1⟩ := hx; simp only [execOp, l7_29_o9]; go_simp
  intro a10 fr10 t196 ho
  replace t0 := (ho 0 (by decide)).trans t0
  replace t1 := (ho 1 (by decide)).trans t1
  replace t2 := (ho 2 (by decide)).trans t2
  replace t3 := (ho 3 (by decide)).trans t3
  replace t4 := (ho 4 (by decide)).trans t4
  replace t5 := (ho 5 (by decide)).trans t5
  replace t6 := (ho 6 (by decide)).trans t6
  replace t15 := (ho 15 (by decide)).trans t15
  replace t16 := (ho 16 (by decide)).trans t16
  replace t19 := (ho 19 (by decide)).trans t19
  replace t20 := (ho 20 (by decide)).trans t20
  replace t21 := (ho 21 (by decide)).trans t21
  replace t187 := (ho 187 (by decide)).trans t187
  replace t191 := (ho 191 (by decide)).trans t191
  replace t195 := (ho 195 (by decide)).trans t195
  clear fr9 ho
  refine take1 10 197 _ (.int .i64 (k : Nat)) #[true, true, true, true, true, true, true, true, true, true, true, false, false, false, false, false, false, false, false, false, false, false, false, false, false, false, false, false] l7_29_i10 l7_29_d10 (by decide) l7_29_s l7_29_f10 l7_29_r10 l7_29_g10 rfl hS0 fr10 ?_ ?_
  · intro wx hx; obtain ⟨h0, h1⟩ := hx; simp only [execOp, l7_29_o10]; go_simp
  intro a11 fr11 t197 ho
  replace t0 := (ho 0 (by decide)).trans t0
  replace t1 := (ho 1 (by decide)).trans t1
  replace t2 := (ho 2 (by decide)).trans t2
  replace t3 := (ho 3 (by decide)).trans t3
  replace t4 := (ho 4 (by decide)).trans t4
  replace t5 := (ho 5 (by decide)).trans t5
  replace t6 := (ho 6 (by decide)).trans t6
  replace t15 := (ho 15 (by decide)).trans t15
  replace t16 := (ho 16 (by decide)).trans t16
  replace t19 := (ho 19 (by decide)).trans t19
  replace t20 := (ho 20 (by decide)).trans t20
  replace t21 := (ho 21 (by decide)).trans t21
  replace t187 := (ho 187 (by decide)).trans t187
  replace t191 := (ho 191 (by decide)).trans t191
  replace t195 := (ho 195 (by decide)).trans t195
  replace t196 := (ho 196 (by decide)).trans t196
  clear fr10 ho
  refine take1 11 198 _ (.int .i64 0) #[true, true, true, true, true, true, true, true, true, true, true, true, false, false, false, false, false, false, false, false, false, false, false, false, false, false, false, false] l7_29_i11 l7_29_d11 (by decide) l7_29_s l7_29_f11 l7_29_r11 l7_29_g11 rfl hS0 fr11 ?_ ?_
  · intro wx hx; obtain ⟨h0, h1⟩ := hx; simp only [execOp, l7_29_o11]; go_simp
  intro a12 fr12 t198 ho
  replace t0 := (ho 0 (by decide)).trans t0
  replace t1 := (ho 1 (by decide)).trans t1
  replace t2 := (ho 2 (by decide)).trans t2
  replace t3 := (ho 3 (by decide)).trans t3
  replace t4 := (ho 4 (by decide)).trans t4
  replace t5 := (ho 5 (by decide)).trans t5
  replace t6 := (ho 6 (by decide)).trans t6
  replace t15 := (ho 15 (by decide)).trans t15
  replace t16 := (ho 16 (by decide)).trans t16
  replace t19 := (ho 19 (by decide)).trans t19
  replace t20 := (ho 20 (by decide)).trans t20
  replace t21 := (ho 21 (by decide)).trans t21
  replace t187 := (ho 187 (by decide)).trans t187
  replace t191 := (ho 191 (by decide)).trans t191
  replace t195 := (ho 195 (by decide)).trans t195
  replace t196 := (ho 196 (by decide)).trans t196
  replace t197 := (ho 197 (by decide)).trans t197
  clear fr11 ho
  refine take1 12 199 _ (.int .i64 0) #[true, true, true, true, true, true, true, true, true, true, true, true, true, false, false, false, false, false, false, false, false, false, false, false, false, false, false, false] l7_29_i12 l7_29_d12 (by decide) l7_29_s l7_29_f12 l7_29_r12 l7_29_g12 rfl hS0 fr12 ?_ ?_
  · intro wx hx; obtain ⟨h0, h1⟩ := hx; simp only [execOp, l7_29_o12]; go_simp
  intro a13 fr13 t199 ho
  replace t0 := (ho 0 (by decide)).trans t0
  replace t1 := (ho 1 (by decide)).trans t1
  replace t2 := (ho 2 (by decide)).trans t2
  replace t3 := (ho 3 (by decide)).trans t3
  replace t4 := (ho 4 (by decide)).trans t4
  replace t5 := (ho 5 (by decide)).trans t5
  replace t6 := (ho 6 (by decide)).trans t6
  replace t15 := (ho 15 (by decide)).trans t15
  replace t16 := (ho 16 (by decide)).trans t16
  replace t19 := (ho 19 (by decide)).trans t19
  replace t20 := (ho 20 (by decide)).trans t20
  replace t21 := (ho 21 (by decide)).trans t21
  replace t187 := (ho 187 (by decide)).trans t187
  replace t191 := (ho 191 (by decide)).trans t191
  replace t195 := (ho 195 (by decide)).trans t195
  replace t196 := (ho 196 (by decide)).trans t196
  replace t197 := (ho 197 (by decide)).trans t197
  replace t198 := (ho 198 (by decide)).trans t198
  clear fr12 ho
  clear t197 t198
  refine take1 13 200 _ (.int .i64 (k : Nat)) #[true, true, true, true, true, true, true, true, true, true, true, true, true, true, false, false, false, false, false, false, false, false, false, false, false, false, false, false] l7_29_i13 l7_29_d13 (by decide) l7_29_s l7_29_f13 l7_29_r13 l7_29_g13 rfl hS0 fr13 ?_ ?_
  · intro wx hx; obtain ⟨h0, h1⟩ := hx; simp only [execOp, l7_29_o13]; go_simp
  intro a14 fr14 t200 ho
  replace t0 := (ho 0 (by decide)).trans t0
  replace t1 := (ho 1 (by decide)).trans t1
  replace t2 := (ho 2 (by decide)).trans t2
  replace t3 := (ho 3 (by decide)).trans t3
  replace t4 := (ho 4 (by decide)).trans t4
  replace t5 := (ho 5 (by decide)).trans t5
  replace t6 := (ho 6 (by decide)).trans t6
  replace t15 := (ho 15 (by decide)).trans t15
  replace t16 := (ho 16 (by decide)).trans t16
  replace t19 := (ho 19 (by decide)).trans t19
  replace t20 := (ho 20 (by decide)).trans t20
  replace t21 := (ho 21 (by decide)).trans t21
  replace t187 := (ho 187 (by decide)).trans t187
  replace t191 := (ho 191 (by decide)).trans t191
  replace t195 := (ho 195 (by decide)).trans t195
  replace t196 := (ho 196 (by decide)).trans t196
  replace t199 := (ho 199 (by decide)).trans t199
  clear fr13 ho
  refine take1 14 201 _ (.int .i64 ((k : Nat) + 1)) #[true, true, true, true, true, true, true, true, true, true, true, true, true, true, true, false, false, false, false, false, false, false, false, false, false, false, false, false] l7_29_i14 l7_29_d14 (by decide) l7_29_s l7_29_f14 l7_29_r14 l7_29_g14 rfl hS0 fr14 ?_ ?_
  · intro wx hx; obtain ⟨h0, h1⟩ := hx; simp only [execOp, l7_29_o14]; go_simp
  intro a15 fr15 t201 ho
  replace t0 := (ho 0 (by decide)).trans t0
  replace t1 := (ho 1 (by decide)).trans t1
  replace t2 := (ho 2 (by decide)).trans t2
  replace t3 := (ho 3 (by decide)).trans t3
  replace t4 := (ho 4 (by decide)).trans t4
  replace t5 := (ho 5 (by decide)).trans t5
  replace t6 := (ho 6 (by decide)).trans t6
  replace t15 := (ho 15 (by decide)).trans t15
  replace t16 := (ho 16 (by decide)).trans t16
  replace t19 := (ho 19 (by decide)).trans t19
  replace t20 := (ho 20 (by decide)).trans t20
  replace t21 := (ho 21 (by decide)).trans t21
  replace t187 := (ho 187 (by decide)).trans t187
  replace t191 := (ho 191 (by decide)).trans t191
  replace t195 := (ho 195 (by decide)).trans t195
  replace t196 := (ho 196 (by decide)).trans t196
  replace t199 := (ho 199 (by decide)).trans t199
  replace t200 := (ho 200 (by decide)).trans t200
  clear fr14 ho
  clear t200
  refine take1 15 202 _ (.int .i64 0) #[true, true, true, true, true, true, true, true, true, true, true, true, true, true, true, true, false, false, false, false, false, false, false, false, false, false, false, false] l7_29_i15 l7_29_d15 (by decide) l7_29_s l7_29_f15 l7_29_r15 l7_29_g15 rfl hS0 fr15 ?_ ?_
  · intro wx hx; obtain ⟨h0, h1⟩ := hx; simp only [execOp, l7_29_o15]; go_simp
  intro a16 fr16 t202 ho
  replace t0 := (ho 0 (by decide)).trans t0
  replace t1 := (ho 1 (by decide)).trans t1
  replace t2 := (ho 2 (by decide)).trans t2
  replace t3 := (ho 3 (by decide)).trans t3
  replace t4 := (ho 4 (by decide)).trans t4
  replace t5 := (ho 5 (by decide)).trans t5
  replace t6 := (ho 6 (by decide)).trans t6
  replace t15 := (ho 15 (by decide)).trans t15
  replace t16 := (ho 16 (by decide)).trans t16
  replace t19 := (ho 19 (by decide)).trans t19
  replace t20 := (ho 20 (by decide)).trans t20
  replace t21 := (ho 21 (by decide)).trans t21
  replace t187 := (ho 187 (by decide)).trans t187
  replace t191 := (ho 191 (by decide)).trans t191
  replace t195 := (ho 195 (by decide)).trans t195
  replace t196 := (ho 196 (by decide)).trans t196
  replace t199 := (ho 199 (by decide)).trans t199
  replace t201 := (ho 201 (by decide)).trans t201
  clear fr15 ho
  refine take1 16 203 _ (.int .i64 0) #[true, true, true, true, true, true, true, true, true, true, true, true, true, true, true, true, true, false, false, false, false, false, false, false, false, false, false, false] l7_29_i16 l7_29_d16 (by decide) l7_29_s l7_29_f16 l7_29_r16 l7_29_g16 rfl hS0 fr16 ?_ ?_
  · intro wx hx; obtain ⟨h0, h1⟩ := hx; simp only [execOp, l7_29_o16]; go_simp
  intro a17 fr17 t203 ho
  replace t0 := (ho 0 (by decide)).trans t0
  replace t1 := (ho 1 (by decide)).trans t1
  replace t2 := (ho 2 (by decide)).trans t2
  replace t3 := (ho 3 (by decide)).trans t3
  replace t4 := (ho 4 (by decide)).trans t4
  replace t5 := (ho 5 (by decide)).trans t5
  replace t6 := (ho 6 (by decide)).trans t6
  replace t15 := (ho 15 (by decide)).trans t15
  replace t16 := (ho 16 (by decide)).trans t16
  replace t19 := (ho 19 (by decide)).trans t19
  replace t20 := (ho 20 (by decide)).trans t20
  replace t21 := (ho 21 (by decide)).trans t21
  replace t187 := (ho 187 (by decide)).trans t187
  replace t191 := (ho 191 (by decide)).trans t191
  replace t195 := (ho 195 (by decide)).trans t195
  replace t196 := (ho 196 (by decide)).trans t196
  replace t199 := (ho 199 (by decide)).trans t199
  replace t201 := (ho 201 (by decide)).trans t201
  replace t202 := (ho 202 (by decide)).trans t202
  clear fr16 ho
  clear t201 t202
  refine take1 17 204 _ (.slice x15 0 0) #[true, true, true, true, true, true, true, true, true, true, true, true, true, true, true, true, true, true, false, false, false, false, false, false, false, false, false, false] l7_29_i17 l7_29_d17 (by decide) l7_29_s l7_29_f17 l7_29_r17 l7_29_g17 rfl hS0 fr17 ?_ ?_
  · intro wx hx; obtain ⟨h0, h1⟩ := hx; simp only [execOp, l7_29_o17]; go_simp
  intro a18 fr18 t204 ho
  replace t0 := (ho 0 (by decide)).trans t0
  replace t1 := (ho 1 (by decide)).trans t1
  replace t2 := (ho 2 (by decide)).trans t2
  replace t3 := (ho 3 (by decide)).trans t3
  replace t4 := (ho 4 (by decide)).trans t4
  replace t5 := (ho 5 (by decide)).trans t5
  replace t6 := (ho 6 (by decide)).trans t6
  replace t15 := (ho 15 (by decide)).trans t15
  replace t16 := (ho 16 (by decide)).trans t16
  replace t19 := (ho 19 (by decide)).trans t19
  replace t20 := (ho 20 (by decide)).trans t20
  replace t21 := (ho 21 (by decide)).trans t21
  replace t187 := (ho 187 (by decide)).trans t187
  replace t191 := (ho 191 (by decide)).trans t191
  replace t195 := (ho 195 (by decide)).trans t195
  replace t196 := (ho 196 (by decide)).trans t196
  replace t199 := (ho 199 (by decide)).trans t199
  replace t203 := (ho 203 (by decide)).trans t203
  clear fr17 ho
  clear t196 t199 t203
  refine take1 18 205 _ (.slice x16 0 0) #[true, true, true, true, true, true, true, true, true, true, true, true, true, true, true, true, true, true, true, false, false, false, false, false, false, false, false, false] l7_29_i18 l7_29_d18 (by decide) l7_29_s l7_29_f18 l7_29_r18 l7_29_g18 rfl hS0 fr18 ?_ ?_
  · intro wx hx; obtain ⟨h0, h1⟩ := hx; simp only [execOp, l7_29_o18]; go_simp
  intro a19 fr19 t205 ho
  replace t0 := (ho 0 (by decide)).trans t0
  replace t1 := (ho 1 (by decide)).trans t1
  replace t2 := (ho 2 (by decide)).trans t2
  replace t3 := (ho 3 (by decide)).trans t3
  replace t4 := (ho 4 (by decide)).trans t4
  replace t5 := (ho 5 (by decide)).trans t5
  replace t6 := (ho 6 (by decide)).trans t6
  replace t15 := (ho 15 (by decide)).trans t15
  replace t16 := (ho 16 (by decide)).trans t16
  replace t19 := (ho 19 (by decide)).trans t19
  replace t20 := (ho 20 (by decide)).trans t20
  replace t21 := (ho 21 (by decide)).trans t21
  replace t187 := (ho 187 (by decide)).trans t187
  replace t191 := (ho 191 (by decide)).trans t191
  replace t195 := (ho 195 (by decide)).trans t195
  replace t204 := (ho 204 (by decide)).trans t204
  clear fr18 ho
  refine take1 19 206 _ (.int .i64 (k : Nat)) #[true, true, true, true, true, true, true, true, true, true, true, true, true, true, true, true, true, true, true, true, false, false, false, false, false, false, false, false] l7_29_i19 l7_29_d19 (by decide) l7_29_s l7_29_f19 l7_29_r19 l7_29_g19 rfl hS0 fr19 ?_ ?_
  · intro wx hx; obtain ⟨h0, h1⟩ := hx; simp only [execOp, l7_29_o19]; go_simp
  intro a20 fr20 t206 ho
  replace t0 := (ho 0 (by decide)).trans t0
  replace t1 := (ho 1 (by decide)).trans t1
  replace t2 := (ho 2 (by decide)).trans t2
  replace t3 := (ho 3 (by decide)).trans t3
  replace t4 := (ho 4 (by decide)).trans t4
  replace t5 := (ho 5 (by decide)).trans t5
  replace t6 := (ho 6 (by decide)).trans t6
  replace t15 := (ho 15 (by decide)).trans t15
  replace t16 := (ho 16 (by decide)).trans t16
  replace t19 := (ho 19 (by decide)).trans t19
  replace t20 := (ho 20 (by decide)).trans t20
  replace t21 := (ho 21 (by decide)).trans t21
  replace t187 := (ho 187 (by decide)).trans t187
  replace t191 := (ho 191 (by decide)).trans t191
  replace t195 := (ho 195 (by decide)).trans t195
  replace t204 := (ho 204 (by decide)).trans t204
  replace t205 := (ho 205 (by decide)).trans t205
  clear fr19 ho
  refine take1 20 207 _ (.int .i64 0) #[true, true, true, true, true, true, true, true, true, true, true, true, true, true, true, true, true, true, true, true, true, false, false, false, false, false, false, false] l7_29_i20 l7_29_d20 (by decide) l7_29_s l7_29_f20 l7_29_r20 l7_29_g20 rfl hS0 fr20 ?_ ?_
  · intro wx hx; obtain ⟨h0, h1⟩ := hx; simp only [execOp, l7_29_o20]; go_simp
  intro a21 fr21 t207 ho
  replace t0 := (ho 0 (by decide)).trans t0
  replace t1 := (ho 1 (by decide)).trans t1
  replace t2 := (ho 2 (by decide)).trans t2
  replace t3 := (ho 3 (by decide)).trans t3
  replace t4 := (ho 4 (by decide)).trans t4
  replace t5 := (ho 5 (by decide)).trans t5
  replace t6 := (ho 6 (by decide)).trans t6
  replace t15 := (ho 15 (by decide)).trans t15
  replace t16 := (ho 16 (by decide)).trans t16
  replace t19 := (ho 19 (by decide)).trans t19
  replace t20 := (ho 20 (by decide)).trans t20
  replace t21 := (ho 21 (by decide)).trans t21
  replace t187 := (ho 187 (by decide)).trans t187
  replace t191 := (ho 191 (by decide)).trans t191
  replace t195 := (ho 195 (by decide)).trans t195
  replace t204 := (ho 204 (by decide)).trans t204
  replace t205 := (ho 205 (by decide)).trans t205
  replace t206 := (ho 206 (by decide)).trans t206
  clear fr20 ho
  refine take1 21 208 _ (.int .i64 0) #[true, true, true, true, true, true, true, true, true, true, true, true, true, true, true, true, true, true, true, true, true, true, false, false, false, false, false, false] l7_29_i21 l7_29_d21 (by decide) l7_29_s l7_29_f21 l7_29_r21 l7_29_g21 rfl hS0 fr21 ?_ ?_
  · intro wx hx; obtain ⟨h0, h1⟩ := hx; simp only [execOp, l7_29_o21]; go_simp
  intro a22 fr22 t208 ho
  replace t0 := (ho 0 (by decide)).trans t0
  replace t1 := (ho 1 (by decide)).trans t1
  replace t2 := (ho 2 (by decide)).trans t2
  replace t3 := (ho 3 (by decide)).trans t3
  replace t4 := (ho 4 (by decide)).trans t4
  replace t5 := (ho 5 (by decide)).trans t5
  replace t6 := (ho 6 (by decide)).trans t6
  replace t15 := (ho 15 (by decide)).trans t15
  replace t16 := (ho 16 (by decide)).trans t16
  replace t19 := (ho 19 (by decide)).trans t19
  replace t20 := (ho 20 (by decide)).trans t20
  replace t21 := (ho 21 (by decide)).trans t21
  replace t187 := (ho 187 (by decide)).trans t187
  replace t191 := (ho 191 (by decide)).trans t191
  replace t195 := (ho 195 (by decide)).trans t195
  replace t204 := (ho 204 (by decide)).trans t204
  replace t205 := (ho 205 (by decide)).trans t205
  replace t206 := (ho 206 (by decide)).trans t206
  replace t207 := (ho 207 (by decide)).trans t207
  clear fr21 ho
  clear t206 t207
  refine take1 22 209 _ (.int .i64 (k : Nat)) #[true, true, true, true, true, true, true, true, true, true, true, true, true, true, true, true, true, true, true, true, true, true, true, false, false, false, false, false] l7_29_i22 l7_29_d22 (by decide) l7_29_s l7_29_f22 l7_29_r22 l7_29_g22 rfl hS0 fr22 ?_ ?_
  · intro wx hx; obtain ⟨h0, h1⟩ := hx; simp only [execOp, l7_29_o22]; go_simp
  intro a23 fr23 t209 ho
  replace t0 := (ho 0 (by decide)).trans t0
  replace t1 := (ho 1 (by decide)).trans t1
  replace t2 := (ho 2 (by decide)).trans t2
  replace t3 := (ho 3 (by decide)).trans t3
  replace t4 := (ho 4 (by decide)).trans t4
  replace t5 := (ho 5 (by decide)).trans t5
  replace t6 := (ho 6 (by decide)).trans t6
  replace t15 := (ho 15 (by decide)).trans t15
  replace t16 := (ho 16 (by decide)).trans t16
  replace t19 := (ho 19 (by decide)).trans t19
  replace t20 := (ho 20 (by decide)).trans t20
  replace t21 := (ho 21 (by decide)).trans t21
  replace t187 := (ho 187 (by decide)).trans t187
  replace t191 := (ho 191 (by decide)).trans t191
  replace t195 := (ho 195 (by decide)).trans t195
  replace t204 := (ho 204 (by decide)).trans t204
  replace t205 := (ho 205 (by decide)).trans t205
  replace t208 := (ho 208 (by decide)).trans t208
  clear fr22 ho
  refine take1 23 210 _ (.int .i64 ((k : Nat) + 1)) #[true, true, true, true, true, true, true, true, true, true, true, true, true, true, true, true, true, true, true, true, true, true, true, true, false, false, false, false] l7_29_i23 l7_29_d23 (by decide) l7_29_s l7_29_f23 l7_29_r23 l7_29_g23 rfl hS0 fr23 ?_ ?_
  · intro wx hx; obtain ⟨h0, h1⟩ := hx; simp only [execOp, l7_29_o23]; go_simp
  intro a24 fr24 t210 ho
  replace t0 := (ho 0 (by decide)).trans t0
  replace t1 := (ho 1 (by decide)).trans t1
  replace t2 := (ho 2 (by decide)).trans t2
  replace t3 := (ho 3 (by decide)).trans t3
  replace t4 := (ho 4 (by decide)).trans t4
  replace t5 := (ho 5 (by decide)).trans t5
  replace t6 := (ho 6 (by decide)).trans t6
  replace t15 := (ho 15 (by decide)).trans t15
  replace t16 := (ho 16 (by decide)).trans t16
  replace t19 := (ho 19 (by decide)).trans t19
  replace t20 := (ho 20 (by decide)).trans t20
  replace t21 := (ho 21 (by decide)).trans t21
  replace t187 := (ho 187 (by decide)).trans t187
  replace t191 := (ho 191 (by decide)).trans t191
  replace t195 := (ho 195 (by decide)).trans t195
  replace t204 := (ho 204 (by decide)).trans t204
  replace t205 := (ho 205 (by decide)).trans t205
  replace t208 := (ho 208 (by decide)).trans t208
  replace t209 := (ho 209 (by decide)).trans t209
  clear fr23 ho
  clear t209
  refine take1 24 211 _ (.int .i64 0) #[true, true, true, true, true, true, true, true, true, true, true, true, true, true, true, true, true, true, true, true, true, true, true, true, true, false, false, false] l7_29_i24 l7_29_d24 (by decide) l7_29_s l7_29_f24 l7_29_r24 l7_29_g24 rfl hS0 fr24 ?_ ?_
  · intro wx hx; obtain ⟨h0, h1⟩ := hx; simp only [execOp, l7_29_o24]; go_simp
  intro a25 fr25 t211 ho
  replace t0 := (ho 0 (by decide)).trans t0
  replace t1 := (ho 1 (by decide)).trans t1
  replace t2 := (ho 2 (by decide)).trans t2
  replace t3 := (ho 3 (by decide)).trans t3
  replace t4 := (ho 4 (by decide)).trans t4
  replace t5 := (ho 5 (by decide)).trans t5
  replace t6 := (ho 6 (by decide)).trans t6
  replace t15 := (ho 15 (by decide)).trans t15
  replace t16 := (ho 16 (by decide)).trans t16
  replace t19 := (ho 19 (by decide)).trans t19
  replace t20 := (ho 20 (by decide)).trans t20
  replace t21 := (ho 21 (by decide)).trans t21
  replace t187 := (ho 187 (by decide)).trans t187
  replace t191 := (ho 191 (by decide)).trans t191
  replace t195 := (ho 195 (by decide)).trans t195
  replace t204 := (ho 204 (by decide)).trans t204
  replace t205 := (ho 205 (by decide)).trans t205
  replace t208 := (ho 208 (by decide)).trans t208
  replace t210 := (ho 210 (by decide)).trans t210
  clear fr24 ho
  refine take1 25 212 _ (.int .i64 0) #[true, true, true, true, true, true, true, true, true, true, true, true, true, true, true, true, true, true, true, true, true, true, true, true, true, true, false, false] l7_29_i25 l7_29_d25 (by decide) l7_29_s l7_29_f25 l7_29_r25 l7_29_g25 rfl hS0 fr25 ?_ ?_
  · intro wx hx; obtain ⟨h0, h1⟩ := hx; simp only [execOp, l7_29_o25]; go_simp
  intro a26 fr26 t212 ho
  replace t0 := (ho 0 (by decide)).trans t0
  replace t1 := (ho 1 (by decide)).trans t1
  replace t2 := (ho 2 (by decide)).trans t2
  replace t3 := (ho 3 (by decide)).trans t3
  replace t4 := (ho 4 (by decide)).trans t4
  replace t5 := (ho 5 (by decide)).trans t5
  replace t6 := (ho 6 (by decide)).trans t6
  replace t15 := (ho 15 (by decide)).trans t15
  replace t16 := (ho 16 (by decide)).trans t16
  replace t19 := (ho 19 (by decide)).trans t19
  replace t20 := (ho 20 (by decide)).trans t20
  replace t21 := (ho 21 (by decide)).trans t21
  replace t187 := (ho 187 (by decide)).trans t187
  replace t191 := (ho 191 (by decide)).trans t191
  replace t195 := (ho 195 (by decide)).trans t195
  replace t204 := (ho 204 (by decide)).trans t204
  replace t205 := (ho 205 (by decide)).trans t205
  replace t208 := (ho 208 (by decide)).trans t208
  replace t210 := (ho 210 (by decide)).trans t210
  replace t211 := (ho 211 (by decide)).trans t211
  clear fr25 ho
  clear t210 t211
  refine take1 26 213 _ (.slice x16 0 0) #[true, true, true, true, true, true, true, true, true, true, true, true, true, true, true, true, true, true, true, true, true, true, true, true, true, true, true, false] l7_29_i26 l7_29_d26 (by decide) l7_29_s l7_29_f26 l7_29_r26 l7_29_g26 rfl hS0 fr26 ?_ ?_
  · intro wx hx; obtain ⟨h0, h1⟩ := hx; simp only [execOp, l7_29_o26]; go_simp
  intro a27 fr27 t213 ho
  replace t0 := (ho 0 (by decide)).trans t0
  replace t1 := (ho 1 (by decide)).trans t1
  replace t2 := (ho 2 (by decide)).trans t2
  replace t3 := (ho 3 (by decide)).trans t3
  replace t4 := (ho 4 (by decide)).trans t4
  replace t5 := (ho 5 (by decide)).trans t5
  replace t6 := (ho 6 (by decide)).trans t6
  replace t15 := (ho 15 (by decide)).trans t15
  replace t16 := (ho 16 (by decide)).trans t16
  replace t19 := (ho 19 (by decide)).trans t19
  replace t20 := (ho 20 (by decide)).trans t20
  replace t21 := (ho 21 (by decide)).trans t21
  replace t187 := (ho 187 (by decide)).trans t187
  replace t191 := (ho 191 (by decide)).trans t191
  replace t195 := (ho 195 (by decide)).trans t195
  replace t204 := (ho 204 (by decide)).trans t204
  replace t205 := (ho 205 (by decide)).trans t205
  replace t208 := (ho 208 (by decide)).trans t208
  replace t212 := (ho 212 (by decide)).trans t212
  clear fr26 ho
  clear t205 t208 t212
  refine only1 27 l7_29_r27 (actC 27 214 _ (.tuple #[]) 27 #[.pointer (some ⟨b2, 0, none⟩), .int .u64 p, .int .i64 ck, .slice x15 0 0, .slice x16 0 0] G #[true, true, true, true, true, true, true, true, true, true, true, true, true, true, true, true, true, true, true, true, true, true, true, true, true, true, true, true] l7_29_i27 l7_29_d27 (by decide) l7_29_g27 rfl fr27 ?_ hcall ?_)
  · simp only [execOp, l7_29_o27]; clear hcall; go_simp
  intro aE wE hG frE tE ho
  replace t0 := (ho 0 (by decide)).trans t0
  replace t1 := (ho 1 (by decide)).trans t1
  replace t2 := (ho 2 (by decide)).trans t2
  replace t3 := (ho 3 (by decide)).trans t3
  replace t4 := (ho 4 (by decide)).trans t4
  replace t5 := (ho 5 (by decide)).trans t5
  replace t6 := (ho 6 (by decide)).trans t6
  replace t15 := (ho 15 (by decide)).trans t15
  replace t16 := (ho 16 (by decide)).trans t16
  replace t19 := (ho 19 (by decide)).trans t19
  replace t20 := (ho 20 (by decide)).trans t20
  replace t21 := (ho 21 (by decide)).trans t21
  refine wpAnyH_done l7_29_e ?_ _
  exact ⟨hG, frE, (sl_at _ _).trans t0, (sl_at _ _).trans t1, (sl_at _ _).trans t2, (sl_at _ _).trans t3, (sl_at _ _).trans t4, (sl_at _ _).trans t5, (sl_at _ _).trans t6, (sl_at _ _).trans t15, (sl_at _ _).trans t16, (sl_at _ _).trans t19, (sl_at _ _).trans t20, (sl_at _ _).trans t21, trivial⟩

end Go.Proofs.Qxb6602526a
