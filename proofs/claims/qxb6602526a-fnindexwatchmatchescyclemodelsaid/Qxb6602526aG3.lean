import Derived.Test.Qxb6602526aC7
import Derived.Test.Qxb6602526aE4
namespace Go.Proofs.Qxb6602526a
open Go.RowKit
set_option linter.unusedSimpArgs false
set_option linter.unusedVariables false

theorem l6_17_s : Region.noSelect (regOps (inC (hdC (tlC (inC (inC (tlC (nthC 10 (bodyC Try.f6))))))))) = true := by kernel_rfl
theorem l6_17_i0 : (regOps (inC (hdC (tlC (inC (inC (tlC (nthC 10 (bodyC Try.f6)))))))))[0]? = some (regOp (inC (hdC (tlC (inC (inC (tlC (nthC 10 (bodyC Try.f6)))))))) 0) := by kernel_rfl
theorem l6_17_d0 : (regOp (inC (hdC (tlC (inC (inC (tlC (nthC 10 (bodyC Try.f6)))))))) 0).dst = some 97 := by kernel_rfl
theorem l6_17_g0 : (regOp (inC (hdC (tlC (inC (inC (tlC (nthC 10 (bodyC Try.f6)))))))) 0).guard = none := by kernel_rfl
theorem l6_17_o0 : (regOp (inC (hdC (tlC (inC (inC (tlC (nthC 10 (bodyC Try.f6)))))))) 0).op = Op.move (.tmp 15) := by kernel_rfl
theorem l6_17_i1 : (regOps (inC (hdC (tlC (inC (inC (tlC (nthC 10 (bodyC Try.f6)))))))))[1]? = some (regOp (inC (hdC (tlC (inC (inC (tlC (nthC 10 (bodyC Try.f6)))))))) 1) := by kernel_rfl
theorem l6_17_d1 : (regOp (inC (hdC (tlC (inC (inC (tlC (nthC 10 (bodyC Try.f6)))))))) 1).dst = some 98 := by kernel_rfl
theorem l6_17_g1 : (regOp (inC (hdC (tlC (inC (inC (tlC (nthC 10 (bodyC Try.f6)))))))) 1).guard = none := by kernel_rfl
theorem l6_17_o1 : (regOp (inC (hdC (tlC (inC (inC (tlC (nthC 10 (bodyC Try.f6)))))))) 1).op = Op.move (.tmp 3) := by kernel_rfl
theorem l6_17_i2 : (regOps (inC (hdC (tlC (inC (inC (tlC (nthC 10 (bodyC Try.f6)))))))))[2]? = some (regOp (inC (hdC (tlC (inC (inC (tlC (nthC 10 (bodyC Try.f6)))))))) 2) := by kernel_rfl
theorem l6_17_d2 : (regOp (inC (hdC (tlC (inC (inC (tlC (nthC 10 (bodyC Try.f6)))))))) 2).dst = some 99 := by kernel_rfl
theorem l6_17_g2 : (regOp (inC (hdC (tlC (inC (inC (tlC (nthC 10 (bodyC Try.f6)))))))) 2).guard = none := by kernel_rfl
theorem l6_17_o2 : (regOp (inC (hdC (tlC (inC (inC (tlC (nthC 10 (bodyC Try.f6)))))))) 2).op = Op.move (.tmp 16) := by kernel_rfl
theorem l6_17_i3 : (regOps (inC (hdC (tlC (inC (inC (tlC (nthC 10 (bodyC Try.f6)))))))))[3]? = some (regOp (inC (hdC (tlC (inC (inC (tlC (nthC 10 (bodyC Try.f6)))))))) 3) := by kernel_rfl
theorem l6_17_d3 : (regOp (inC (hdC (tlC (inC (inC (tlC (nthC 10 (bodyC Try.f6)))))))) 3).dst = some 100 := by kernel_rfl
theorem l6_17_g3 : (regOp (inC (hdC (tlC (inC (inC (tlC (nthC 10 (bodyC Try.f6)))))))) 3).guard = none := by kernel_rfl
theorem l6_17_o3 : (regOp (inC (hdC (tlC (inC (inC (tlC (nthC 10 (bodyC Try.f6)))))))) 3).op = Op.indexAddr 23 (.tmp 98) (.tmp 99) := by kernel_rfl
theorem l6_17_i4 : (regOps (inC (hdC (tlC (inC (inC (tlC (nthC 10 (bodyC Try.f6)))))))))[4]? = some (regOp (inC (hdC (tlC (inC (inC (tlC (nthC 10 (bodyC Try.f6)))))))) 4) := by kernel_rfl
theorem l6_17_d4 : (regOp (inC (hdC (tlC (inC (inC (tlC (nthC 10 (bodyC Try.f6)))))))) 4).dst = some 101 := by kernel_rfl
theorem l6_17_g4 : (regOp (inC (hdC (tlC (inC (inC (tlC (nthC 10 (bodyC Try.f6)))))))) 4).guard = none := by kernel_rfl
theorem l6_17_o4 : (regOp (inC (hdC (tlC (inC (inC (tlC (nthC 10 (bodyC Try.f6)))))))) 4).op = Op.load 31 (.tmp 100) := by kernel_rfl
theorem l6_17_i5 : (regOps (inC (hdC (tlC (inC (inC (tlC (nthC 10 (bodyC Try.f6)))))))))[5]? = some (regOp (inC (hdC (tlC (inC (inC (tlC (nthC 10 (bodyC Try.f6)))))))) 5) := by kernel_rfl
theorem l6_17_d5 : (regOp (inC (hdC (tlC (inC (inC (tlC (nthC 10 (bodyC Try.f6)))))))) 5).dst = some 102 := by kernel_rfl
theorem l6_17_g5 : (regOp (inC (hdC (tlC (inC (inC (tlC (nthC 10 (bodyC Try.f6)))))))) 5).guard = none := by kernel_rfl
theorem l6_17_o5 : (regOp (inC (hdC (tlC (inC (inC (tlC (nthC 10 (bodyC Try.f6)))))))) 5).op = Op.move (.tmp 4) := by kernel_rfl
theorem l6_17_i6 : (regOps (inC (hdC (tlC (inC (inC (tlC (nthC 10 (bodyC Try.f6)))))))))[6]? = some (regOp (inC (hdC (tlC (inC (inC (tlC (nthC 10 (bodyC Try.f6)))))))) 6) := by kernel_rfl
theorem l6_17_d6 : (regOp (inC (hdC (tlC (inC (inC (tlC (nthC 10 (bodyC Try.f6)))))))) 6).dst = some 103 := by kernel_rfl
theorem l6_17_g6 : (regOp (inC (hdC (tlC (inC (inC (tlC (nthC 10 (bodyC Try.f6)))))))) 6).guard = none := by kernel_rfl
theorem l6_17_o6 : (regOp (inC (hdC (tlC (inC (inC (tlC (nthC 10 (bodyC Try.f6)))))))) 6).op = Op.move (.tmp 16) := by kernel_rfl
theorem l6_17_i7 : (regOps (inC (hdC (tlC (inC (inC (tlC (nthC 10 (bodyC Try.f6)))))))))[7]? = some (regOp (inC (hdC (tlC (inC (inC (tlC (nthC 10 (bodyC Try.f6)))))))) 7) := by kernel_rfl
theorem l6_17_d7 : (regOp (inC (hdC (tlC (inC (inC (tlC (nthC 10 (bodyC Try.f6)))))))) 7).dst = some 104 := by kernel_rfl
theorem l6_17_g7 : (regOp (inC (hdC (tlC (inC (inC (tlC (nthC 10 (bodyC Try.f6)))))))) 7).guard = none := by kernel_rfl
theorem l6_17_o7 : (regOp (inC (hdC (tlC (inC (inC (tlC (nthC 10 (bodyC Try.f6)))))))) 7).op = Op.indexAddr 55 (.tmp 102) (.tmp 103) := by kernel_rfl
theorem l6_17_i8 : (regOps (inC (hdC (tlC (inC (inC (tlC (nthC 10 (bodyC Try.f6)))))))))[8]? = some (regOp (inC (hdC (tlC (inC (inC (tlC (nthC 10 (bodyC Try.f6)))))))) 8) := by kernel_rfl
theorem l6_17_d8 : (regOp (inC (hdC (tlC (inC (inC (tlC (nthC 10 (bodyC Try.f6)))))))) 8).dst = some 105 := by kernel_rfl
theorem l6_17_g8 : (regOp (inC (hdC (tlC (inC (inC (tlC (nthC 10 (bodyC Try.f6)))))))) 8).guard = none := by kernel_rfl
theorem l6_17_o8 : (regOp (inC (hdC (tlC (inC (inC (tlC (nthC 10 (bodyC Try.f6)))))))) 8).op = Op.load 3 (.tmp 104) := by kernel_rfl
theorem l6_17_i9 : (regOps (inC (hdC (tlC (inC (inC (tlC (nthC 10 (bodyC Try.f6)))))))))[9]? = some (regOp (inC (hdC (tlC (inC (inC (tlC (nthC 10 (bodyC Try.f6)))))))) 9) := by kernel_rfl
theorem l6_17_d9 : (regOp (inC (hdC (tlC (inC (inC (tlC (nthC 10 (bodyC Try.f6)))))))) 9).dst = some 106 := by kernel_rfl
theorem l6_17_g9 : (regOp (inC (hdC (tlC (inC (inC (tlC (nthC 10 (bodyC Try.f6)))))))) 9).guard = none := by kernel_rfl
theorem l6_17_o9 : (regOp (inC (hdC (tlC (inC (inC (tlC (nthC 10 (bodyC Try.f6)))))))) 9).op = Op.move (.tmp 5) := by kernel_rfl
theorem l6_17_i10 : (regOps (inC (hdC (tlC (inC (inC (tlC (nthC 10 (bodyC Try.f6)))))))))[10]? = some (regOp (inC (hdC (tlC (inC (inC (tlC (nthC 10 (bodyC Try.f6)))))))) 10) := by kernel_rfl
theorem l6_17_d10 : (regOp (inC (hdC (tlC (inC (inC (tlC (nthC 10 (bodyC Try.f6)))))))) 10).dst = some 107 := by kernel_rfl
theorem l6_17_g10 : (regOp (inC (hdC (tlC (inC (inC (tlC (nthC 10 (bodyC Try.f6)))))))) 10).guard = none := by kernel_rfl
theorem l6_17_o10 : (regOp (inC (hdC (tlC (inC (inC (tlC (nthC 10 (bodyC Try.f6)))))))) 10).op = Op.move (.tmp 16) := by kernel_rfl
theorem l6_17_i11 : (regOps (inC (hdC (tlC (inC (inC (tlC (nthC 10 (bodyC Try.f6)))))))))[11]? = some (regOp (inC (hdC (tlC (inC (inC (tlC (nthC 10 (bodyC Try.f6)))))))) 11) := by kernel_rfl
theorem l6_17_d11 : (regOp (inC (hdC (tlC (inC (inC (tlC (nthC 10 (bodyC Try.f6)))))))) 11).dst = some 108 := by kernel_rfl
theorem l6_17_g11 : (regOp (inC (hdC (tlC (inC (inC (tlC (nthC 10 (bodyC Try.f6)))))))) 11).guard = none := by kernel_rfl
theorem l6_17_o11 : (regOp (inC (hdC (tlC (inC (inC (tlC (nthC 10 (bodyC Try.f6)))))))) 11).op = Op.move (.tmp 2) := by kernel_rfl
theorem l6_17_i12 : (regOps (inC (hdC (tlC (inC (inC (tlC (nthC 10 (bodyC Try.f6)))))))))[12]? = some (regOp (inC (hdC (tlC (inC (inC (tlC (nthC 10 (bodyC Try.f6)))))))) 12) := by kernel_rfl
theorem l6_17_d12 : (regOp (inC (hdC (tlC (inC (inC (tlC (nthC 10 (bodyC Try.f6)))))))) 12).dst = some 109 := by kernel_rfl
theorem l6_17_g12 : (regOp (inC (hdC (tlC (inC (inC (tlC (nthC 10 (bodyC Try.f6)))))))) 12).guard = none := by kernel_rfl
theorem l6_17_o12 : (regOp (inC (hdC (tlC (inC (inC (tlC (nthC 10 (bodyC Try.f6)))))))) 12).op = Op.binOp .mul 3 (.tmp 107) (.tmp 108) 3 := by kernel_rfl
theorem l6_17_i13 : (regOps (inC (hdC (tlC (inC (inC (tlC (nthC 10 (bodyC Try.f6)))))))))[13]? = some (regOp (inC (hdC (tlC (inC (inC (tlC (nthC 10 (bodyC Try.f6)))))))) 13) := by kernel_rfl
theorem l6_17_d13 : (regOp (inC (hdC (tlC (inC (inC (tlC (nthC 10 (bodyC Try.f6)))))))) 13).dst = some 110 := by kernel_rfl
theorem l6_17_g13 : (regOp (inC (hdC (tlC (inC (inC (tlC (nthC 10 (bodyC Try.f6)))))))) 13).guard = none := by kernel_rfl
theorem l6_17_o13 : (regOp (inC (hdC (tlC (inC (inC (tlC (nthC 10 (bodyC Try.f6)))))))) 13).op = Op.move (.tmp 16) := by kernel_rfl
theorem l6_17_i14 : (regOps (inC (hdC (tlC (inC (inC (tlC (nthC 10 (bodyC Try.f6)))))))))[14]? = some (regOp (inC (hdC (tlC (inC (inC (tlC (nthC 10 (bodyC Try.f6)))))))) 14) := by kernel_rfl
theorem l6_17_d14 : (regOp (inC (hdC (tlC (inC (inC (tlC (nthC 10 (bodyC Try.f6)))))))) 14).dst = some 111 := by kernel_rfl
theorem l6_17_g14 : (regOp (inC (hdC (tlC (inC (inC (tlC (nthC 10 (bodyC Try.f6)))))))) 14).guard = none := by kernel_rfl
theorem l6_17_o14 : (regOp (inC (hdC (tlC (inC (inC (tlC (nthC 10 (bodyC Try.f6)))))))) 14).op = Op.binOp .add 3 (.tmp 110) (.const (.int .i64 1)) 3 := by kernel_rfl
theorem l6_17_i15 : (regOps (inC (hdC (tlC (inC (inC (tlC (nthC 10 (bodyC Try.f6)))))))))[15]? = some (regOp (inC (hdC (tlC (inC (inC (tlC (nthC 10 (bodyC Try.f6)))))))) 15) := by kernel_rfl
theorem l6_17_d15 : (regOp (inC (hdC (tlC (inC (inC (tlC (nthC 10 (bodyC Try.f6)))))))) 15).dst = some 112 := by kernel_rfl
theorem l6_17_g15 : (regOp (inC (hdC (tlC (inC (inC (tlC (nthC 10 (bodyC Try.f6)))))))) 15).guard = none := by kernel_rfl
theorem l6_17_o15 : (regOp (inC (hdC (tlC (inC (inC (tlC (nthC 10 (bodyC Try.f6)))))))) 15).op = Op.move (.tmp 2) := by kernel_rfl
theorem l6_17_i16 : (regOps (inC (hdC (tlC (inC (inC (tlC (nthC 10 (bodyC Try.f6)))))))))[16]? = some (regOp (inC (hdC (tlC (inC (inC (tlC (nthC 10 (bodyC Try.f6)))))))) 16) := by kernel_rfl
theorem l6_17_d16 : (regOp (inC (hdC (tlC (inC (inC (tlC (nthC 10 (bodyC Try.f6)))))))) 16).dst = some 113 := by kernel_rfl
theorem l6_17_g16 : (regOp (inC (hdC (tlC (inC (inC (tlC (nthC 10 (bodyC Try.f6)))))))) 16).guard = none := by kernel_rfl
theorem l6_17_o16 : (regOp (inC (hdC (tlC (inC (inC (tlC (nthC 10 (bodyC Try.f6)))))))) 16).op = Op.binOp .mul 3 (.tmp 111) (.tmp 112) 3 := by kernel_rfl
theorem l6_17_i17 : (regOps (inC (hdC (tlC (inC (inC (tlC (nthC 10 (bodyC Try.f6)))))))))[17]? = some (regOp (inC (hdC (tlC (inC (inC (tlC (nthC 10 (bodyC Try.f6)))))))) 17) := by kernel_rfl
theorem l6_17_d17 : (regOp (inC (hdC (tlC (inC (inC (tlC (nthC 10 (bodyC Try.f6)))))))) 17).dst = some 114 := by kernel_rfl
theorem l6_17_g17 : (regOp (inC (hdC (tlC (inC (inC (tlC (nthC 10 (bodyC Try.f6)))))))) 17).guard = none := by kernel_rfl
theorem l6_17_o17 : (regOp (inC (hdC (tlC (inC (inC (tlC (nthC 10 (bodyC Try.f6)))))))) 17).op = Op.slice 56 (.tmp 106) (some (.tmp 109)) (some (.tmp 113)) none := by kernel_rfl
theorem l6_17_i18 : (regOps (inC (hdC (tlC (inC (inC (tlC (nthC 10 (bodyC Try.f6)))))))))[18]? = some (regOp (inC (hdC (tlC (inC (inC (tlC (nthC 10 (bodyC Try.f6)))))))) 18) := by kernel_rfl
theorem l6_17_d18 : (regOp (inC (hdC (tlC (inC (inC (tlC (nthC 10 (bodyC Try.f6)))))))) 18).dst = some 115 := by kernel_rfl
theorem l6_17_g18 : (regOp (inC (hdC (tlC (inC (inC (tlC (nthC 10 (bodyC Try.f6)))))))) 18).guard = none := by kernel_rfl
theorem l6_17_o18 : (regOp (inC (hdC (tlC (inC (inC (tlC (nthC 10 (bodyC Try.f6)))))))) 18).op = Op.move (.tmp 6) := by kernel_rfl
theorem l6_17_i19 : (regOps (inC (hdC (tlC (inC (inC (tlC (nthC 10 (bodyC Try.f6)))))))))[19]? = some (regOp (inC (hdC (tlC (inC (inC (tlC (nthC 10 (bodyC Try.f6)))))))) 19) := by kernel_rfl
theorem l6_17_d19 : (regOp (inC (hdC (tlC (inC (inC (tlC (nthC 10 (bodyC Try.f6)))))))) 19).dst = some 116 := by kernel_rfl
theorem l6_17_g19 : (regOp (inC (hdC (tlC (inC (inC (tlC (nthC 10 (bodyC Try.f6)))))))) 19).guard = none := by kernel_rfl
theorem l6_17_o19 : (regOp (inC (hdC (tlC (inC (inC (tlC (nthC 10 (bodyC Try.f6)))))))) 19).op = Op.move (.tmp 16) := by kernel_rfl
theorem l6_17_i20 : (regOps (inC (hdC (tlC (inC (inC (tlC (nthC 10 (bodyC Try.f6)))))))))[20]? = some (regOp (inC (hdC (tlC (inC (inC (tlC (nthC 10 (bodyC Try.f6)))))))) 20) := by kernel_rfl
theorem l6_17_d20 : (regOp (inC (hdC (tlC (inC (inC (tlC (nthC 10 (bodyC Try.f6)))))))) 20).dst = some 117 := by kernel_rfl
theorem l6_17_g20 : (regOp (inC (hdC (tlC (inC (inC (tlC (nthC 10 (bodyC Try.f6)))))))) 20).guard = none := by kernel_rfl
theorem l6_17_o20 : (regOp (inC (hdC (tlC (inC (inC (tlC (nthC 10 (bodyC Try.f6)))))))) 20).op = Op.move (.tmp 2) := by kernel_rfl
theorem l6_17_i21 : (regOps (inC (hdC (tlC (inC (inC (tlC (nthC 10 (bodyC Try.f6)))))))))[21]? = some (regOp (inC (hdC (tlC (inC (inC (tlC (nthC 10 (bodyC Try.f6)))))))) 21) := by kernel_rfl
theorem l6_17_d21 : (regOp (inC (hdC (tlC (inC (inC (tlC (nthC 10 (bodyC Try.f6)))))))) 21).dst = some 118 := by kernel_rfl
theorem l6_17_g21 : (regOp (inC (hdC (tlC (inC (inC (tlC (nthC 10 (bodyC Try.f6)))))))) 21).guard = none := by kernel_rfl
theorem l6_17_o21 : (regOp (inC (hdC (tlC (inC (inC (tlC (nthC 10 (bodyC Try.f6)))))))) 21).op = Op.binOp .mul 3 (.tmp 116) (.tmp 117) 3 := by kernel_rfl
theorem l6_17_i22 : (regOps (inC (hdC (tlC (inC (inC (tlC (nthC 10 (bodyC Try.f6)))))))))[22]? = some (regOp (inC (hdC (tlC (inC (inC (tlC (nthC 10 (bodyC Try.f6)))))))) 22) := by kernel_rfl
theorem l6_17_d22 : (regOp (inC (hdC (tlC (inC (inC (tlC (nthC 10 (bodyC Try.f6)))))))) 22).dst = some 119 := by kernel_rfl
theorem l6_17_g22 : (regOp (inC (hdC (tlC (inC (inC (tlC (nthC 10 (bodyC Try.f6)))))))) 22).guard = none := by kernel_rfl
theorem l6_17_o22 : (regOp (inC (hdC (tlC (inC (inC (tlC (nthC 10 (bodyC Try.f6)))))))) 22).op = Op.move (.tmp 16) := by kernel_rfl
theorem l6_17_i23 : (regOps (inC (hdC (tlC (inC (inC (tlC (nthC 10 (bodyC Try.f6)))))))))[23]? = some (regOp (inC (hdC (tlC (inC (inC (tlC (nthC 10 (bodyC Try.f6)))))))) 23) := by kernel_rfl
theorem l6_17_d23 : (regOp (inC (hdC (tlC (inC (inC (tlC (nthC 10 (bodyC Try.f6)))))))) 23).dst = some 120 := by kernel_rfl
theorem l6_17_g23 : (regOp (inC (hdC (tlC (inC (inC (tlC (nthC 10 (bodyC Try.f6)))))))) 23).guard = none := by kernel_rfl
theorem l6_17_o23 : (regOp (inC (hdC (tlC (inC (inC (tlC (nthC 10 (bodyC Try.f6)))))))) 23).op = Op.binOp .add 3 (.tmp 119) (.const (.int .i64 1)) 3 := by kernel_rfl
theorem l6_17_i24 : (regOps (inC (hdC (tlC (inC (inC (tlC (nthC 10 (bodyC Try.f6)))))))))[24]? = some (regOp (inC (hdC (tlC (inC (inC (tlC (nthC 10 (bodyC Try.f6)))))))) 24) := by kernel_rfl
theorem l6_17_d24 : (regOp (inC (hdC (tlC (inC (inC (tlC (nthC 10 (bodyC Try.f6)))))))) 24).dst = some 121 := by kernel_rfl
theorem l6_17_g24 : (regOp (inC (hdC (tlC (inC (inC (tlC (nthC 10 (bodyC Try.f6)))))))) 24).guard = none := by kernel_rfl
theorem l6_17_o24 : (regOp (inC (hdC (tlC (inC (inC (tlC (nthC 10 (bodyC Try.f6)))))))) 24).op = Op.move (.tmp 2) := by kernel_rfl
theorem l6_17_i25 : (regOps (inC (hdC (tlC (inC (inC (tlC (nthC 10 (bodyC Try.f6)))))))))[25]? = some (regOp (inC (hdC (tlC (inC (inC (tlC (nthC 10 (bodyC Try.f6)))))))) 25) := by kernel_rfl
theorem l6_17_d25 : (regOp (inC (hdC (tlC (inC (inC (tlC (nthC 10 (bodyC Try.f6)))))))) 25).dst = some 122 := by kernel_rfl
theorem l6_17_g25 : (regOp (inC (hdC (tlC (inC (inC (tlC (nthC 10 (bodyC Try.f6)))))))) 25).guard = none := by kernel_rfl
theorem l6_17_o25 : (regOp (inC (hdC (tlC (inC (inC (tlC (nthC 10 (bodyC Try.f6)))))))) 25).op = Op.binOp .mul 3 (.tmp 120) (.tmp 121) 3 := by kernel_rfl
theorem l6_17_i26 : (regOps (inC (hdC (tlC (inC (inC (tlC (nthC 10 (bodyC Try.f6)))))))))[26]? = some (regOp (inC (hdC (tlC (inC (inC (tlC (nthC 10 (bodyC Try.f6)))))))) 26) := by kernel_rfl
theorem l6_17_d26 : (regOp (inC (hdC (tlC (inC (inC (tlC (nthC 10 (bodyC Try.f6)))))))) 26).dst = some 123 := by kernel_rfl
theorem l6_17_g26 : (regOp (inC (hdC (tlC (inC (inC (tlC (nthC 10 (bodyC Try.f6)))))))) 26).guard = none := by kernel_rfl
theorem l6_17_o26 : (regOp (inC (hdC (tlC (inC (inC (tlC (nthC 10 (bodyC Try.f6)))))))) 26).op = Op.slice 25 (.tmp 115) (some (.tmp 118)) (some (.tmp 122)) none := by kernel_rfl
theorem l6_17_i27 : (regOps (inC (hdC (tlC (inC (inC (tlC (nthC 10 (bodyC Try.f6)))))))))[27]? = some (regOp (inC (hdC (tlC (inC (inC (tlC (nthC 10 (bodyC Try.f6)))))))) 27) := by kernel_rfl
theorem l6_17_d27 : (regOp (inC (hdC (tlC (inC (inC (tlC (nthC 10 (bodyC Try.f6)))))))) 27).dst = some 124 := by kernel_rfl
theorem l6_17_g27 : (regOp (inC (hdC (tlC (inC (inC (tlC (nthC 10 (bodyC Try.f6)))))))) 27).guard = none := by kernel_rfl
theorem l6_17_o27 : (regOp (inC (hdC (tlC (inC (inC (tlC (nthC 10 (bodyC Try.f6)))))))) 27).op = Op.call { callee := .value (.func 27), args := #[.tmp 97, .tmp 101, .tmp 105, .tmp 114, .tmp 123], argTypes := #[70, 31, 3, 56, 25] } := by kernel_rfl
theorem l6_17_f0 : Region.free .any (regOps (inC (hdC (tlC (inC (inC (tlC (nthC 10 (bodyC Try.f6))))))))) #[false, false, false, false, false, false, false, false, false, false, false, false, false, false, false, false, false, false, false, false, false, false, false, false, false, false, false, false] 0 = true := by kernel_rfl
theorem l6_17_r0 : (Region.ready .any (regOps (inC (hdC (tlC (inC (inC (tlC (nthC 10 (bodyC Try.f6))))))))) #[false, false, false, false, false, false, false, false, false, false, false, false, false, false, false, false, false, false, false, false, false, false, false, false, false, false, false, false]).contains 0 = true := by kernel_rfl
theorem l6_17_f1 : Region.free .any (regOps (inC (hdC (tlC (inC (inC (tlC (nthC 10 (bodyC Try.f6))))))))) #[true, false, false, false, false, false, false, false, false, false, false, false, false, false, false, false, false, false, false, false, false, false, false, false, false, false, false, false] 1 = true := by kernel_rfl
theorem l6_17_r1 : (Region.ready .any (regOps (inC (hdC (tlC (inC (inC (tlC (nthC 10 (bodyC Try.f6))))))))) #[true, false, false, false, false, false, false, false, false, false, false, false, false, false, false, false, false, false, false, false, false, false, false, false, false, false, false, false]).contains 1 = true := by kernel_rfl
theorem l6_17_f2 : Region.free .any (regOps (inC (hdC (tlC (inC (inC (tlC (nthC 10 (bodyC Try.f6))))))))) #[true, true, false, false, false, false, false, false, false, false, false, false, false, false, false, false, false, false, false, false, false, false, false, false, false, false, false, false] 2 = true := by kernel_rfl
theorem l6_17_r2 : (Region.ready .any (regOps (inC (hdC (tlC (inC (inC (tlC (nthC 10 (bodyC Try.f6))))))))) #[true, true, false, false, false, false, false, false, false, false, false, false, false, false, false, false, false, false, false, false, false, false, false, false, false, false, false, false]).contains 2 = true := by kernel_rfl
theorem l6_17_f3 : Region.free .any (regOps (inC (hdC (tlC (inC (inC (tlC (nthC 10 (bodyC Try.f6))))))))) #[true, true, true, false, false, false, false, false, false, false, false, false, false, false, false, false, false, false, false, false, false, false, false, false, false, false, false, false] 3 = true := by kernel_rfl
theorem l6_17_r3 : (Region.ready .any (regOps (inC (hdC (tlC (inC (inC (tlC (nthC 10 (bodyC Try.f6))))))))) #[true, true, true, false, false, false, false, false, false, false, false, false, false, false, false, false, false, false, false, false, false, false, false, false, false, false, false, false]).contains 3 = true := by kernel_rfl
theorem l6_17_f4 : Region.free .any (regOps (inC (hdC (tlC (inC (inC (tlC (nthC 10 (bodyC Try.f6))))))))) #[true, true, true, true, false, false, false, false, false, false, false, false, false, false, false, false, false, false, false, false, false, false, false, false, false, false, false, false] 4 = true := by kernel_rfl
theorem l6_17_r4 : (Region.ready .any (regOps (inC (hdC (tlC (inC (inC (tlC (nthC 10 (bodyC Try.f6))))))))) #[true, true, true, true, false, false, false, false, false, false, false, false, false, false, false, false, false, false, false, false, false, false, false, false, false, false, false, false]).contains 4 = true := by kernel_rfl
theorem l6_17_f5 : Region.free .any (regOps (inC (hdC (tlC (inC (inC (tlC (nthC 10 (bodyC Try.f6))))))))) #[true, true, true, true, true, false, false, false, false, false, false, false, false, false, false, false, false, false, false, false, false, false, false, false, false, false, false, false] 5 = true := by kernel_rfl
theorem l6_17_r5 : (Region.ready .any (regOps (inC (hdC (tlC (inC (inC (tlC (nthC 10 (bodyC Try.f6))))))))) #[true, true, true, true, true, false, false, false, false, false, false, false, false, false, false, false, false, false, false, false, false, false, false, false, false, false, false, false]).contains 5 = true := by kernel_rfl
theorem l6_17_f6 : Region.free .any (regOps (inC (hdC (tlC (inC (inC (tlC (nthC 10 (bodyC Try.f6))))))))) #[true, true, true, true, true, true, false, false, false, false, false, false, false, false, false, false, false, false, false, false, false, false, false, false, false, false, false, false] 6 = true := by kernel_rfl
theorem l6_17_r6 : (Region.ready .any (regOps (inC (hdC (tlC (inC (inC (tlC (nthC 10 (bodyC Try.f6))))))))) #[true, true, true, true, true, true, false, false, false, false, false, false, false, false, false, false, false, false, false, false, false, false, false, false, false, false, false, false]).contains 6 = true := by kernel_rfl
theorem l6_17_f7 : Region.free .any (regOps (inC (hdC (tlC (inC (inC (tlC (nthC 10 (bodyC Try.f6))))))))) #[true, true, true, true, true, true, true, false, false, false, false, false, false, false, false, false, false, false, false, false, false, false, false, false, false, false, false, false] 7 = true := by kernel_rfl
theorem l6_17_r7 : (Region.ready .any (regOps (inC (hdC (tlC (inC (inC (tlC (nthC 10 (bodyC Try.f6))))))))) #[true, true, true, true, true, true, true, false, false, false, false, false, false, false, false, false, false, false, false, false, false, false, false, false, false, false, false, false]).contains 7 = true := by kernel_rfl
theorem l6_17_f8 : Region.free .any (regOps (inC (hdC (tlC (inC (inC (tlC (nthC 10 (bodyC Try.f6))))))))) #[true, true, true, true, true, true, true, true, false, false, false, false, false, false, false, false, false, false, false, false, false, false, false, false, false, false, false, false] 8 = true := by kernel_rfl
theorem l6_17_r8 : (Region.ready .any (regOps (inC (hdC (tlC (inC (inC (tlC (nthC 10 (bodyC Try.f6))))))))) #[true, true, true, true, true, true, true, true, false, false, false, false, false, false, false, false, false, false, false, false, false, false, false, false, false, false, false, false]).contains 8 = true := by kernel_rfl
theorem l6_17_f9 : Region.free .any (regOps (inC (hdC (tlC (inC (inC (tlC (nthC 10 (bodyC Try.f6))))))))) #[true, true, true, true, true, true, true, true, true, false, false, false, false, false, false, false, false, false, false, false, false, false, false, false, false, false, false, false] 9 = true := by kernel_rfl
theorem l6_17_r9 : (Region.ready .any (regOps (inC (hdC (tlC (inC (inC (tlC (nthC 10 (bodyC Try.f6))))))))) #[true, true, true, true, true, true, true, true, true, false, false, false, false, false, false, false, false, false, false, false, false, false, false, false, false, false, false, false]).contains 9 = true := by kernel_rfl
theorem l6_17_f10 : Region.free .any (regOps (inC (hdC (tlC (inC (inC (tlC (nthC 10 (bodyC Try.f6))))))))) #[true, true, true, true, true, true, true, true, true, true, false, false, false, false, false, false, false, false, false, false, false, false, false, false, false, false, false, false] 10 = true := by kernel_rfl
theorem l6_17_r10 : (Region.ready .any (regOps (inC (hdC (tlC (inC (inC (tlC (nthC 10 (bodyC Try.f6))))))))) #[true, true, true, true, true, true, true, true, true, true, false, false, false, false, false, false, false, false, false, false, false, false, false, false, false, false, false, false]).contains 10 = true := by kernel_rfl
theorem l6_17_f11 : Region.free .any (regOps (inC (hdC (tlC (inC (inC (tlC (nthC 10 (bodyC Try.f6))))))))) #[true, true, true, true, true, true, true, true, true, true, true, false, false, false, false, false, false, false, false, false, false, false, false, false, false, false, false, false] 11 = true := by kernel_rfl
theorem l6_17_r11 : (Region.ready .any (regOps (inC (hdC (tlC (inC (inC (tlC (nthC 10 (bodyC Try.f6))))))))) #[true, true, true, true, true, true, true, true, true, true, true, false, false, false, false, false, false, false, false, false, false, false, false, false, false, false, false, false]).contains 11 = true := by kernel_rfl
theorem l6_17_f12 : Region.free .any (regOps (inC (hdC (tlC (inC (inC (tlC (nthC 10 (bodyC Try.f6))))))))) #[true, true, true, true, true, true, true, true, true, true, true, true, false, false, false, false, false, false, false, false, false, false, false, false, false, false, false, false] 12 = true := by kernel_rfl
theorem l6_17_r12 : (Region.ready .any (regOps (inC (hdC (tlC (inC (inC (tlC (nthC 10 (bodyC Try.f6))))))))) #[true, true, true, true, true, true, true, true, true, true, true, true, false, false, false, false, false, false, false, false, false, false, false, false, false, false, false, false]).contains 12 = true := by kernel_rfl
theorem l6_17_f13 : Region.free .any (regOps (inC (hdC (tlC (inC (inC (tlC (nthC 10 (bodyC Try.f6))))))))) #[true, true, true, true, true, true, true, true, true, true, true, true, true, false, false, false, false, false, false, false, false, false, false, false, false, false, false, false] 13 = true := by kernel_rfl
theorem l6_17_r13 : (Region.ready .any (regOps (inC (hdC (tlC (inC (inC (tlC (nthC 10 (bodyC Try.f6))))))))) #[true, true, true, true, true, true, true, true, true, true, true, true, true, false, false, false, false, false, false, false, false, false, false, false, false, false, false, false]).contains 13 = true := by kernel_rfl
theorem l6_17_f14 : Region.free .any (regOps (inC (hdC (tlC (inC (inC (tlC (nthC 10 (bodyC Try.f6))))))))) #[true, true, true, true, true, true, true, true, true, true, true, true, true, true, false, false, false, false, false, false, false, false, false, false, false, false, false, false] 14 = true := by kernel_rfl
theorem l6_17_r14 : (Region.ready .any (regOps (inC (hdC (tlC (inC (inC (tlC (nthC 10 (bodyC Try.f6))))))))) #[true, true, true, true, true, true, true, true, true, true, true, true, true, true, false, false, false, false, false, false, false, false, false, false, false, false, false, false]).contains 14 = true := by kernel_rfl
theorem l6_17_f15 : Region.free .any (regOps (inC (hdC (tlC (inC (inC (tlC (nthC 10 (bodyC Try.f6))))))))) #[true, true, true, true, true, true, true, true, true, true, true, true, true, true, true, false, false, false, false, false, false, false, false, false, false, false, false, false] 15 = true := by kernel_rfl
theorem l6_17_r15 : (Region.ready .any (regOps (inC (hdC (tlC (inC (inC (tlC (nthC 10 (bodyC Try.f6))))))))) #[true, true, true, true, true, true, true, true, true, true, true, true, true, true, true, false, false, false, false, false, false, false, false, false, false, false, false, false]).contains 15 = true := by kernel_rfl
theorem l6_17_f16 : Region.free .any (regOps (inC (hdC (tlC (inC (inC (tlC (nthC 10 (bodyC Try.f6))))))))) #[true, true, true, true, true, true, true, true, true, true, true, true, true, true, true, true, false, false, false, false, false, false, false, false, false, false, false, false] 16 = true := by kernel_rfl
theorem l6_17_r16 : (Region.ready .any (regOps (inC (hdC (tlC (inC (inC (tlC (nthC 10 (bodyC Try.f6))))))))) #[true, true, true, true, true, true, true, true, true, true, true, true, true, true, true, true, false, false, false, false, false, false, false, false, false, false, false, false]).contains 16 = true := by kernel_rfl
theorem l6_17_f17 : Region.free .any (regOps (inC (hdC (tlC (inC (inC (tlC (nthC 10 (bodyC Try.f6))))))))) #[true, true, true, true, true, true, true, true, true, true, true, true, true, true, true, true, true, false, false, false, false, false, false, false, false, false, false, false] 17 = true := by kernel_rfl
theorem l6_17_r17 : (Region.ready .any (regOps (inC (hdC (tlC (inC (inC (tlC (nthC 10 (bodyC Try.f6))))))))) #[true, true, true, true, true, true, true, true, true, true, true, true, true, true, true, true, true, false, false, false, false, false, false, false, false, false, false, false]).contains 17 = true := by kernel_rfl
theorem l6_17_f18 : Region.free .any (regOps (inC (hdC (tlC (inC (inC (tlC (nthC 10 (bodyC Try.f6))))))))) #[true, true, true, true, true, true, true, true, true, true, true, true, true, true, true, true, true, true, false, false, false, false, false, false, false, false, false, false] 18 = true := by kernel_rfl
theorem l6_17_r18 : (Region.ready .any (regOps (inC (hdC (tlC (inC (inC (tlC (nthC 10 (bodyC Try.f6))))))))) #[true, true, true, true, true, true, true, true, true, true, true, true, true, true, true, true, true, true, false, false, false, false, false, false, false, false, false, false]).contains 18 = true := by kernel_rfl
theorem l6_17_f19 : Region.free .any (regOps (inC (hdC (tlC (inC (inC (tlC (nthC 10 (bodyC Try.f6))))))))) #[true, true, true, true, true, true, true, true, true, true, true, true, true, true, true, true, true, true, true, false, false, false, false, false, false, false, false, false] 19 = true := by kernel_rfl
theorem l6_17_r19 : (Region.ready .any (regOps (inC (hdC (tlC (inC (inC (tlC (nthC 10 (bodyC Try.f6))))))))) #[true, true, true, true, true, true, true, true, true, true, true, true, true, true, true, true, true, true, true, false, false, false, false, false, false, false, false, false]).contains 19 = true := by kernel_rfl
theorem l6_17_f20 : Region.free .any (regOps (inC (hdC (tlC (inC (inC (tlC (nthC 10 (bodyC Try.f6))))))))) #[true, true, true, true, true, true, true, true, true, true, true, true, true, true, true, true, true, true, true, true, false, false, false, false, false, false, false, false] 20 = true := by kernel_rfl
theorem l6_17_r20 : (Region.ready .any (regOps (inC (hdC (tlC (inC (inC (tlC (nthC 10 (bodyC Try.f6))))))))) #[true, true, true, true, true, true, true, true, true, true, true, true, true, true, true, true, true, true, true, true, false, false, false, false, false, false, false, false]).contains 20 = true := by kernel_rfl
theorem l6_17_f21 : Region.free .any (regOps (inC (hdC (tlC (inC (inC (tlC (nthC 10 (bodyC Try.f6))))))))) #[true, true, true, true, true, true, true, true, true, true, true, true, true, true, true, true, true, true, true, true, true, false, false, false, false, false, false, false] 21 = true := by kernel_rfl
theorem l6_17_r21 : (Region.ready .any (regOps (inC (hdC (tlC (inC (inC (tlC (nthC 10 (bodyC Try.f6))))))))) #[true, true, true, true, true, true, true, true, true, true, true, true, true, true, true, true, true, true, true, true, true, false, false, false, false, false, false, false]).contains 21 = true := by kernel_rfl
theorem l6_17_f22 : Region.free .any (regOps (inC (hdC (tlC (inC (inC (tlC (nthC 10 (bodyC Try.f6))))))))) #[true, true, true, true, true, true, true, true, true, true, true, true, true, true, true, true, true, true, true, true, true, true, false, false, false, false, false, false] 22 = true := by kernel_rfl
theorem l6_17_r22 : (Region.ready .any (regOps (inC (hdC (tlC (inC (inC (tlC (nthC 10 (bodyC Try.f6))))))))) #[true, true, true, true, true, true, true, true, true, true, true, true, true, true, true, true, true, true, true, true, true, true, false, false, false, false, false, false]).contains 22 = true := by kernel_rfl
theorem l6_17_f23 : Region.free .any (regOps (inC (hdC (tlC (inC (inC (tlC (nthC 10 (bodyC Try.f6))))))))) #[true, true, true, true, true, true, true, true, true, true, true, true, true, true, true, true, true, true, true, true, true, true, true, false, false, false, false, false] 23 = true := by kernel_rfl
theorem l6_17_r23 : (Region.ready .any (regOps (inC (hdC (tlC (inC (inC (tlC (nthC 10 (bodyC Try.f6))))))))) #[true, true, true, true, true, true, true, true, true, true, true, true, true, true, true, true, true, true, true, true, true, true, true, false, false, false, false, false]).contains 23 = true := by kernel_rfl
theorem l6_17_f24 : Region.free .any (regOps (inC (hdC (tlC (inC (inC (tlC (nthC 10 (bodyC Try.f6))))))))) #[true, true, true, true, true, true, true, true, true, true, true, true, true, true, true, true, true, true, true, true, true, true, true, true, false, false, false, false] 24 = true := by kernel_rfl
theorem l6_17_r24 : (Region.ready .any (regOps (inC (hdC (tlC (inC (inC (tlC (nthC 10 (bodyC Try.f6))))))))) #[true, true, true, true, true, true, true, true, true, true, true, true, true, true, true, true, true, true, true, true, true, true, true, true, false, false, false, false]).contains 24 = true := by kernel_rfl
theorem l6_17_f25 : Region.free .any (regOps (inC (hdC (tlC (inC (inC (tlC (nthC 10 (bodyC Try.f6))))))))) #[true, true, true, true, true, true, true, true, true, true, true, true, true, true, true, true, true, true, true, true, true, true, true, true, true, false, false, false] 25 = true := by kernel_rfl
theorem l6_17_r25 : (Region.ready .any (regOps (inC (hdC (tlC (inC (inC (tlC (nthC 10 (bodyC Try.f6))))))))) #[true, true, true, true, true, true, true, true, true, true, true, true, true, true, true, true, true, true, true, true, true, true, true, true, true, false, false, false]).contains 25 = true := by kernel_rfl
theorem l6_17_f26 : Region.free .any (regOps (inC (hdC (tlC (inC (inC (tlC (nthC 10 (bodyC Try.f6))))))))) #[true, true, true, true, true, true, true, true, true, true, true, true, true, true, true, true, true, true, true, true, true, true, true, true, true, true, false, false] 26 = true := by kernel_rfl
theorem l6_17_r26 : (Region.ready .any (regOps (inC (hdC (tlC (inC (inC (tlC (nthC 10 (bodyC Try.f6))))))))) #[true, true, true, true, true, true, true, true, true, true, true, true, true, true, true, true, true, true, true, true, true, true, true, true, true, true, false, false]).contains 26 = true := by kernel_rfl
theorem l6_17_r27 : Region.ready .any (regOps (inC (hdC (tlC (inC (inC (tlC (nthC 10 (bodyC Try.f6))))))))) #[true, true, true, true, true, true, true, true, true, true, true, true, true, true, true, true, true, true, true, true, true, true, true, true, true, true, true, false] = [27] := by kernel_rfl
theorem l6_17_e : Region.ready .any (regOps (inC (hdC (tlC (inC (inC (tlC (nthC 10 (bodyC Try.f6))))))))) #[true, true, true, true, true, true, true, true, true, true, true, true, true, true, true, true, true, true, true, true, true, true, true, true, true, true, true, true] = [] := by kernel_rfl

set_option maxRecDepth 10000 in
set_option maxHeartbeats 1000000 in
theorem l6_17p (kap st : Int) (m K I pb cb rb ib b1 k lo hi : Nat) (p ck : Int) (G : World → Prop) (a : Act) (w : World) (Q : Exit → Act → World → Prop) (hfr : Fr 202 a) (hs : Slots [(0, .int .i64 kap), (1, .int .u32 st), (2, .int .i64 (m : Nat)), (3, .slice (some ⟨pb, 0, none⟩) K K), (4, .slice (some ⟨cb, 0, none⟩) K K), (5, .slice (some ⟨rb, 0, none⟩) I I), (6, .slice (some ⟨ib, 0, none⟩) I I), (15, .pointer (some ⟨b1, 0, none⟩)), (16, .int .i64 (k : Nat))] a)
    (hlo : IntKind.i64.wrap ((k : Int) * (m : Int)) = (lo : Int)) (hhi : IntKind.i64.wrap (((k : Int) + 1) * (m : Int)) = (hi : Int)) (hle : (lo : Int) ≤ hi) (hhI : (hi : Int) ≤ I) (hIl : ¬ (I = lo)) (hk1 : IntKind.i64.wrap ((k : Int) + 1) = (k : Int) + 1) (lk : (k : Int) < K)
    (cp : w.cell? ⟨pb, k, none⟩ = some (.int .u64 p)) (cc : w.cell? ⟨cb, k, none⟩ = some (.int .i64 ck))
    (hcall : Calls Try.prog 27 #[.pointer (some ⟨b1, 0, none⟩), .int .u64 p, .int .i64 ck, .slice (some ⟨rb, lo, none⟩) (hi - lo) (I - lo), .slice (some ⟨ib, lo, none⟩) (hi - lo) (I - lo)] w.drew fun e w' => e = .returned (.tuple #[]) ∧ (fun w' : World => w'.cell? ⟨pb, k, none⟩ = some (.int .u64 p) ∧ w'.cell? ⟨cb, k, none⟩ = some (.int .i64 ck)) w' ∧ G w')
    (hQ : ∀ a' w', G w' → Fr 202 a' → Slots [(0, .int .i64 kap), (1, .int .u32 st), (2, .int .i64 (m : Nat)), (3, .slice (some ⟨pb, 0, none⟩) K K), (4, .slice (some ⟨cb, 0, none⟩) K K), (5, .slice (some ⟨rb, 0, none⟩) I I), (6, .slice (some ⟨ib, 0, none⟩) I I), (15, .pointer (some ⟨b1, 0, none⟩)), (16, .int .i64 (k : Nat))] a' → Q .normal a' w') :
    Code.wp Try.prog (inC (hdC (tlC (inC (inC (tlC (nthC 10 (bodyC Try.f6)))))))) Q a w := by
  obtain ⟨t0, t1, t2, t3, t4, t5, t6, t15, t16, -⟩ := hs
  replace t0 : a.tmps[0]?.getD undef = .int .i64 kap := (sl_at a 0).symm.trans t0
  replace t1 : a.tmps[1]?.getD undef = .int .u32 st := (sl_at a 1).symm.trans t1
  replace t2 : a.tmps[2]?.getD undef = .int .i64 (m : Nat) := (sl_at a 2).symm.trans t2
  replace t3 : a.tmps[3]?.getD undef = .slice (some ⟨pb, 0, none⟩) K K := (sl_at a 3).symm.trans t3
  replace t4 : a.tmps[4]?.getD undef = .slice (some ⟨cb, 0, none⟩) K K := (sl_at a 4).symm.trans t4
  replace t5 : a.tmps[5]?.getD undef = .slice (some ⟨rb, 0, none⟩) I I := (sl_at a 5).symm.trans t5
  replace t6 : a.tmps[6]?.getD undef = .slice (some ⟨ib, 0, none⟩) I I := (sl_at a 6).symm.trans t6
  replace t15 : a.tmps[15]?.getD undef = .pointer (some ⟨b1, 0, none⟩) := (sl_at a 15).symm.trans t15
  replace t16 : a.tmps[16]?.getD undef = .int .i64 (k : Nat) := (sl_at a 16).symm.trans t16
  have hS0 : (fun w' : World => w'.cell? ⟨pb, k, none⟩ = some (.int .u64 p) ∧ w'.cell? ⟨cb, k, none⟩ = some (.int .i64 ck)) w.drew := ⟨cp, cc⟩
  refine wp_navR (fun w' : World => w'.cell? ⟨pb, k, none⟩ = some (.int .u64 p) ∧ w'.cell? ⟨cb, k, none⟩ = some (.int .i64 ck)) (fun a' w' => G w' ∧ Fr 202 a' ∧ Slots [(0, .int .i64 kap), (1, .int .u32 st), (2, .int .i64 (m : Nat)), (3, .slice (some ⟨pb, 0, none⟩) K K), (4, .slice (some ⟨cb, 0, none⟩) K K), (5, .slice (some ⟨rb, 0, none⟩) I I), (6, .slice (some ⟨ib, 0, none⟩) I I), (15, .pointer (some ⟨b1, 0, none⟩)), (16, .int .i64 (k : Nat))] a') 28 #[false, false, false, false, false, false, false, false, false, false, false, false, false, false, false, false, false, false, false, false, false, false, false, false, false, false, false, false] (by kernel_rfl) (by kernel_rfl) (by kernel_rfl) rfl ?_ (fun a' w' ⟨h1, h2, h3⟩ => hQ a' w' h1 h2 h3)
  clear hQ
  refine take1 0 97 _ (.pointer (some ⟨b1, 0, none⟩)) #[true, false, false, false, false, false, false, false, false, false, false, false, false, false, false, false, false, false, false, false, false, false, false, false, false, false, false, false] l6_17_i0 l6_17_d0 (by decide) l6_17_s l6_17_f0 l6_17_r0 l6_17_g0 rfl hS0 hfr ?_ ?_
  · intro wx hx; obtain ⟨h0, h1⟩ := hx; simp only [execOp, l6_17_o0]; go_simp
  intro a1 fr1 t97 ho
  replace t0 := (ho 0 (by decide)).trans t0
  replace t1 := (ho 1 (by decide)).trans t1
  replace t2 := (ho 2 (by decide)).trans t2
  replace t3 := (ho 3 (by decide)).trans t3
  replace t4 := (ho 4 (by decide)).trans t4
  replace t5 := (ho 5 (by decide)).trans t5
  replace t6 := (ho 6 (by decide)).trans t6
  replace t15 := (ho 15 (by decide)).trans t15
  replace t16 := (ho 16 (by decide)).trans t16
  clear hfr ho
  refine take1 1 98 _ (.slice (some ⟨pb, 0, none⟩) K K) #[true, true, false, false, false, false, false, false, false, false, false, false, false, false, false, false, false, false, false, false, false, false, false, false, false, false, false, false] l6_17_i1 l6_17_d1 (by decide) l6_17_s l6_17_f1 l6_17_r1 l6_17_g1 rfl hS0 fr1 ?_ ?_
  · intro wx hx; obtain ⟨h0, h1⟩ := hx; simp only [execOp, l6_17_o1]; go_simp
  intro a2 fr2 t98 ho
  replace t0 := (ho 0 (by decide)).trans t0
  replace t1 := (ho 1 (by decide)).trans t1
  replace t2 := (ho 2 (by decide)).trans t2
  replace t3 := (ho 3 (by decide)).trans t3
  replace t4 := (ho 4 (by decide)).trans t4
  replace t5 := (ho 5 (by decide)).trans t5
  replace t6 := (ho 6 (by decide)).trans t6
  replace t15 := (ho 15 (by decide)).trans t15
  replace t16 := (ho 16 (by decide)).trans t16
  replace t97 := (ho 97 (by decide)).trans t97
  clear fr1 ho
  refine take1 2 99 _ (.int .i64 (k : Nat)) #[true, true, true, false, false, false, false, false, false, false, false, false, false, false, false, false, false, false, false, false, false, false, false, false, false, false, false, false] l6_17_i2 l6_17_d2 (by decide) l6_17_s l6_17_f2 l6_17_r2 l6_17_g2 rfl hS0 fr2 ?_ ?_
  · intro wx hx; obtain ⟨h0, h1⟩ := hx; simp only [execOp, l6_17_o2]; go_simp
  intro a3 fr3 t99 ho
  replace t0 := (ho 0 (by decide)).trans t0
  replace t1 := (ho 1 (by decide)).trans t1
  replace t2 := (ho 2 (by decide)).trans t2
  replace t3 := (ho 3 (by decide)).trans t3
  replace t4 := (ho 4 (by decide)).trans t4
  replace t5 := (ho 5 (by decide)).trans t5
  replace t6 := (ho 6 (by decide)).trans t6
  replace t15 := (ho 15 (by decide)).trans t15
  replace t16 := (ho 16 (by decide)).trans t16
  replace t97 := (ho 97 (by decide)).trans t97
  replace t98 := (ho 98 (by decide)).trans t98
  clear fr2 ho
  refine take1 3 100 _ (.pointer (some ⟨pb, k, none⟩)) #[true, true, true, true, false, false, false, false, false, false, false, false, false, false, false, false, false, false, false, false, false, false, false, false, false, false, false, false] l6_17_i3 l6_17_d3 (by decide) l6_17_s l6_17_f3 l6_17_r3 l6_17_g3 rfl hS0 fr3 ?_ ?_
  · intro wx hx; obtain ⟨h0, h1⟩ := hx; simp only [execOp, l6_17_o3]; go_simp
  intro a4 fr4 t100 ho
  replace t0 := (ho 0 (by decide)).trans t0
  replace t1 := (ho 1 (by decide)).trans t1
  replace t2 := (ho 2 (by decide)).trans t2
  replace t3 := (ho 3 (by decide)).trans t3
  replace t4 := (ho 4 (by decide)).trans t4
  replace t5 := (ho 5 (by decide)).trans t5
  replace t6 := (ho 6 (by decide)).trans t6
  replace t15 := (ho 15 (by decide)).trans t15
  replace t16 := (ho 16 (by decide)).trans t16
  replace t97 := (ho 97 (by decide)).trans t97
  replace t98 := (ho 98 (by decide)).trans t98
  replace t99 := (ho 99 (by decide)).trans t99
  clear fr3 ho
  clear t98 t99
  refine take1 4 101 _ (.int .u64 p) #[true, true, true, true, true, false, false, false, false, false, false, false, false, false, false, false, false, false, false, false, false, false, false, false, false, false, false, false] l6_17_i4 l6_17_d4 (by decide) l6_17_s l6_17_f4 l6_17_r4 l6_17_g4 rfl hS0 fr4 ?_ ?_
  · intro wx hx; obtain ⟨h0, h1⟩ := hx; simp only [execOp, l6_17_o4]; go_simp
  intro a5 fr5 t101 ho
  replace t0 := (ho 0 (by decide)).trans t0
  replace t1 := (ho 1 (by decide)).trans t1
  replace t2 := (ho 2 (by decide)).trans t2
  replace t3 := (ho 3 (by decide)).trans t3
  replace t4 := (ho 4 (by decide)).trans t4
  replace t5 := (ho 5 (by decide)).trans t5
  replace t6 := (ho 6 (by decide)).trans t6
  replace t15 := (ho 15 (by decide)).trans t15
  replace t16 := (ho 16 (by decide)).trans t16
  replace t97 := (ho 97 (by decide)).trans t97
  replace t100 := (ho 100 (by decide)).trans t100
  clear fr4 ho
  clear t100
  refine take1 5 102 _ (.slice (some ⟨cb, 0, none⟩) K K) #[true, true, true, true, true, true, false, false, false, false, false, false, false, false, false, false, false, false, false, false, false, false, false, false, false, false, false, false] l6_17_i5 l6_17_d5 (by decide) l6_17_s l6_17_f5 l6_17_r5 l6_17_g5 rfl hS0 fr5 ?_ ?_
  · intro wx hx; obtain ⟨h0, h1⟩ := hx; simp only [execOp, l6_17_o5]; go_simp
  intro a6 fr6 t102 ho
  replace t0 := (ho 0 (by decide)).trans t0
  replace t1 := (ho 1 (by decide)).trans t1
  replace t2 := (ho 2 (by decide)).trans t2
  replace t3 := (ho 3 (by decide)).trans t3
  replace t4 := (ho 4 (by decide)).trans t4
  replace t5 := (ho 5 (by decide)).trans t5
  replace t6 := (ho 6 (by decide)).trans t6
  replace t15 := (ho 15 (by decide)).trans t15
  replace t16 := (ho 16 (by decide)).trans t16
  replace t97 := (ho 97 (by decide)).trans t97
  replace t101 := (ho 101 (by decide)).trans t101
  clear fr5 ho
  refine take1 6 103 _ (.int .i64 (k : Nat)) #[true, true, true, true, true, true, true, false, false, false, false, false, false, false, false, false, false, false, false, false, false, false, false, false, false, false, false, false] l6_17_i6 l6_17_d6 (by decide) l6_17_s l6_17_f6 l6_17_r6 l6_17_g6 rfl hS0 fr6 ?_ ?_
  · intro wx hx; obtain ⟨h0, h1⟩ := hx; simp only [execOp, l6_17_o6]; go_simp
  intro a7 fr7 t103 ho
  replace t0 := (ho 0 (by decide)).trans t0
  replace t1 := (ho 1 (by decide)).trans t1
  replace t2 := (ho 2 (by decide)).trans t2
  replace t3 := (ho 3 (by decide)).trans t3
  replace t4 := (ho 4 (by decide)).trans t4
  replace t5 := (ho 5 (by decide)).trans t5
  replace t6 := (ho 6 (by decide)).trans t6
  replace t15 := (ho 15 (by decide)).trans t15
  replace t16 := (ho 16 (by decide)).trans t16
  replace t97 := (ho 97 (by decide)).trans t97
  replace t101 := (ho 101 (by decide)).trans t101
  replace t102 := (ho 102 (by decide)).trans t102
  clear fr6 ho
  refine take1 7 104 _ (.pointer (some ⟨cb, k, none⟩)) #[true, true, true, true, true, true, true, true, false, false, false, false, false, false, false, false, false, false, false, false, false, false, false, false, false, false, false, false] l6_17_i7 l6_17_d7 (by decide) l6_17_s l6_17_f7 l6_17_r7 l6_17_g7 rfl hS0 fr7 ?_ ?_
  · intro wx hx; obtain ⟨h0, h1⟩ := hx; simp only [execOp, l6_17_o7]; go_simp
  intro a8 fr8 t104 ho
  replace t0 := (ho 0 (by decide)).trans t0
  replace t1 := (ho 1 (by decide)).trans t1
  replace t2 := (ho 2 (by decide)).trans t2
  replace t3 := (ho 3 (by decide)).trans t3
  replace t4 := (ho 4 (by decide)).trans t4
  replace t5 := (ho 5 (by decide)).trans t5
  replace t6 := (ho 6 (by decide)).trans t6
  replace t15 := (ho 15 (by decide)).trans t15
  replace t16 := (ho 16 (by decide)).trans t16
  replace t97 := (ho 97 (by decide)).trans t97
  replace t101 := (ho 101 (by decide)).trans t101
  replace t102 := (ho 102 (by decide)).trans t102
  replace t103 := (ho 103 (by decide)).trans t103
  clear fr7 ho
  clear t102 t103
  refine take1 8 105 _ (.int .i64 ck) #[true, true, true, true, true, true, true, true, true, false, false, false, false, false, false, false, false, false, false, false, false, false, false, false, false, false, false, false] l6_17_i8 l6_17_d8 (by decide) l6_17_s l6_17_f8 l6_17_r8 l6_17_g8 rfl hS0 fr8 ?_ ?_
  · intro wx hx; obtain ⟨h0, h1⟩ := hx; simp only [execOp, l6_17_o8]; go_simp
  intro a9 fr9 t105 ho
  replace t0 := (ho 0 (by decide)).trans t0
  replace t1 := (ho 1 (by decide)).trans t1
  replace t2 := (ho 2 (by decide)).trans t2
  replace t3 := (ho 3 (by decide)).trans t3
  replace t4 := (ho 4 (by decide)).trans t4
  replace t5 := (ho 5 (by decide)).trans t5
  replace t6 := (ho 6 (by decide)).trans t6
  replace t15 := (ho 15 (by decide)).trans t15
  replace t16 := (ho 16 (by decide)).trans t16
  replace t97 := (ho 97 (by decide)).trans t97
  replace t101 := (ho 101 (by decide)).trans t101
  replace t104 := (ho 104 (by decide)).trans t104
  clear fr8 ho
  clear t104
  refine take1 9 106 _ (.slice (some ⟨rb, 0, none⟩) I I) #[true, true, true, true, true, true, true, true, true, true, false, false, false, false, false, false, false, false, false, false, false, false, false, false, false, false, false, false] l6_17_i9 l6_17_d9 (by decide) l6_17_s l6_17_f9 l6_17_r9 l6_17_g9 rfl hS0 fr9 ?_ ?_
  · intro wx hx; obtain ⟨h0, h1⟩ := hx; simp only [execOp, l6_17_o9]; go_simp
  intro a10 fr10 t106 ho
  replace t0 := (ho 0 (by decide)).trans t0
  replace t1 := (ho 1 (by decide)).trans t1
  replace t2 := (ho 2 (by decide)).trans t2
  replace t3 := (ho 3 (by decide)).trans t3
  replace t4 := (ho 4 (by decide)).trans t4
  replace t5 := (ho 5 (by decide)).trans t5
  replace t6 := (ho 6 (by decide)).trans t6
  replace t15 := (ho 15 (by decide)).trans t15
  replace t16 := (ho 16 (by decide)).trans t16
  replace t97 := (ho 97 (by decide)).trans t97
  replace t101 := (ho 101 (by decide)).trans t101
  replace t105 := (ho 105 (by decide)).trans t105
  clear fr9 ho
  refine take1 10 107 _ (.int .i64 (k : Nat)) #[true, true, true, true, true, true, true, true, true, true, true, false, false, false, false, false, false, false, false, false, false, false, false, false, false, false, false, false] l6_17_i10 l6_17_d10 (by decide) l6_17_s l6_17_f10 l6_17_r10 l6_17_g10 rfl hS0 fr10 ?_ ?_
  · intro wx hx; obtain ⟨h0, h1⟩ := hx; simp only [execOp, l6_17_o10]; go_simp
  intro a11 fr11 t107 ho
  replace t0 := (ho 0 (by decide)).trans t0
  replace t1 := (ho 1 (by decide)).trans t1
  replace t2 := (ho 2 (by decide)).trans t2
  replace t3 := (ho 3 (by decide)).trans t3
  replace t4 := (ho 4 (by decide)).trans t4
  replace t5 := (ho 5 (by decide)).trans t5
  replace t6 := (ho 6 (by decide)).trans t6
  replace t15 := (ho 15 (by decide)).trans t15
  replace t16 := (ho 16 (by decide)).trans t16
  replace t97 := (ho 97 (by decide)).trans t97
  replace t101 := (ho 101 (by decide)).trans t101
  replace t105 := (ho 105 (by decide)).trans t105
  replace t106 := (ho 106 (by decide)).trans t106
  clear fr10 ho
  refine take1 11 108 _ (.int .i64 (m : Nat)) #[true, true, true, true, true, true, true, true, true, true, true, true, false, false, false, false, false, false, false, false, false, false, false, false, false, false, false, false] l6_17_i11 l6_17_d11 (by decide) l6_17_s l6_17_f11 l6_17_r11 l6_17_g11 rfl hS0 fr11 ?_ ?_
  · intro wx hx; obtain ⟨h0, h1⟩ := hx; simp only [execOp, l6_17_o11]; go_simp
  intro a12 fr12 t108 ho
  replace t0 := (ho 0 (by decide)).trans t0
  replace t1 := (ho 1 (by decide)).trans t1
  replace t2 := (ho 2 (by decide)).trans t2
  replace t3 := (ho 3 (by decide)).trans t3
  replace t4 := (ho 4 (by decide)).trans t4
  replace t5 := (ho 5 (by decide)).trans t5
  replace t6 := (ho 6 (by decide)).trans t6
  replace t15 := (ho 15 (by decide)).trans t15
  replace t16 := (ho 16 (by decide)).trans t16
  replace t97 := (ho 97 (by decide)).trans t97
  replace t101 := (ho 101 (by decide)).trans t101
  replace t105 := (ho 105 (by decide)).trans t105
  replace t106 := (ho 106 (by decide)).trans t106
  replace t107 := (ho 107 (by decide)).trans t107
  clear fr11 ho
  refine take1 12 109 _ (.int .i64 (lo : Nat)) #[true, true, true, true, true, true, true, true, true, true, true, true, true, false, false, false, false, false, false, false, false, false, false, false, false, false, false, false] l6_17_i12 l6_17_d12 (by decide) l6_17_s l6_17_f12 l6_17_r12 l6_17_g12 rfl hS0 fr12 ?_ ?_
  · intro wx hx; obtain ⟨h0, h1⟩ := hx; simp only [execOp, l6_17_o12]; go_simp
  intro a13 fr13 t109 ho
  replace t0 := (ho 0 (by decide)).trans t0
  replace t1 := (ho 1 (by decide)).trans t1
  replace t2 := (ho 2 (by decide)).trans t2
  replace t3 := (ho 3 (by decide)).trans t3
  replace t4 := (ho 4 (by decide)).trans t4
  replace t5 := (ho 5 (by decide)).trans t5
  replace t6 := (ho 6 (by decide)).trans t6
  replace t15 := (ho 15 (by decide)).trans t15
  replace t16 := (ho 16 (by decide)).trans t16
  replace t97 := (ho 97 (by decide)).trans t97
  replace t101 := (ho 101 (by decide)).trans t101
  replace t105 := (ho 105 (by decide)).trans t105
  replace t106 := (ho 106 (by decide)).trans t106
  replace t107 := (ho 107 (by decide)).trans t107
  replace t108 := (ho 108 (by decide)).trans t108
  clear fr12 ho
  clear t107 t108
  refine take1 13 110 _ (.int .i64 (k : Nat)) #[true, true, true, true, true, true, true, true, true, true, true, true, true, true, false, false, false, false, false, false, false, false, false, false, false, false, false, false] l6_17_i13 l6_17_d13 (by decide) l6_17_s l6_17_f13 l6_17_r13 l6_17_g13 rfl hS0 fr13 ?_ ?_
  · intro wx hx; obtain ⟨h0, h1⟩ := hx; simp only [execOp, l6_17_o13]; go_simp
  intro a14 fr14 t110 ho
  replace t0 := (ho 0 (by decide)).trans t0
  replace t1 := (ho 1 (by decide)).trans t1
  replace t2 := (ho 2 (by decide)).trans t2
  replace t3 := (ho 3 (by decide)).trans t3
  replace t4 := (ho 4 (by decide)).trans t4
  replace t5 := (ho 5 (by decide)).trans t5
  replace t6 := (ho 6 (by decide)).trans t6
  replace t15 := (ho 15 (by decide)).trans t15
  replace t16 := (ho 16 (by decide)).trans t16
  replace t97 := (ho 97 (by decide)).trans t97
  replace t101 := (ho 101 (by decide)).trans t101
  replace t105 := (ho 105 (by decide)).trans t105
  replace t106 := (ho 106 (by decide)).trans t106
  replace t109 := (ho 109 (by decide)).trans t109
  clear fr13 ho
  refine take1 14 111 _ (.int .i64 ((k : Nat) + 1)) #[true, true, true, true, true, true, true, true, true, true, true, true, true, true, true, false, false, false, false, false, false, false, false, false, false, false, false, false] l6_17_i14 l6_17_d14 (by decide) l6_17_s l6_17_f14 l6_17_r14 l6_17_g14 rfl hS0 fr14 ?_ ?_
  · intro wx hx; obtain ⟨h0, h1⟩ := hx; simp only [execOp, l6_17_o14]; go_simp
  intro a15 fr15 t111 ho
  replace t0 := (ho 0 (by decide)).trans t0
  replace t1 := (ho 1 (by decide)).trans t1
  replace t2 := (ho 2 (by decide)).trans t2
  replace t3 := (ho 3 (by decide)).trans t3
  replace t4 := (ho 4 (by decide)).trans t4
  replace t5 := (ho 5 (by decide)).trans t5
  replace t6 := (ho 6 (by decide)).trans t6
  replace t15 := (ho 15 (by decide)).trans t15
  replace t16 := (ho 16 (by decide)).trans t16
  replace t97 := (ho 97 (by decide)).trans t97
  replace t101 := (ho 101 (by decide)).trans t101
  replace t105 := (ho 105 (by decide)).trans t105
  replace t106 := (ho 106 (by decide)).trans t106
  replace t109 := (ho 109 (by decide)).trans t109
  replace t110 := (ho 110 (by decide)).trans t110
  clear fr14 ho
  clear t110
  refine take1 15 112 _ (.int .i64 (m : Nat)) #[true, true, true, true, true, true, true, true, true, true, true, true, true, true, true, true, false, false, false, false, false, false, false, false, false, false, false, false] l6_17_i15 l6_17_d15 (by decide) l6_17_s l6_17_f15 l6_17_r15 l6_17_g15 rfl hS0 fr15 ?_ ?_
  · intro wx hx; obtain ⟨h0, h1⟩ := hx; simp only [execOp, l6_17_o15]; go_simp
  intro a16 fr16 t112 ho
  replace t0 := (ho 0 (by decide)).trans t0
  replace t1 := (ho 1 (by decide)).trans t1
  replace t2 := (ho 2 (by decide)).trans t2
  replace t3 := (ho 3 (by decide)).trans t3
  replace t4 := (ho 4 (by decide)).trans t4
  replace t5 := (ho 5 (by decide)).trans t5
  replace t6 := (ho 6 (by decide)).trans t6
  replace t15 := (ho 15 (by decide)).trans t15
  replace t16 := (ho 16 (by decide)).trans t16
  replace t97 := (ho 97 (by decide)).trans t97
  replace t101 := (ho 101 (by decide)).trans t101
  replace t105 := (ho 105 (by decide)).trans t105
  replace t106 := (ho 106 (by decide)).trans t106
  replace t109 := (ho 109 (by decide)).trans t109
  replace t111 := (ho 111 (by decide)).trans t111
  clear fr15 ho
  refine take1 16 113 _ (.int .i64 (hi : Nat)) #[true, true, true, true, true, true, true, true, true, true, true, true, true, true, true, true, true, false, false, false, false, false, false, false, false, false, false, false] l6_17_i16 l6_17_d16 (by decide) l6_17_s l6_17_f16 l6_17_r16 l6_17_g16 rfl hS0 fr16 ?_ ?_
  · intro wx hx; obtain ⟨h0, h1⟩ := hx; simp only [execOp, l6_17_o16]; go_simp
  intro a17 fr17 t113 ho
  replace t0 := (ho 0 (by decide)).trans t0
  replace t1 := (ho 1 (by decide)).trans t1
  replace t2 := (ho 2 (by decide)).trans t2
  replace t3 := (ho 3 (by decide)).trans t3
  replace t4 := (ho 4 (by decide)).trans t4
  replace t5 := (ho 5 (by decide)).trans t5
  replace t6 := (ho 6 (by decide)).trans t6
  replace t15 := (ho 15 (by decide)).trans t15
  replace t16 := (ho 16 (by decide)).trans t16
  replace t97 := (ho 97 (by decide)).trans t97
  replace t101 := (ho 101 (by decide)).trans t101
  replace t105 := (ho 105 (by decide)).trans t105
  replace t106 := (ho 106 (by decide)).trans t106
  replace t109 := (ho 109 (by decide)).trans t109
  replace t111 := (ho 111 (by decide)).trans t111
  replace t112 := (ho 112 (by decide)).trans t112
  clear fr16 ho
  clear t111 t112
  refine take1 17 114 _ (.slice (some ⟨rb, lo, none⟩) (hi - lo) (I - lo)) #[true, true, true, true, true, true, true, true, true, true, true, true, true, true, true, true, true, true, false, false, false, false, false, false, false, false, false, false] l6_17_i17 l6_17_d17 (by decide) l6_17_s l6_17_f17 l6_17_r17 l6_17_g17 rfl hS0 fr17 ?_ ?_
  · intro wx hx; obtain ⟨h0, h1⟩ := hx; simp only [execOp, l6_17_o17]; go_simp
  intro a18 fr18 t114 ho
  replace t0 := (ho 0 (by decide)).trans t0
  replace t1 := (ho 1 (by decide)).trans t1
  replace t2 := (ho 2 (by decide)).trans t2
  replace t3 := (ho 3 (by decide)).trans t3
  replace t4 := (ho 4 (by decide)).trans t4
  replace t5 := (ho 5 (by decide)).trans t5
  replace t6 := (ho 6 (by decide)).trans t6
  replace t15 := (ho 15 (by decide)).trans t15
  replace t16 := (ho 16 (by decide)).trans t16
  replace t97 := (ho 97 (by decide)).trans t97
  replace t101 := (ho 101 (by decide)).trans t101
  replace t105 := (ho 105 (by decide)).trans t105
  replace t106 := (ho 106 (by decide)).trans t106
  replace t109 := (ho 109 (by decide)).trans t109
  replace t113 := (ho 113 (by decide)).trans t113
  clear fr17 ho
  clear t106 t109 t113
  refine take1 18 115 _ (.slice (some ⟨ib, 0, none⟩) I I) #[true, true, true, true, true, true, true, true, true, true, true, true, true, true, true, true, true, true, true, false, false, false, false, false, false, false, false, false] l6_17_i18 l6_17_d18 (by decide) l6_17_s l6_17_f18 l6_17_r18 l6_17_g18 rfl hS0 fr18 ?_ ?_
  · intro wx hx; obtain ⟨h0, h1⟩ := hx; simp only [execOp, l6_17_o18]; go_simp
  intro a19 fr19 t115 ho
  replace t0 := (ho 0 (by decide)).trans t0
  replace t1 := (ho 1 (by decide)).trans t1
  replace t2 := (ho 2 (by decide)).trans t2
  replace t3 := (ho 3 (by decide)).trans t3
  replace t4 := (ho 4 (by decide)).trans t4
  replace t5 := (ho 5 (by decide)).trans t5
  replace t6 := (ho 6 (by decide)).trans t6
  replace t15 := (ho 15 (by decide)).trans t15
  replace t16 := (ho 16 (by decide)).trans t16
  replace t97 := (ho 97 (by decide)).trans t97
  replace t101 := (ho 101 (by decide)).trans t101
  replace t105 := (ho 105 (by decide)).trans t105
  replace t114 := (ho 114 (by decide)).trans t114
  clear fr18 ho
  refine take1 19 116 _ (.int .i64 (k : Nat)) #[true, true, true, true, true, true, true, true, true, true, true, true, true, true, true, true, true, true, true, true, false, false, false, false, false, false, false, false] l6_17_i19 l6_17_d19 (by decide) l6_17_s l6_17_f19 l6_17_r19 l6_17_g19 rfl hS0 fr19 ?_ ?_
  · intro wx hx; obtain ⟨h0, h1⟩ := hx; simp only [execOp, l6_17_o19]; go_simp
  intro a20 fr20 t116 ho
  replace t0 := (ho 0 (by decide)).trans t0
  replace t1 := (ho 1 (by decide)).trans t1
  replace t2 := (ho 2 (by decide)).trans t2
  replace t3 := (ho 3 (by decide)).trans t3
  replace t4 := (ho 4 (by decide)).trans t4
  replace t5 := (ho 5 (by decide)).trans t5
  replace t6 := (ho 6 (by decide)).trans t6
  replace t15 := (ho 15 (by decide)).trans t15
  replace t16 := (ho 16 (by decide)).trans t16
  replace t97 := (ho 97 (by decide)).trans t97
  replace t101 := (ho 101 (by decide)).trans t101
  replace t105 := (ho 105 (by decide)).trans t105
  replace t114 := (ho 114 (by decide)).trans t114
  replace t115 := (ho 115 (by decide)).trans t115
  clear fr19 ho
  refine take1 20 117 _ (.int .i64 (m : Nat)) #[true, true, true, true, true, true, true, true, true, true, true, true, true, true, true, true, true, true, true, true, true, false, false, false, false, false, false, false] l6_17_i20 l6_17_d20 (by decide) l6_17_s l6_17_f20 l6_17_r20 l6_17_g20 rfl hS0 fr20 ?_ ?_
  · intro wx hx; obtain ⟨h0, h1⟩ := hx; simp only [execOp, l6_17_o20]; go_simp
  intro a21 fr21 t117 ho
  replace t0 := (ho 0 (by decide)).trans t0
  replace t1 := (ho 1 (by decide)).trans t1
  replace t2 := (ho 2 (by decide)).trans t2
  replace t3 := (ho 3 (by decide)).trans t3
  replace t4 := (ho 4 (by decide)).trans t4
  replace t5 := (ho 5 (by decide)).trans t5
  replace t6 := (ho 6 (by decide)).trans t6
  replace t15 := (ho 15 (by decide)).trans t15
  replace t16 := (ho 16 (by decide)).trans t16
  replace t97 := (ho 97 (by decide)).trans t97
  replace t101 := (ho 101 (by decide)).trans t101
  replace t105 := (ho 105 (by decide)).trans t105
  replace t114 := (ho 114 (by decide)).trans t114
  replace t115 := (ho 115 (by decide)).trans t115
  replace t116 := (ho 116 (by decide)).trans t116
  clear fr20 ho
  refine take1 21 118 _ (.int .i64 (lo : Nat)) #[true, true, true, true, true, true, true, true, true, true, true, true, true, true, true, true, true, true, true, true, true, true, false, false, false, false, false, false] l6_17_i21 l6_17_d21 (by decide) l6_17_s l6_17_f21 l6_17_r21 l6_17_g21 rfl hS0 fr21 ?_ ?_
  · intro wx hx; obtain ⟨h0, h1⟩ := hx; simp only [execOp, l6_17_o21]; go_simp
  intro a22 fr22 t118 ho
  replace t0 := (ho 0 (by decide)).trans t0
  replace t1 := (ho 1 (by decide)).trans t1
  replace t2 := (ho 2 (by decide)).trans t2
  replace t3 := (ho 3 (by decide)).trans t3
  replace t4 := (ho 4 (by decide)).trans t4
  replace t5 := (ho 5 (by decide)).trans t5
  replace t6 := (ho 6 (by decide)).trans t6
  replace t15 := (ho 15 (by decide)).trans t15
  replace t16 := (ho 16 (by decide)).trans t16
  replace t97 := (ho 97 (by decide)).trans t97
  replace t101 := (ho 101 (by decide)).trans t101
  replace t105 := (ho 105 (by decide)).trans t105
  replace t114 := (ho 114 (by decide)).trans t114
  replace t115 := (ho 115 (by decide)).trans t115
  replace t116 := (ho 116 (by decide)).trans t116
  replace t117 := (ho 117 (by decide)).trans t117
  clear fr21 ho
  clear t116 t117
  refine take1 22 119 _ (.int .i64 (k : Nat)) #[true, true, true, true, true, true, true, true, true, true, true, true, true, true, true, true, true, true, true, true, true, true, true, false, false, false, false, false] l6_17_i22 l6_17_d22 (by decide) l6_17_s l6_17_f22 l6_17_r22 l6_17_g22 rfl hS0 fr22 ?_ ?_
  · intro wx hx; obtain ⟨h0, h1⟩ := hx; simp only [execOp, l6_17_o22]; go_simp
  intro a23 fr23 t119 ho
  replace t0 := (ho 0 (by decide)).trans t0
  replace t1 := (ho 1 (by decide)).trans t1
  replace t2 := (ho 2 (by decide)).trans t2
  replace t3 := (ho 3 (by decide)).trans t3
  replace t4 := (ho 4 (by decide)).trans t4
  replace t5 := (ho 5 (by decide)).trans t5
  replace t6 := (ho 6 (by decide)).trans t6
  replace t15 := (ho 15 (by decide)).trans t15
  replace t16 := (ho 16 (by decide)).trans t16
  replace t97 := (ho 97 (by decide)).trans t97
  replace t101 := (ho 101 (by decide)).trans t101
  replace t105 := (ho 105 (by decide)).trans t105
  replace t114 := (ho 114 (by decide)).trans t114
  replace t115 := (ho 115 (by decide)).trans t115
  replace t118 := (ho 118 (by decide)).trans t118
  clear fr22 ho
  refine take1 23 120 _ (.int .i64 ((k : Nat) + 1)) #[true, true, true, true, true, true, true, true, true, true, true, true, true, true, true, true, true, true, true, true, true, true, true, true, false, false, false, false] l6_17_i23 l6_17_d23 (by decide) l6_17_s l6_17_f23 l6_17_r23 l6_17_g23 rfl hS0 fr23 ?_ ?_
  · intro wx hx; obtain ⟨h0, h1⟩ := hx; simp only [execOp, l6_17_o23]; go_simp
  intro a24 fr24 t120 ho
  replace t0 := (ho 0 (by decide)).trans t0
  replace t1 := (ho 1 (by decide)).trans t1
  replace t2 := (ho 2 (by decide)).trans t2
  replace t3 := (ho 3 (by decide)).trans t3
  replace t4 := (ho 4 (by decide)).trans t4
  replace t5 := (ho 5 (by decide)).trans t5
  replace t6 := (ho 6 (by decide)).trans t6
  replace t15 := (ho 15 (by decide)).trans t15
  replace t16 := (ho 16 (by decide)).trans t16
  replace t97 := (ho 97 (by decide)).trans t97
  replace t101 := (ho 101 (by decide)).trans t101
  replace t105 := (ho 105 (by decide)).trans t105
  replace t114 := (ho 114 (by decide)).trans t114
  replace t115 := (ho 115 (by decide)).trans t115
  replace t118 := (ho 118 (by decide)).trans t118
  replace t119 := (ho 119 (by decide)).trans t119
  clear fr23 ho
  clear t119
  refine take1 24 121 _ (.int .i64 (m : Nat)) #[true, true, true, true, true, true, true, true, true, true, true, true, true, true, true, true, true, true, true, true, true, true, true, true, true, false, false, false] l6_17_i24 l6_17_d24 (by decide) l6_17_s l6_17_f24 l6_17_r24 l6_17_g24 rfl hS0 fr24 ?_ ?_
  · intro wx hx; obtain ⟨h0, h1⟩ := hx; simp only [execOp, l6_17_o24]; go_simp
  intro a25 fr25 t121 ho
  replace t0 := (ho 0 (by decide)).trans t0
  replace t1 := (ho 1 (by decide)).trans t1
  replace t2 := (ho 2 (by decide)).trans t2
  replace t3 := (ho 3 (by decide)).trans t3
  replace t4 := (ho 4 (by decide)).trans t4
  replace t5 := (ho 5 (by decide)).trans t5
  replace t6 := (ho 6 (by decide)).trans t6
  replace t15 := (ho 15 (by decide)).trans t15
  replace t16 := (ho 16 (by decide)).trans t16
  replace t97 := (ho 97 (by decide)).trans t97
  replace t101 := (ho 101 (by decide)).trans t101
  replace t105 := (ho 105 (by decide)).trans t105
  replace t114 := (ho 114 (by decide)).trans t114
  replace t115 := (ho 115 (by decide)).trans t115
  replace t118 := (ho 118 (by decide)).trans t118
  replace t120 := (ho 120 (by decide)).trans t120
  clear fr24 ho
  refine take1 25 122 _ (.int .i64 (hi : Nat)) #[true, true, true, true, true, true, true, true, true, true, true, true, true, true, true, true, true, true, true, true, true, true, true, true, true, true, false, false] l6_17_i25 l6_17_d25 (by decide) l6_17_s l6_17_f25 l6_17_r25 l6_17_g25 rfl hS0 fr25 ?_ ?_
  · intro wx hx; obtain ⟨h0, h1⟩ := hx; simp only [execOp, l6_17_o25]; go_simp
  intro a26 fr26 t122 ho
  replace t0 := (ho 0 (by decide)).trans t0
  replace t1 := (ho 1 (by decide)).trans t1
  replace t2 := (ho 2 (by decide)).trans t2
  replace t3 := (ho 3 (by decide)).trans t3
  replace t4 := (ho 4 (by decide)).trans t4
  replace t5 := (ho 5 (by decide)).trans t5
  replace t6 := (ho 6 (by decide)).trans t6
  replace t15 := (ho 15 (by decide)).trans t15
  replace t16 := (ho 16 (by decide)).trans t16
  replace t97 := (ho 97 (by decide)).trans t97
  replace t101 := (ho 101 (by decide)).trans t101
  replace t105 := (ho 105 (by decide)).trans t105
  replace t114 := (ho 114 (by decide)).trans t114
  replace t115 := (ho 115 (by decide)).trans t115
  replace t118 := (ho 118 (by decide)).trans t118
  replace t120 := (ho 120 (by decide)).trans t120
  replace t121 := (ho 121 (by decide)).trans t121
  clear fr25 ho
  clear t120 t121
  refine take1 26 123 _ (.slice (some ⟨ib, lo, none⟩) (hi - lo) (I - lo)) #[true, true, true, true, true, true, true, true, true, true, true, true, true, true, true, true, true, true, true, true, true, true, true, true, true, true, true, false] l6_17_i26 l6_17_d26 (by decide) l6_17_s l6_17_f26 l6_17_r26 l6_17_g26 rfl hS0 fr26 ?_ ?_
  · intro wx hx; obtain ⟨h0, h1⟩ := hx; simp only [execOp, l6_17_o26]; go_simp
  intro a27 fr27 t123 ho
  replace t0 := (ho 0 (by decide)).trans t0
  replace t1 := (ho 1 (by decide)).trans t1
  replace t2 := (ho 2 (by decide)).trans t2
  replace t3 := (ho 3 (by decide)).trans t3
  replace t4 := (ho 4 (by decide)).trans t4
  replace t5 := (ho 5 (by decide)).trans t5
  replace t6 := (ho 6 (by decide)).trans t6
  replace t15 := (ho 15 (by decide)).trans t15
  replace t16 := (ho 16 (by decide)).trans t16
  replace t97 := (ho 97 (by decide)).trans t97
  replace t101 := (ho 101 (by decide)).trans t101
  replace t105 := (ho 105 (by decide)).trans t105
  replace t114 := (ho 114 (by decide)).trans t114
  replace t115 := (ho 115 (by decide)).trans t115
  replace t118 := (ho 118 (by decide)).trans t118
  replace t122 := (ho 122 (by decide)).trans t122
  clear fr26 ho
  clear t115 t118 t122
  refine only1 27 l6_17_r27 (actC 27 124 _ (.tuple #[]) 27 #[.pointer (some ⟨b1, 0, none⟩), .int .u64 p, .int .i64 ck, .slice (some ⟨rb, lo, none⟩) (hi - lo) (I - lo), .slice (some ⟨ib, lo, none⟩) (hi - lo) (I - lo)] G #[true, true, true, true, true, true, true, true, true, true, true, true, true, true, true, true, true, true, true, true, true, true, true, true, true, true, true, true] l6_17_i27 l6_17_d27 (by decide) l6_17_g27 rfl fr27 ?_ hcall ?_)
  · simp only [execOp, l6_17_o27]; clear hcall; go_simp
  intro aE wE hG frE tE ho
  replace t0 := (ho 0 (by decide)).trans t0
  replace t1 := (ho 1 (by decide)).trans t1
  replace t2 := (ho 2 (by decide)).trans t2
  replace t3 := (ho 3 (by decide)).trans t3
  replace t4 := (ho 4 (by decide)).trans t4
  replace t5 := (ho 5 (by decide)).trans t5
  replace t6 := (ho 6 (by decide)).trans t6
  replace t15 := (ho 15 (by decide)).trans t15
  replace t16 := (ho 16 (by decide)).trans t16
  refine wpAnyH_done l6_17_e ?_ _
  exact ⟨hG, frE, (sl_at _ _).trans t0, (sl_at _ _).trans t1, (sl_at _ _).trans t2, (sl_at _ _).trans t3, (sl_at _ _).trans t4, (sl_at _ _).trans t5, (sl_at _ _).trans t6, (sl_at _ _).trans t15, (sl_at _ _).trans t16, trivial⟩

set_option maxRecDepth 10000 in
set_option maxHeartbeats 1000000 in
theorem l6_17z (kap st : Int) (K pb cb b1 k : Nat) (x5 x6 : Option Addr) (p ck : Int) (G : World → Prop) (a : Act) (w : World) (Q : Exit → Act → World → Prop) (hfr : Fr 202 a) (hs : Slots [(0, .int .i64 kap), (1, .int .u32 st), (2, .int .i64 0), (3, .slice (some ⟨pb, 0, none⟩) K K), (4, .slice (some ⟨cb, 0, none⟩) K K), (5, .slice x5 0 0), (6, .slice x6 0 0), (15, .pointer (some ⟨b1, 0, none⟩)), (16, .int .i64 (k : Nat))] a)
    (hw0 : IntKind.i64.wrap 0 = 0) (hk1 : IntKind.i64.wrap ((k : Int) + 1) = (k : Int) + 1) (lk : (k : Int) < K)
    (cp : w.cell? ⟨pb, k, none⟩ = some (.int .u64 p)) (cc : w.cell? ⟨cb, k, none⟩ = some (.int .i64 ck))
    (hcall : Calls Try.prog 27 #[.pointer (some ⟨b1, 0, none⟩), .int .u64 p, .int .i64 ck, .slice x5 0 0, .slice x6 0 0] w.drew fun e w' => e = .returned (.tuple #[]) ∧ (fun w' : World => w'.cell? ⟨pb, k, none⟩ = some (.int .u64 p) ∧ w'.cell? ⟨cb, k, none⟩ = some (.int .i64 ck)) w' ∧ G w')
    (hQ : ∀ a' w', G w' → Fr 202 a' → Slots [(0, .int .i64 kap), (1, .int .u32 st), (2, .int .i64 0), (3, .slice (some ⟨pb, 0, none⟩) K K), (4, .slice (some ⟨cb, 0, none⟩) K K), (5, .slice x5 0 0), (6, .slice x6 0 0), (15, .pointer (some ⟨b1, 0, none⟩)), (16, .int .i64 (k : Nat))] a' → Q .normal a' w') :
    Code.wp Try.prog (inC (hdC (tlC (inC (inC (tlC (nthC 10 (bodyC Try.f6)))))))) Q a w := by
  obtain ⟨t0, t1, t2, t3, t4, t5, t6, t15, t16, -⟩ := hs
  replace t0 : a.tmps[0]?.getD undef = .int .i64 kap := (sl_at a 0).symm.trans t0
  replace t1 : a.tmps[1]?.getD undef = .int .u32 st := (sl_at a 1).symm.trans t1
  replace t2 : a.tmps[2]?.getD undef = .int .i64 0 := (sl_at a 2).symm.trans t2
  replace t3 : a.tmps[3]?.getD undef = .slice (some ⟨pb, 0, none⟩) K K := (sl_at a 3).symm.trans t3
  replace t4 : a.tmps[4]?.getD undef = .slice (some ⟨cb, 0, none⟩) K K := (sl_at a 4).symm.trans t4
  replace t5 : a.tmps[5]?.getD undef = .slice x5 0 0 := (sl_at a 5).symm.trans t5
  replace t6 : a.tmps[6]?.getD undef = .slice x6 0 0 := (sl_at a 6).symm.trans t6
  replace t15 : a.tmps[15]?.getD undef = .pointer (some ⟨b1, 0, none⟩) := (sl_at a 15).symm.trans t15
  replace t16 : a.tmps[16]?.getD undef = .int .i64 (k : Nat) := (sl_at a 16).symm.trans t16
  have hS0 : (fun w' : World => w'.cell? ⟨pb, k, none⟩ = some (.int .u64 p) ∧ w'.cell? ⟨cb, k, none⟩ = some (.int .i64 ck)) w.drew := ⟨cp, cc⟩
  refine wp_navR (fun w' : World => w'.cell? ⟨pb, k, none⟩ = some (.int .u64 p) ∧ w'.cell? ⟨cb, k, none⟩ = some (.int .i64 ck)) (fun a' w' => G w' ∧ Fr 202 a' ∧ Slots [(0, .int .i64 kap), (1, .int .u32 st), (2, .int .i64 0), (3, .slice (some ⟨pb, 0, none⟩) K K), (4, .slice (some ⟨cb, 0, none⟩) K K), (5, .slice x5 0 0), (6, .slice x6 0 0), (15, .pointer (some ⟨b1, 0, none⟩)), (16, .int .i64 (k : Nat))] a') 28 #[false, false, false, false, false, false, false, false, false, false, false, false, false, false, false, false, false, false, false, false, false, false, false, false, false, false, false, false] (by kernel_rfl) (by kernel_rfl) (by kernel_rfl) rfl ?_ (fun a' w' ⟨h1, h2, h3⟩ => hQ a' w' h1 h2 h3)
  clear hQ
  refine take1 0 97 _ (.pointer (some ⟨b1, 0, none⟩)) #[true, false, false, false, false, false, false, false, false, false, false, false, false, false, false, false, false, false, false, false, false, false, false, false, false, false, false, false] l6_17_i0 l6_17_d0 (by decide) l6_17_s l6_17_f0 l6_17_r0 l6_17_g0 rfl hS0 hfr ?_ ?_
  · intro wx hx; obtain ⟨h0, h1⟩ := hx; simp only [execOp, l6_17_o0]; go_simp
  intro a1 fr1 t97 ho
  replace t0 := (ho 0 (by decide)).trans t0
  replace t1 := (ho 1 (by decide)).trans t1
  replace t2 := (ho 2 (by decide)).trans t2
  replace t3 := (ho 3 (by decide)).trans t3
  replace t4 := (ho 4 (by decide)).trans t4
  replace t5 := (ho 5 (by decide)).trans t5
  replace t6 := (ho 6 (by decide)).trans t6
  replace t15 := (ho 15 (by decide)).trans t15
  replace t16 := (ho 16 (by decide)).trans t16
  clear hfr ho
  refine take1 1 98 _ (.slice (some ⟨pb, 0, none⟩) K K) #[true, true, false, false, false, false, false, false, false, false, false, false, false, false, false, false, false, false, false, false, false, false, false, false, false, false, false, false] l6_17_i1 l6_17_d1 (by decide) l6_17_s l6_17_f1 l6_17_r1 l6_17_g1 rfl hS0 fr1 ?_ ?_
  · intro wx hx; obtain ⟨h0, h1⟩ := hx; simp only [execOp, l6_17_o1]; go_simp
  intro a2 fr2 t98 ho
  replace t0 := (ho 0 (by decide)).trans t0
  replace t1 := (ho 1 (by decide)).trans t1
  replace t2 := (ho 2 (by decide)).trans t2
  replace t3 := (ho 3 (by decide)).trans t3
  replace t4 := (ho 4 (by decide)).trans t4
  replace t5 := (ho 5 (by decide)).trans t5
  replace t6 := (ho 6 (by decide)).trans t6
  replace t15 := (ho 15 (by decide)).trans t15
  replace t16 := (ho 16 (by decide)).trans t16
  replace t97 := (ho 97 (by decide)).trans t97
  clear fr1 ho
  refine take1 2 99 _ (.int .i64 (k : Nat)) #[true, true, true, false, false, false, false, false, false, false, false, false, false, false, false, false, false, false, false, false, false, false, false, false, false, false, false, false] l6_17_i2 l6_17_d2 (by decide) l6_17_s l6_17_f2 l6_17_r2 l6_17_g2 rfl hS0 fr2 ?_ ?_
  · intro wx hx; obtain ⟨h0, h1⟩ := hx; simp only [execOp, l6_17_o2]; go_simp
  intro a3 fr3 t99 ho
  replace t0 := (ho 0 (by decide)).trans t0
  replace t1 := (ho 1 (by decide)).trans t1
  replace t2 := (ho 2 (by decide)).trans t2
  replace t3 := (ho 3 (by decide)).trans t3
  replace t4 := (ho 4 (by decide)).trans t4
  replace t5 := (ho 5 (by decide)).trans t5
  replace t6 := (ho 6 (by decide)).trans t6
  replace t15 := (ho 15 (by decide)).trans t15
  replace t16 := (ho 16 (by decide)).trans t16
  replace t97 := (ho 97 (by decide)).trans t97
  replace t98 := (ho 98 (by decide)).trans t98
  clear fr2 ho
  refine take1 3 100 _ (.pointer (some ⟨pb, k, none⟩)) #[true, true, true, true, false, false, false, false, false, false, false, false, false, false, false, false, false, false, false, false, false, false, false, false, false, false, false, false] l6_17_i3 l6_17_d3 (by decide) l6_17_s l6_17_f3 l6_17_r3 l6_17_g3 rfl hS0 fr3 ?_ ?_
  · intro wx hx; obtain ⟨h0, h1⟩ := hx; simp only [execOp, l6_17_o3]; go_simp
  intro a4 fr4 t100 ho
  replace t0 := (ho 0 (by decide)).trans t0
  replace t1 := (ho 1 (by decide)).trans t1
  replace t2 := (ho 2 (by decide)).trans t2
  replace t3 := (ho 3 (by decide)).trans t3
  replace t4 := (ho 4 (by decide)).trans t4
  replace t5 := (ho 5 (by decide)).trans t5
  replace t6 := (ho 6 (by decide)).trans t6
  replace t15 := (ho 15 (by decide)).trans t15
  replace t16 := (ho 16 (by decide)).trans t16
  replace t97 := (ho 97 (by decide)).trans t97
  replace t98 := (ho 98 (by decide)).trans t98
  replace t99 := (ho 99 (by decide)).trans t99
  clear fr3 ho
  clear t98 t99
  refine take1 4 101 _ (.int .u64 p) #[true, true, true, true, true, false, false, false, false, false, false, false, false, false, false, false, false, false, false, false, false, false, false, false, false, false, false, false] l6_17_i4 l6_17_d4 (by decide) l6_17_s l6_17_f4 l6_17_r4 l6_17_g4 rfl hS0 fr4 ?_ ?_
  · intro wx hx; obtain ⟨h0, h1⟩ := hx; simp only [execOp, l6_17_o4]; go_simp
  intro a5 fr5 t101 ho
  replace t0 := (ho 0 (by decide)).trans t0
  replace t1 := (ho 1 (by decide)).trans t1
  replace t2 := (ho 2 (by decide)).trans t2
  replace t3 := (ho 3 (by decide)).trans t3
  replace t4 := (ho 4 (by decide)).trans t4
  replace t5 := (ho 5 (by decide)).trans t5
  replace t6 := (ho 6 (by decide)).trans t6
  replace t15 := (ho 15 (by decide)).trans t15
  replace t16 := (ho 16 (by decide)).trans t16
  replace t97 := (ho 97 (by decide)).trans t97
  replace t100 := (ho 100 (by decide)).trans t100
  clear fr4 ho
  clear t100
  refine take1 5 102 _ (.slice (some ⟨cb, 0, none⟩) K K) #[true, true, true, true, true, true, false, false, false, false, false, false, false, false, false, false, false, false, false, false, false, false, false, false, false, false, false, false] l6_17_i5 l6_17_d5 (by decide) l6_17_s l6_17_f5 l6_17_r5 l6_17_g5 rfl hS0 fr5 ?_ ?_
  · intro wx hx; obtain ⟨h0, h1⟩ := hx; simp only [execOp, l6_17_o5]; go_simp
  intro a6 fr6 t102 ho
  replace t0 := (ho 0 (by decide)).trans t0
  replace t1 := (ho 1 (by decide)).trans t1
  replace t2 := (ho 2 (by decide)).trans t2
  replace t3 := (ho 3 (by decide)).trans t3
  replace t4 := (ho 4 (by decide)).trans t4
  replace t5 := (ho 5 (by decide)).trans t5
  replace t6 := (ho 6 (by decide)).trans t6
  replace t15 := (ho 15 (by decide)).trans t15
  replace t16 := (ho 16 (by decide)).trans t16
  replace t97 := (ho 97 (by decide)).trans t97
  replace t101 := (ho 101 (by decide)).trans t101
  clear fr5 ho
  refine take1 6 103 _ (.int .i64 (k : Nat)) #[true, true, true, true, true, true, true, false, false, false, false, false, false, false, false, false, false, false, false, false, false, false, false, false, false, false, false, false] l6_17_i6 l6_17_d6 (by decide) l6_17_s l6_17_f6 l6_17_r6 l6_17_g6 rfl hS0 fr6 ?_ ?_
  · intro wx hx; obtain ⟨h0, h1⟩ := hx; simp only [execOp, l6_17_o6]; go_simp
  intro a7 fr7 t103 ho
  replace t0 := (ho 0 (by decide)).trans t0
  replace t1 := (ho 1 (by decide)).trans t1
  replace t2 := (ho 2 (by decide)).trans t2
  replace t3 := (ho 3 (by decide)).trans t3
  replace t4 := (ho 4 (by decide)).trans t4
  replace t5 := (ho 5 (by decide)).trans t5
  replace t6 := (ho 6 (by decide)).trans t6
  replace t15 := (ho 15 (by decide)).trans t15
  replace t16 := (ho 16 (by decide)).trans t16
  replace t97 := (ho 97 (by decide)).trans t97
  replace t101 := (ho 101 (by decide)).trans t101
  replace t102 := (ho 102 (by decide)).trans t102
  clear fr6 ho
  refine take1 7 104 _ (.pointer (some ⟨cb, k, none⟩)) #[true, true, true, true, true, true, true, true, false, false, false, false, false, false, false, false, false, false, false, false, false, false, false, false, false, false, false, false] l6_17_i7 l6_17_d7 (by decide) l6_17_s l6_17_f7 l6_17_r7 l6_17_g7 rfl hS0 fr7 ?_ ?_
  · intro wx hx; obtain ⟨h0, h1⟩ := hx; simp only [execOp, l6_17_o7]; go_simp
  intro a8 fr8 t104 ho
  replace t0 := (ho 0 (by decide)).trans t0
  replace t1 := (ho 1 (by decide)).trans t1
  replace t2 := (ho 2 (by decide)).trans t2
  replace t3 := (ho 3 (by decide)).trans t3
  replace t4 := (ho 4 (by decide)).trans t4
  replace t5 := (ho 5 (by decide)).trans t5
  replace t6 := (ho 6 (by decide)).trans t6
  replace t15 := (ho 15 (by decide)).trans t15
  replace t16 := (ho 16 (by decide)).trans t16
  replace t97 := (ho 97 (by decide)).trans t97
  replace t101 := (ho 101 (by decide)).trans t101
  replace t102 := (ho 102 (by decide)).trans t102
  replace t103 := (ho 103 (by decide)).trans t103
  clear fr7 ho
  clear t102 t103
  refine take1 8 105 _ (.int .i64 ck) #[true, true, true, true, true, true, true, true, true, false, false, false, false, false, false, false, false, false, false, false, false, false, false, false, false, false, false, false] l6_17_i8 l6_17_d8 (by decide) l6_17_s l6_17_f8 l6_17_r8 l6_17_g8 rfl hS0 fr8 ?_ ?_
  · intro wx hx; obtain ⟨h0, h1⟩ := hx; simp only [execOp, l6_17_o8]; go_simp
  intro a9 fr9 t105 ho
  replace t0 := (ho 0 (by decide)).trans t0
  replace t1 := (ho 1 (by decide)).trans t1
  replace t2 := (ho 2 (by decide)).trans t2
  replace t3 := (ho 3 (by decide)).trans t3
  replace t4 := (ho 4 (by decide)).trans t4
  replace t5 := (ho 5 (by decide)).trans t5
  replace t6 := (ho 6 (by decide)).trans t6
  replace t15 := (ho 15 (by decide)).trans t15
  replace t16 := (ho 16 (by decide)).trans t16
  replace t97 := (ho 97 (by decide)).trans t97
  replace t101 := (ho 101 (by decide)).trans t101
  replace t104 := (ho 104 (by decide)).trans t104
  clear fr8 ho
  clear t104
  refine take1 9 106 _ (.slice x5 0 0) #[true, true, true, true, true, true, true, true, true, true, false, false, false, false, false, false, false, false, false, false, false, false, false, false, false, false, false, false] l6_17_i9 l6_17_d9 (by decide) l6_17_s l6_17_f9 l6_17_r9 l6_17_g9 rfl hS0 fr9 ?_ ?_
  · intro wx hx; obtain ⟨h0, h1⟩ := hx; simp only [execOp, l6_17_o9]; go_simp
  intro a10 fr10 t106 ho
  replace t0 := (ho 0 (by decide)).trans t0
  replace t1 := (ho 1 (by decide)).trans t1
  replace t2 := (ho 2 (by decide)).trans t2
  replace t3 := (ho 3 (by decide)).trans t3
  replace t4 := (ho 4 (by decide)).trans t4
  replace t5 := (ho 5 (by decide)).trans t5
  replace t6 := (ho 6 (by decide)).trans t6
  replace t15 := (ho 15 (by decide)).trans t15
  replace t16 := (ho 16 (by decide)).trans t16
  replace t97 := (ho 97 (by decide)).trans t97
  replace t101 := (ho 101 (by decide)).trans t101
  replace t105 := (ho 105 (by decide)).trans t105
  clear fr9 ho
  refine take1 10 107 _ (.int .i64 (k : Nat)) #[true, true, true, true, true, true, true, true, true, true, true, false, false, false, false, false, false, false, false, false, false, false, false, false, false, false, false, false] l6_17_i10 l6_17_d10 (by decide) l6_17_s l6_17_f10 l6_17_r10 l6_17_g10 rfl hS0 fr10 ?_ ?_
  · intro wx hx; obtain ⟨h0, h1⟩ := hx; simp only [execOp, l6_17_o10]; go_simp
  intro a11 fr11 t107 ho
  replace t0 := (ho 0 (by decide)).trans t0
  replace t1 := (ho 1 (by decide)).trans t1
  replace t2 := (ho 2 (by decide)).trans t2
  replace t3 := (ho 3 (by decide)).trans t3
  replace t4 := (ho 4 (by decide)).trans t4
  replace t5 := (ho 5 (by decide)).trans t5
  replace t6 := (ho 6 (by decide)).trans t6
  replace t15 := (ho 15 (by decide)).trans t15
  replace t16 := (ho 16 (by decide)).trans t16
  replace t97 := (ho 97 (by decide)).trans t97
  replace t101 := (ho 101 (by decide)).trans t101
  replace t105 := (ho 105 (by decide)).trans t105
  replace t106 := (ho 106 (by decide)).trans t106
  clear fr10 ho
  refine take1 11 108 _ (.int .i64 0) #[true, true, true, true, true, true, true, true, true, true, true, true, false, false, false, false, false, false, false, false, false, false, false, false, false, false, false, false] l6_17_i11 l6_17_d11 (by decide) l6_17_s l6_17_f11 l6_17_r11 l6_17_g11 rfl hS0 fr11 ?_ ?_
  · intro wx hx; obtain ⟨h0, h1⟩ := hx; simp only [execOp, l6_17_o11]; go_simp
  intro a12 fr12 t108 ho
  replace t0 := (ho 0 (by decide)).trans t0
  replace t1 := (ho 1 (by decide)).trans t1
  replace t2 := (ho 2 (by decide)).trans t2
  replace t3 := (ho 3 (by decide)).trans t3
  replace t4 := (ho 4 (by decide)).trans t4
  replace t5 := (ho 5 (by decide)).trans t5
  replace t6 := (ho 6 (by decide)).trans t6
  replace t15 := (ho 15 (by decide)).trans t15
  replace t16 := (ho 16 (by decide)).trans t16
  replace t97 := (ho 97 (by decide)).trans t97
  replace t101 := (ho 101 (by decide)).trans t101
  replace t105 := (ho 105 (by decide)).trans t105
  replace t106 := (ho 106 (by decide)).trans t106
  replace t107 := (ho 107 (by decide)).trans t107
  clear fr11 ho
  refine take1 12 109 _ (.int .i64 0) #[true, true, true, true, true, true, true, true, true, true, true, true, true, false, false, false, false, false, false, false, false, false, false, false, false, false, false, false] l6_17_i12 l6_17_d12 (by decide) l6_17_s l6_17_f12 l6_17_r12 l6_17_g12 rfl hS0 fr12 ?_ ?_
  · intro wx hx; obtain ⟨h0, h1⟩ := hx; simp only [execOp, l6_17_o12]; go_simp
  intro a13 fr13 t109 ho
  replace t0 := (ho 0 (by decide)).trans t0
  replace t1 := (ho 1 (by decide)).trans t1
  replace t2 := (ho 2 (by decide)).trans t2
  replace t3 := (ho 3 (by decide)).trans t3
  replace t4 := (ho 4 (by decide)).trans t4
  replace t5 := (ho 5 (by decide)).trans t5
  replace t6 := (ho 6 (by decide)).trans t6
  replace t15 := (ho 15 (by decide)).trans t15
  replace t16 := (ho 16 (by decide)).trans t16
  replace t97 := (ho 97 (by decide)).trans t97
  replace t101 := (ho 101 (by decide)).trans t101
  replace t105 := (ho 105 (by decide)).trans t105
  replace t106 := (ho 106 (by decide)).trans t106
  replace t107 := (ho 107 (by decide)).trans t107
  replace t108 := (ho 108 (by decide)).trans t108
  clear fr12 ho
  clear t107 t108
  refine take1 13 110 _ (.int .i64 (k : Nat)) #[true, true, true, true, true, true, true, true, true, true, true, true, true, true, false, false, false, false, false, false, false, false, false, false, false, false, false, false] l6_17_i13 l6_17_d13 (by decide) l6_17_s l6_17_f13 l6_17_r13 l6_17_g13 rfl hS0 fr13 ?_ ?_
  · intro wx hx; obtain ⟨h0, h1⟩ := hx; simp only [execOp, l6_17_o13]; go_simp
  intro a14 fr14 t110 ho
  replace t0 := (ho 0 (by decide)).trans t0
  replace t1 := (ho 1 (by decide)).trans t1
  replace t2 := (ho 2 (by decide)).trans t2
  replace t3 := (ho 3 (by decide)).trans t3
  replace t4 := (ho 4 (by decide)).trans t4
  replace t5 := (ho 5 (by decide)).trans t5
  replace t6 := (ho 6 (by decide)).trans t6
  replace t15 := (ho 15 (by decide)).trans t15
  replace t16 := (ho 16 (by decide)).trans t16
  replace t97 := (ho 97 (by decide)).trans t97
  replace t101 := (ho 101 (by decide)).trans t101
  replace t105 := (ho 105 (by decide)).trans t105
  replace t106 := (ho 106 (by decide)).trans t106
  replace t109 := (ho 109 (by decide)).trans t109
  clear fr13 ho
  refine take1 14 111 _ (.int .i64 ((k : Nat) + 1)) #[true, true, true, true, true, true, true, true, true, true, true, true, true, true, true, false, false, false, false, false, false, false, false, false, false, false, false, false] l6_17_i14 l6_17_d14 (by decide) l6_17_s l6_17_f14 l6_17_r14 l6_17_g14 rfl hS0 fr14 ?_ ?_
  · intro wx hx; obtain ⟨h0, h1⟩ := hx; simp only [execOp, l6_17_o14]; go_simp
  intro a15 fr15 t111 ho
  replace t0 := (ho 0 (by decide)).trans t0
  replace t1 := (ho 1 (by decide)).trans t1
  replace t2 := (ho 2 (by decide)).trans t2
  replace t3 := (ho 3 (by decide)).trans t3
  replace t4 := (ho 4 (by decide)).trans t4
  replace t5 := (ho 5 (by decide)).trans t5
  replace t6 := (ho 6 (by decide)).trans t6
  replace t15 := (ho 15 (by decide)).trans t15
  replace t16 := (ho 16 (by decide)).trans t16
  replace t97 := (ho 97 (by decide)).trans t97
  replace t101 := (ho 101 (by decide)).trans t101
  replace t105 := (ho 105 (by decide)).trans t105
  replace t106 := (ho 106 (by decide)).trans t106
  replace t109 := (ho 109 (by decide)).trans t109
  replace t110 := (ho 110 (by decide)).trans t110
  clear fr14 ho
  clear t110
  refine take1 15 112 _ (.int .i64 0) #[true, true, true, true, true, true, true, true, true, true, true, true, true, true, true, true, false, false, false, false, false, false, false, false, false, false, false, false] l6_17_i15 l6_17_d15 (by decide) l6_17_s l6_17_f15 l6_17_r15 l6_17_g15 rfl hS0 fr15 ?_ ?_
  · intro wx hx; obtain ⟨h0, h1⟩ := hx; simp only [execOp, l6_17_o15]; go_simp
  intro a16 fr16 t112 ho
  replace t0 := (ho 0 (by decide)).trans t0
  replace t1 := (ho 1 (by decide)).trans t1
  replace t2 := (ho 2 (by decide)).trans t2
  replace t3 := (ho 3 (by decide)).trans t3
  replace t4 := (ho 4 (by decide)).trans t4
  replace t5 := (ho 5 (by decide)).trans t5
  replace t6 := (ho 6 (by decide)).trans t6
  replace t15 := (ho 15 (by decide)).trans t15
  replace t16 := (ho 16 (by decide)).trans t16
  replace t97 := (ho 97 (by decide)).trans t97
  replace t101 := (ho 101 (by decide)).trans t101
  replace t105 := (ho 105 (by decide)).trans t105
  replace t106 := (ho 106 (by decide)).trans t106
  replace t109 := (ho 109 (by decide)).trans t109
  replace t111 := (ho 111 (by decide)).trans t111
  clear fr15 ho
  refine take1 16 113 _ (.int .i64 0) #[true, true, true, true, true, true, true, true, true, true, true, true, true, true, true, true, true, false, false, false, false, false, false, false, false, false, false, false] l6_17_i16 l6_17_d16 (by decide) l6_17_s l6_17_f16 l6_17_r16 l6_17_g16 rfl hS0 fr16 ?_ ?_
  · intro wx hx; obtain ⟨h0, h1⟩ := hx; simp only [execOp, l6_17_o16]; go_simp
  intro a17 fr17 t113 ho
  replace t0 := (ho 0 (by decide)).trans t0
  replace t1 := (ho 1 (by decide)).trans t1
  replace t2 := (ho 2 (by decide)).trans t2
  replace t3 := (ho 3 (by decide)).trans t3
  replace t4 := (ho 4 (by decide)).trans t4
  replace t5 := (ho 5 (by decide)).trans t5
  replace t6 := (ho 6 (by decide)).trans t6
  replace t15 := (ho 15 (by decide)).trans t15
  replace t16 := (ho 16 (by decide)).trans t16
  replace t97 := (ho 97 (by decide)).trans t97
  replace t101 := (ho 101 (by decide)).trans t101
  replace t105 := (ho 105 (by decide)).trans t105
  replace t106 := (ho 106 (by decide)).trans t106
  replace t109 := (ho 109 (by decide)).trans t109
  replace t111 := (ho 111 (by decide)).trans t111
  replace t112 := (ho 112 (by decide)).trans t112
  clear fr16 ho
  clear t111 t112
  refine take1 17 114 _ (.slice x5 0 0) #[true, true, true, true, true, true, true, true, true, true, true, true, true, true, true, true, true, true, false, false, false, false, false, false, false, false, false, false] l6_17_i17 l6_17_d17 (by decide) l6_17_s l6_17_f17 l6_17_r17 l6_17_g17 rfl hS0 fr17 ?_ ?_
  · intro wx hx; obtain ⟨h0, h1⟩ := hx; simp only [execOp, l6_17_o17]; go_simp
  intro a18 fr18 t114 ho
  replace t0 := (ho 0 (by decide)).trans t0
  replace t1 := (ho 1 (by decide)).trans t1
  replace t2 := (ho 2 (by decide)).trans t2
  replace t3 := (ho 3 (by decide)).trans t3
  replace t4 := (ho 4 (by decide)).trans t4
  replace t5 := (ho 5 (by decide)).trans t5
  replace t6 := (ho 6 (by decide)).trans t6
  replace t15 := (ho 15 (by decide)).trans t15
  replace t16 := (ho 16 (by decide)).trans t16
  replace t97 := (ho 97 (by decide)).trans t97
  replace t101 := (ho 101 (by decide)).trans t101
  replace t105 := (ho 105 (by decide)).trans t105
  replace t106 := (ho 106 (by decide)).trans t106
  replace t109 := (ho 109 (by decide)).trans t109
  replace t113 := (ho 113 (by decide)).trans t113
  clear fr17 ho
  clear t106 t109 t113
  refine take1 18 115 _ (.slice x6 0 0) #[true, true, true, true, true, true, true, true, true, true, true, true, true, true, true, true, true, true, true, false, false, false, false, false, false, false, false, false] l6_17_i18 l6_17_d18 (by decide) l6_17_s l6_17_f18 l6_17_r18 l6_17_g18 rfl hS0 fr18 ?_ ?_
  · intro wx hx; obtain ⟨h0, h1⟩ := hx; simp only [execOp, l6_17_o18]; go_simp
  intro a19 fr19 t115 ho
  replace t0 := (ho 0 (by decide)).trans t0
  replace t1 := (ho 1 (by decide)).trans t1
  replace t2 := (ho 2 (by decide)).trans t2
  replace t3 := (ho 3 (by decide)).trans t3
  replace t4 := (ho 4 (by decide)).trans t4
  replace t5 := (ho 5 (by decide)).trans t5
  replace t6 := (ho 6 (by decide)).trans t6
  replace t15 := (ho 15 (by decide)).trans t15
  replace t16 := (ho 16 (by decide)).trans t16
  replace t97 := (ho 97 (by decide)).trans t97
  replace t101 := (ho 101 (by decide)).trans t101
  replace t105 := (ho 105 (by decide)).trans t105
  replace t114 := (ho 114 (by decide)).trans t114
  clear fr18 ho
  refine take1 19 116 _ (.int .i64 (k : Nat)) #[true, true, true, true, true, true, true, true, true, true, true, true, true, true, true, true, true, true, true, true, false, false, false, false, false, false, false, false] l6_17_i19 l6_17_d19 (by decide) l6_17_s l6_17_f19 l6_17_r19 l6_17_g19 rfl hS0 fr19 ?_ ?_
  · intro wx hx; obtain ⟨h0, h1⟩ := hx; simp only [execOp, l6_17_o19]; go_simp
  intro a20 fr20 t116 ho
  replace t0 := (ho 0 (by decide)).trans t0
  replace t1 := (ho 1 (by decide)).trans t1
  replace t2 := (ho 2 (by decide)).trans t2
  replace t3 := (ho 3 (by decide)).trans t3
  replace t4 := (ho 4 (by decide)).trans t4
  replace t5 := (ho 5 (by decide)).trans t5
  replace t6 := (ho 6 (by decide)).trans t6
  replace t15 := (ho 15 (by decide)).trans t15
  replace t16 := (ho 16 (by decide)).trans t16
  replace t97 := (ho 97 (by decide)).trans t97
  replace t101 := (ho 101 (by decide)).trans t101
  replace t105 := (ho 105 (by decide)).trans t105
  replace t114 := (ho 114 (by decide)).trans t114
  replace t115 := (ho 115 (by decide)).trans t115
  clear fr19 ho
  refine take1 20 117 _ (.int .i64 0) #[true, true, true, true, true, true, true, true, true, true, true, true, true, true, true, true, true, true, true, true, true, false, false, false, false, false, false, false] l6_17_i20 l6_17_d20 (by decide) l6_17_s l6_17_f20 l6_17_r20 l6_17_g20 rfl hS0 fr20 ?_ ?_
  · intro wx hx; obtain ⟨h0, h1⟩ := hx; simp only [execOp, l6_17_o20]; go_simp
  intro a21 fr21 t117 ho
  replace t0 := (ho 0 (by decide)).trans t0
  replace t1 := (ho 1 (by decide)).trans t1
  replace t2 := (ho 2 (by decide)).trans t2
  replace t3 := (ho 3 (by decide)).trans t3
  replace t4 := (ho 4 (by decide)).trans t4
  replace t5 := (ho 5 (by decide)).trans t5
  replace t6 := (ho 6 (by decide)).trans t6
  replace t15 := (ho 15 (by decide)).trans t15
  replace t16 := (ho 16 (by decide)).trans t16
  replace t97 := (ho 97 (by decide)).trans t97
  replace t101 := (ho 101 (by decide)).trans t101
  replace t105 := (ho 105 (by decide)).trans t105
  replace t114 := (ho 114 (by decide)).trans t114
  replace t115 := (ho 115 (by decide)).trans t115
  replace t116 := (ho 116 (by decide)).trans t116
  clear fr20 ho
  refine take1 21 118 _ (.int .i64 0) #[true, true, true, true, true, true, true, true, true, true, true, true, true, true, true, true, true, true, true, true, true, true, false, false, false, false, false, false] l6_17_i21 l6_17_d21 (by decide) l6_17_s l6_17_f21 l6_17_r21 l6_17_g21 rfl hS0 fr21 ?_ ?_
  · intro wx hx; obtain ⟨h0, h1⟩ := hx; simp only [execOp, l6_17_o21]; go_simp
  intro a22 fr22 t118 ho
  replace t0 := (ho 0 (by decide)).trans t0
  replace t1 := (ho 1 (by decide)).trans t1
  replace t2 := (ho 2 (by decide)).trans t2
  replace t3 := (ho 3 (by decide)).trans t3
  replace t4 := (ho 4 (by decide)).trans t4
  replace t5 := (ho 5 (by decide)).trans t5
  replace t6 := (ho 6 (by decide)).trans t6
  replace t15 := (ho 15 (by decide)).trans t15
  replace t16 := (ho 16 (by decide)).trans t16
  replace t97 := (ho 97 (by decide)).trans t97
  replace t101 := (ho 101 (by decide)).trans t101
  replace t105 := (ho 105 (by decide)).trans t105
  replace t114 := (ho 114 (by decide)).trans t114
  replace t115 := (ho 115 (by decide)).trans t115
  replace t116 := (ho 116 (by decide)).trans t116
  replace t117 := (ho 117 (by decide)).trans t117
  clear fr21 ho
  clear t116 t117
  refine take1 22 119 _ (.int .i64 (k : Nat)) #[true, true, true, true, true, true, true, true, true, true, true, true, true, true, true, true, true, true, true, true, true, true, true, false, false, false, false, false] l6_17_i22 l6_17_d22 (by decide) l6_17_s l6_17_f22 l6_17_r22 l6_17_g22 rfl hS0 fr22 ?_ ?_
  · intro wx hx; obtain ⟨h0, h1⟩ := hx; simp only [execOp, l6_17_o22]; go_simp
  intro a23 fr23 t119 ho
  replace t0 := (ho 0 (by decide)).trans t0
  replace t1 := (ho 1 (by decide)).trans t1
  replace t2 := (ho 2 (by decide)).trans t2
  replace t3 := (ho 3 (by decide)).trans t3
  replace t4 := (ho 4 (by decide)).trans t4
  replace t5 := (ho 5 (by decide)).trans t5
  replace t6 := (ho 6 (by decide)).trans t6
  replace t15 := (ho 15 (by decide)).trans t15
  replace t16 := (ho 16 (by decide)).trans t16
  replace t97 := (ho 97 (by decide)).trans t97
  replace t101 := (ho 101 (by decide)).trans t101
  replace t105 := (ho 105 (by decide)).trans t105
  replace t114 := (ho 114 (by decide)).trans t114
  replace t115 := (ho 115 (by decide)).trans t115
  replace t118 := (ho 118 (by decide)).trans t118
  clear fr22 ho
  refine take1 23 120 _ (.int .i64 ((k : Nat) + 1)) #[true, true, true, true, true, true, true, true, true, true, true, true, true, true, true, true, true, true, true, true, true, true, true, true, false, false, false, false] l6_17_i23 l6_17_d23 (by decide) l6_17_s l6_17_f23 l6_17_r23 l6_17_g23 rfl hS0 fr23 ?_ ?_
  · intro wx hx; obtain ⟨h0, h1⟩ := hx; simp only [execOp, l6_17_o23]; go_simp
  intro a24 fr24 t120 ho
  replace t0 := (ho 0 (by decide)).trans t0
  replace t1 := (ho 1 (by decide)).trans t1
  replace t2 := (ho 2 (by decide)).trans t2
  replace t3 := (ho 3 (by decide)).trans t3
  replace t4 := (ho 4 (by decide)).trans t4
  replace t5 := (ho 5 (by decide)).trans t5
  replace t6 := (ho 6 (by decide)).trans t6
  replace t15 := (ho 15 (by decide)).trans t15
  replace t16 := (ho 16 (by decide)).trans t16
  replace t97 := (ho 97 (by decide)).trans t97
  replace t101 := (ho 101 (by decide)).trans t101
  replace t105 := (ho 105 (by decide)).trans t105
  replace t114 := (ho 114 (by decide)).trans t114
  replace t115 := (ho 115 (by decide)).trans t115
  replace t118 := (ho 118 (by decide)).trans t118
  replace t119 := (ho 119 (by decide)).trans t119
  clear fr23 ho
  clear t119
  refine take1 24 121 _ (.int .i64 0) #[true, true, true, true, true, true, true, true, true, true, true, true, true, true, true, true, true, true, true, true, true, true, true, true, true, false, false, false] l6_17_i24 l6_17_d24 (by decide) l6_17_s l6_17_f24 l6_17_r24 l6_17_g24 rfl hS0 fr24 ?_ ?_
  · intro wx hx; obtain ⟨h0, h1⟩ := hx; simp only [execOp, l6_17_o24]; go_simp
  intro a25 fr25 t121 ho
  replace t0 := (ho 0 (by decide)).trans t0
  replace t1 := (ho 1 (by decide)).trans t1
  replace t2 := (ho 2 (by decide)).trans t2
  replace t3 := (ho 3 (by decide)).trans t3
  replace t4 := (ho 4 (by decide)).trans t4
  replace t5 := (ho 5 (by decide)).trans t5
  replace t6 := (ho 6 (by decide)).trans t6
  replace t15 := (ho 15 (by decide)).trans t15
  replace t16 := (ho 16 (by decide)).trans t16
  replace t97 := (ho 97 (by decide)).trans t97
  replace t101 := (ho 101 (by decide)).trans t101
  replace t105 := (ho 105 (by decide)).trans t105
  replace t114 := (ho 114 (by decide)).trans t114
  replace t115 := (ho 115 (by decide)).trans t115
  replace t118 := (ho 118 (by decide)).trans t118
  replace t120 := (ho 120 (by decide)).trans t120
  clear fr24 ho
  refine take1 25 122 _ (.int .i64 0) #[true, true, true, true, true, true, true, true, true, true, true, true, true, true, true, true, true, true, true, true, true, true, true, true, true, true, false, false] l6_17_i25 l6_17_d25 (by decide) l6_17_s l6_17_f25 l6_17_r25 l6_17_g25 rfl hS0 fr25 ?_ ?_
  · intro wx hx; obtain ⟨h0, h1⟩ := hx; simp only [execOp, l6_17_o25]; go_simp
  intro a26 fr26 t122 ho
  replace t0 := (ho 0 (by decide)).trans t0
  replace t1 := (ho 1 (by decide)).trans t1
  replace t2 := (ho 2 (by decide)).trans t2
  replace t3 := (ho 3 (by decide)).trans t3
  replace t4 := (ho 4 (by decide)).trans t4
  replace t5 := (ho 5 (by decide)).trans t5
  replace t6 := (ho 6 (by decide)).trans t6
  replace t15 := (ho 15 (by decide)).trans t15
  replace t16 := (ho 16 (by decide)).trans t16
  replace t97 := (ho 97 (by decide)).trans t97
  replace t101 := (ho 101 (by decide)).trans t101
  replace t105 := (ho 105 (by decide)).trans t105
  replace t114 := (ho 114 (by decide)).trans t114
  replace t115 := (ho 115 (by decide)).trans t115
  replace t118 := (ho 118 (by decide)).trans t118
  replace t120 := (ho 120 (by decide)).trans t120
  replace t121 := (ho 121 (by decide)).trans t121
  clear fr25 ho
  clear t120 t121
  refine take1 26 123 _ (.slice x6 0 0) #[true, true, true, true, true, true, true, true, true, true, true, true, true, true, true, true, true, true, true, true, true, true, true, true, true, true, true, false] l6_17_i26 l6_17_d26 (by decide) l6_17_s l6_17_f26 l6_17_r26 l6_17_g26 rfl hS0 fr26 ?_ ?_
  · intro wx hx; obtain ⟨h0, h1⟩ := hx; simp only [execOp, l6_17_o26]; go_simp
  intro a27 fr27 t123 ho
  replace t0 := (ho 0 (by decide)).trans t0
  replace t1 := (ho 1 (by decide)).trans t1
  replace t2 := (ho 2 (by decide)).trans t2
  replace t3 := (ho 3 (by decide)).trans t3
  replace t4 := (ho 4 (by decide)).trans t4
  replace t5 := (ho 5 (by decide)).trans t5
  replace t6 := (ho 6 (by decide)).trans t6
  replace t15 := (ho 15 (by decide)).trans t15
  replace t16 := (ho 16 (by decide)).trans t16
  replace t97 := (ho 97 (by decide)).trans t97
  replace t101 := (ho 101 (by decide)).trans t101
  replace t105 := (ho 105 (by decide)).trans t105
  replace t114 := (ho 114 (by decide)).trans t114
  replace t115 := (ho 115 (by decide)).trans t115
  replace t118 := (ho 118 (by decide)).trans t118
  replace t122 := (ho 122 (by decide)).trans t122
  clear fr26 ho
  clear t115 t118 t122
  refine only1 27 l6_17_r27 (actC 27 124 _ (.tuple #[]) 27 #[.pointer (some ⟨b1, 0, none⟩), .int .u64 p, .int .i64 ck, .slice x5 0 0, .slice x6 0 0] G #[true, true, true, true, true, true, true, true, true, true, true, true, true, true, true, true, true, true, true, true, true, true, true, true, true, true, true, true] l6_17_i27 l6_17_d27 (by decide) l6_17_g27 rfl fr27 ?_ hcall ?_)
  · simp only [execOp, l6_17_o27]; clear hcall; go_simp
  intro aE wE hG frE tE ho
  replace t0 := (ho 0 (by decide)).trans t0
  replace t1 := (ho 1 (by decide)).trans t1
  replace t2 := (ho 2 (by decide)).trans t2
  replace t3 := (ho 3 (by decide)).trans t3
  replace t4 := (ho 4 (by decide)).trans t4
  replace t5 := (ho 5 (by decide)).trans t5
  replace t6 := (ho 6 (by decide)).trans t6
  replace t15 := (ho 15 (by decide)).trans t15
  replace t16 := (ho 16 (by decide)).trans t16
  refine wpAnyH_done l6_17_e ?_ _
  exact ⟨hG, frE, (sl_at _ _).trans t0, (sl_at _ _).trans t1, (sl_at _ _).trans t2, (sl_at _ _).trans t3, (sl_at _ _).trans t4, (sl_at _ _).trans t5, (sl_at _ _).trans t6, (sl_at _ _).trans t15, (sl_at _ _).trans t16, trivial⟩

end Go.Proofs.Qxb6602526a
