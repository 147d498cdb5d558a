import Derived.Test.Qxb6602526aC6
import Derived.Test.Qxb6602526aReg
namespace Go.Proofs.Qxb6602526a
open Go.RowKit
set_option linter.unusedSimpArgs false
set_option linter.unusedVariables false

section
variable {P : Program} {ops : Array Oper} {S : World → Prop} {R : Act → World → Prop} {md : Region.Mode} {n fuel : Nat} {listed : Array Bool} {a : Act} {w : World}
/-- Operation i, a call, comes up. -/
theorem actC (i d : Nat) (oi : Oper) (v : Value) (f : FuncId) (args : Array Value) (G : World → Prop) (listed' : Array Bool)
    (hi : ops[i]? = some oi) (hdst : oi.dst = some d) (hd : d < n) (hw : oi.guard = none) (hl : listed.setIfInBounds i true = listed') (hfr : Fr n a) (hy : (execOp a.eval oi).run P w = .ok (.enter f args) w)
    (hc : Calls P f args w fun e w' => e = .returned v ∧ S w' ∧ G w')
    (h : ∀ a' w', G w' → Fr n a' → a'.tmps[d]?.getD undef = v → (∀ j, j ≠ d → a'.tmps[j]?.getD undef = a.tmps[j]?.getD undef) → wpAnyH P md ops (NP R) S fuel listed' a' w') :
    wpOp P ops (NP R) i (fun a' w' => S w' ∧ wpAnyH P md ops (NP R) S fuel (listed.setIfInBounds i true) a' w') a w := by
  unfold wpOp
  simp only [hi]
  have hw' : Region.wanted oi (yielded ops a.tmps) = true := by simp [Region.wanted, hw]
  simp only [hw', if_true, Oper.wp, hy, Oper.upon_enter, hdst, hl]
  refine .inl (hc.mono ?_)
  rintro e w' ⟨rfl, hS, hG⟩
  exact ⟨hS, h _ _ hG (hfr.put d v) (at_put_same hfr d v hd) (fun j hj => at_put_ne d j v hj)⟩
end

theorem l5_20_s : Region.noSelect (regOps (hdC (inC (hdC (tlC (inC (inC (tlC (nthC 12 (bodyC Try.f5)))))))))) = true := by kernel_rfl
theorem l5_20_i0 : (regOps (hdC (inC (hdC (tlC (inC (inC (tlC (nthC 12 (bodyC Try.f5))))))))))[0]? = some (regOp (hdC (inC (hdC (tlC (inC (inC (tlC (nthC 12 (bodyC Try.f5))))))))) 0) := by kernel_rfl
theorem l5_20_d0 : (regOp (hdC (inC (hdC (tlC (inC (inC (tlC (nthC 12 (bodyC Try.f5))))))))) 0).dst = some 95 := by kernel_rfl
theorem l5_20_g0 : (regOp (hdC (inC (hdC (tlC (inC (inC (tlC (nthC 12 (bodyC Try.f5))))))))) 0).guard = none := by kernel_rfl
theorem l5_20_o0 : (regOp (hdC (inC (hdC (tlC (inC (inC (tlC (nthC 12 (bodyC Try.f5))))))))) 0).op = Op.move (.tmp 15) := by kernel_rfl
theorem l5_20_i1 : (regOps (hdC (inC (hdC (tlC (inC (inC (tlC (nthC 12 (bodyC Try.f5))))))))))[1]? = some (regOp (hdC (inC (hdC (tlC (inC (inC (tlC (nthC 12 (bodyC Try.f5))))))))) 1) := by kernel_rfl
theorem l5_20_d1 : (regOp (hdC (inC (hdC (tlC (inC (inC (tlC (nthC 12 (bodyC Try.f5))))))))) 1).dst = some 96 := by kernel_rfl
theorem l5_20_g1 : (regOp (hdC (inC (hdC (tlC (inC (inC (tlC (nthC 12 (bodyC Try.f5))))))))) 1).guard = none := by kernel_rfl
theorem l5_20_o1 : (regOp (hdC (inC (hdC (tlC (inC (inC (tlC (nthC 12 (bodyC Try.f5))))))))) 1).op = Op.move (.tmp 3) := by kernel_rfl
theorem l5_20_i2 : (regOps (hdC (inC (hdC (tlC (inC (inC (tlC (nthC 12 (bodyC Try.f5))))))))))[2]? = some (regOp (hdC (inC (hdC (tlC (inC (inC (tlC (nthC 12 (bodyC Try.f5))))))))) 2) := by kernel_rfl
theorem l5_20_d2 : (regOp (hdC (inC (hdC (tlC (inC (inC (tlC (nthC 12 (bodyC Try.f5))))))))) 2).dst = some 97 := by kernel_rfl
theorem l5_20_g2 : (regOp (hdC (inC (hdC (tlC (inC (inC (tlC (nthC 12 (bodyC Try.f5))))))))) 2).guard = none := by kernel_rfl
theorem l5_20_o2 : (regOp (hdC (inC (hdC (tlC (inC (inC (tlC (nthC 12 (bodyC Try.f5))))))))) 2).op = Op.move (.tmp 17) := by kernel_rfl
theorem l5_20_i3 : (regOps (hdC (inC (hdC (tlC (inC (inC (tlC (nthC 12 (bodyC Try.f5))))))))))[3]? = some (regOp (hdC (inC (hdC (tlC (inC (inC (tlC (nthC 12 (bodyC Try.f5))))))))) 3) := by kernel_rfl
theorem l5_20_d3 : (regOp (hdC (inC (hdC (tlC (inC (inC (tlC (nthC 12 (bodyC Try.f5))))))))) 3).dst = some 98 := by kernel_rfl
theorem l5_20_g3 : (regOp (hdC (inC (hdC (tlC (inC (inC (tlC (nthC 12 (bodyC Try.f5))))))))) 3).guard = none := by kernel_rfl
theorem l5_20_o3 : (regOp (hdC (inC (hdC (tlC (inC (inC (tlC (nthC 12 (bodyC Try.f5))))))))) 3).op = Op.indexAddr 23 (.tmp 96) (.tmp 97) := by kernel_rfl
theorem l5_20_i4 : (regOps (hdC (inC (hdC (tlC (inC (inC (tlC (nthC 12 (bodyC Try.f5))))))))))[4]? = some (regOp (hdC (inC (hdC (tlC (inC (inC (tlC (nthC 12 (bodyC Try.f5))))))))) 4) := by kernel_rfl
theorem l5_20_d4 : (regOp (hdC (inC (hdC (tlC (inC (inC (tlC (nthC 12 (bodyC Try.f5))))))))) 4).dst = some 99 := by kernel_rfl
theorem l5_20_g4 : (regOp (hdC (inC (hdC (tlC (inC (inC (tlC (nthC 12 (bodyC Try.f5))))))))) 4).guard = none := by kernel_rfl
theorem l5_20_o4 : (regOp (hdC (inC (hdC (tlC (inC (inC (tlC (nthC 12 (bodyC Try.f5))))))))) 4).op = Op.load 31 (.tmp 98) := by kernel_rfl
theorem l5_20_i5 : (regOps (hdC (inC (hdC (tlC (inC (inC (tlC (nthC 12 (bodyC Try.f5))))))))))[5]? = some (regOp (hdC (inC (hdC (tlC (inC (inC (tlC (nthC 12 (bodyC Try.f5))))))))) 5) := by kernel_rfl
theorem l5_20_d5 : (regOp (hdC (inC (hdC (tlC (inC (inC (tlC (nthC 12 (bodyC Try.f5))))))))) 5).dst = some 100 := by kernel_rfl
theorem l5_20_g5 : (regOp (hdC (inC (hdC (tlC (inC (inC (tlC (nthC 12 (bodyC Try.f5))))))))) 5).guard = none := by kernel_rfl
theorem l5_20_o5 : (regOp (hdC (inC (hdC (tlC (inC (inC (tlC (nthC 12 (bodyC Try.f5))))))))) 5).op = Op.move (.tmp 4) := by kernel_rfl
theorem l5_20_i6 : (regOps (hdC (inC (hdC (tlC (inC (inC (tlC (nthC 12 (bodyC Try.f5))))))))))[6]? = some (regOp (hdC (inC (hdC (tlC (inC (inC (tlC (nthC 12 (bodyC Try.f5))))))))) 6) := by kernel_rfl
theorem l5_20_d6 : (regOp (hdC (inC (hdC (tlC (inC (inC (tlC (nthC 12 (bodyC Try.f5))))))))) 6).dst = some 101 := by kernel_rfl
theorem l5_20_g6 : (regOp (hdC (inC (hdC (tlC (inC (inC (tlC (nthC 12 (bodyC Try.f5))))))))) 6).guard = none := by kernel_rfl
theorem l5_20_o6 : (regOp (hdC (inC (hdC (tlC (inC (inC (tlC (nthC 12 (bodyC Try.f5))))))))) 6).op = Op.move (.tmp 17) := by kernel_rfl
theorem l5_20_i7 : (regOps (hdC (inC (hdC (tlC (inC (inC (tlC (nthC 12 (bodyC Try.f5))))))))))[7]? = some (regOp (hdC (inC (hdC (tlC (inC (inC (tlC (nthC 12 (bodyC Try.f5))))))))) 7) := by kernel_rfl
theorem l5_20_d7 : (regOp (hdC (inC (hdC (tlC (inC (inC (tlC (nthC 12 (bodyC Try.f5))))))))) 7).dst = some 102 := by kernel_rfl
theorem l5_20_g7 : (regOp (hdC (inC (hdC (tlC (inC (inC (tlC (nthC 12 (bodyC Try.f5))))))))) 7).guard = none := by kernel_rfl
theorem l5_20_o7 : (regOp (hdC (inC (hdC (tlC (inC (inC (tlC (nthC 12 (bodyC Try.f5))))))))) 7).op = Op.indexAddr 55 (.tmp 100) (.tmp 101) := by kernel_rfl
theorem l5_20_i8 : (regOps (hdC (inC (hdC (tlC (inC (inC (tlC (nthC 12 (bodyC Try.f5))))))))))[8]? = some (regOp (hdC (inC (hdC (tlC (inC (inC (tlC (nthC 12 (bodyC Try.f5))))))))) 8) := by kernel_rfl
theorem l5_20_d8 : (regOp (hdC (inC (hdC (tlC (inC (inC (tlC (nthC 12 (bodyC Try.f5))))))))) 8).dst = some 103 := by kernel_rfl
theorem l5_20_g8 : (regOp (hdC (inC (hdC (tlC (inC (inC (tlC (nthC 12 (bodyC Try.f5))))))))) 8).guard = none := by kernel_rfl
theorem l5_20_o8 : (regOp (hdC (inC (hdC (tlC (inC (inC (tlC (nthC 12 (bodyC Try.f5))))))))) 8).op = Op.load 3 (.tmp 102) := by kernel_rfl
theorem l5_20_i9 : (regOps (hdC (inC (hdC (tlC (inC (inC (tlC (nthC 12 (bodyC Try.f5))))))))))[9]? = some (regOp (hdC (inC (hdC (tlC (inC (inC (tlC (nthC 12 (bodyC Try.f5))))))))) 9) := by kernel_rfl
theorem l5_20_d9 : (regOp (hdC (inC (hdC (tlC (inC (inC (tlC (nthC 12 (bodyC Try.f5))))))))) 9).dst = some 104 := by kernel_rfl
theorem l5_20_g9 : (regOp (hdC (inC (hdC (tlC (inC (inC (tlC (nthC 12 (bodyC Try.f5))))))))) 9).guard = none := by kernel_rfl
theorem l5_20_o9 : (regOp (hdC (inC (hdC (tlC (inC (inC (tlC (nthC 12 (bodyC Try.f5))))))))) 9).op = Op.move (.tmp 5) := by kernel_rfl
theorem l5_20_i10 : (regOps (hdC (inC (hdC (tlC (inC (inC (tlC (nthC 12 (bodyC Try.f5))))))))))[10]? = some (regOp (hdC (inC (hdC (tlC (inC (inC (tlC (nthC 12 (bodyC Try.f5))))))))) 10) := by kernel_rfl
theorem l5_20_d10 : (regOp (hdC (inC (hdC (tlC (inC (inC (tlC (nthC 12 (bodyC Try.f5))))))))) 10).dst = some 105 := by kernel_rfl
theorem l5_20_g10 : (regOp (hdC (inC (hdC (tlC (inC (inC (tlC (nthC 12 (bodyC Try.f5))))))))) 10).guard = none := by kernel_rfl
theorem l5_20_o10 : (regOp (hdC (inC (hdC (tlC (inC (inC (tlC (nthC 12 (bodyC Try.f5))))))))) 10).op = Op.move (.tmp 17) := by kernel_rfl
theorem l5_20_i11 : (regOps (hdC (inC (hdC (tlC (inC (inC (tlC (nthC 12 (bodyC Try.f5))))))))))[11]? = some (regOp (hdC (inC (hdC (tlC (inC (inC (tlC (nthC 12 (bodyC Try.f5))))))))) 11) := by kernel_rfl
theorem l5_20_d11 : (regOp (hdC (inC (hdC (tlC (inC (inC (tlC (nthC 12 (bodyC Try.f5))))))))) 11).dst = some 106 := by kernel_rfl
theorem l5_20_g11 : (regOp (hdC (inC (hdC (tlC (inC (inC (tlC (nthC 12 (bodyC Try.f5))))))))) 11).guard = none := by kernel_rfl
theorem l5_20_o11 : (regOp (hdC (inC (hdC (tlC (inC (inC (tlC (nthC 12 (bodyC Try.f5))))))))) 11).op = Op.move (.tmp 2) := by kernel_rfl
theorem l5_20_i12 : (regOps (hdC (inC (hdC (tlC (inC (inC (tlC (nthC 12 (bodyC Try.f5))))))))))[12]? = some (regOp (hdC (inC (hdC (tlC (inC (inC (tlC (nthC 12 (bodyC Try.f5))))))))) 12) := by kernel_rfl
theorem l5_20_d12 : (regOp (hdC (inC (hdC (tlC (inC (inC (tlC (nthC 12 (bodyC Try.f5))))))))) 12).dst = some 107 := by kernel_rfl
theorem l5_20_g12 : (regOp (hdC (inC (hdC (tlC (inC (inC (tlC (nthC 12 (bodyC Try.f5))))))))) 12).guard = none := by kernel_rfl
theorem l5_20_o12 : (regOp (hdC (inC (hdC (tlC (inC (inC (tlC (nthC 12 (bodyC Try.f5))))))))) 12).op = Op.binOp .mul 3 (.tmp 105) (.tmp 106) 3 := by kernel_rfl
theorem l5_20_i13 : (regOps (hdC (inC (hdC (tlC (inC (inC (tlC (nthC 12 (bodyC Try.f5))))))))))[13]? = some (regOp (hdC (inC (hdC (tlC (inC (inC (tlC (nthC 12 (bodyC Try.f5))))))))) 13) := by kernel_rfl
theorem l5_20_d13 : (regOp (hdC (inC (hdC (tlC (inC (inC (tlC (nthC 12 (bodyC Try.f5))))))))) 13).dst = some 108 := by kernel_rfl
theorem l5_20_g13 : (regOp (hdC (inC (hdC (tlC (inC (inC (tlC (nthC 12 (bodyC Try.f5))))))))) 13).guard = none := by kernel_rfl
theorem l5_20_o13 : (regOp (hdC (inC (hdC (tlC (inC (inC (tlC (nthC 12 (bodyC Try.f5))))))))) 13).op = Op.move (.tmp 17) := by kernel_rfl
theorem l5_20_i14 : (regOps (hdC (inC (hdC (tlC (inC (inC (tlC (nthC 12 (bodyC Try.f5))))))))))[14]? = some (regOp (hdC (inC (hdC (tlC (inC (inC (tlC (nthC 12 (bodyC Try.f5))))))))) 14) := by kernel_rfl
theorem l5_20_d14 : (regOp (hdC (inC (hdC (tlC (inC (inC (tlC (nthC 12 (bodyC Try.f5))))))))) 14).dst = some 109 := by kernel_rfl
theorem l5_20_g14 : (regOp (hdC (inC (hdC (tlC (inC (inC (tlC (nthC 12 (bodyC Try.f5))))))))) 14).guard = none := by kernel_rfl
theorem l5_20_o14 : (regOp (hdC (inC (hdC (tlC (inC (inC (tlC (nthC 12 (bodyC Try.f5))))))))) 14).op = Op.binOp .add 3 (.tmp 108) (.const (.int .i64 1)) 3 := by kernel_rfl
theorem l5_20_i15 : (regOps (hdC (inC (hdC (tlC (inC (inC (tlC (nthC 12 (bodyC Try.f5))))))))))[15]? = some (regOp (hdC (inC (hdC (tlC (inC (inC (tlC (nthC 12 (bodyC Try.f5))))))))) 15) := by kernel_rfl
theorem l5_20_d15 : (regOp (hdC (inC (hdC (tlC (inC (inC (tlC (nthC 12 (bodyC Try.f5))))))))) 15).dst = some 110 := by kernel_rfl
theorem l5_20_g15 : (regOp (hdC (inC (hdC (tlC (inC (inC (tlC (nthC 12 (bodyC Try.f5))))))))) 15).guard = none := by kernel_rfl
theorem l5_20_o15 : (regOp (hdC (inC (hdC (tlC (inC (inC (tlC (nthC 12 (bodyC Try.f5))))))))) 15).op = Op.move (.tmp 2) := by kernel_rfl
theorem l5_20_i16 : (regOps (hdC (inC (hdC (tlC (inC (inC (tlC (nthC 12 (bodyC Try.f5))))))))))[16]? = some (regOp (hdC (inC (hdC (tlC (inC (inC (tlC (nthC 12 (bodyC Try.f5))))))))) 16) := by kernel_rfl
theorem l5_20_d16 : (regOp (hdC (inC (hdC (tlC (inC (inC (tlC (nthC 12 (bodyC Try.f5))))))))) 16).dst = some 111 := by kernel_rfl
theorem l5_20_g16 : (regOp (hdC (inC (hdC (tlC (inC (inC (tlC (nthC 12 (bodyC Try.f5))))))))) 16).guard = none := by kernel_rfl
theorem l5_20_o16 : (regOp (hdC (inC (hdC (tlC (inC (inC (tlC (nthC 12 (bodyC Try.f5))))))))) 16).op = Op.binOp .mul 3 (.tmp 109) (.tmp 110) 3 := by kernel_rfl
theorem l5_20_i17 : (regOps (hdC (inC (hdC (tlC (inC (inC (tlC (nthC 12 (bodyC Try.f5))))))))))[17]? = some (regOp (hdC (inC (hdC (tlC (inC (inC (tlC (nthC 12 (bodyC Try.f5))))))))) 17) := by kernel_rfl
theorem l5_20_d17 : (regOp (hdC (inC (hdC (tlC (inC (inC (tlC (nthC 12 (bodyC Try.f5))))))))) 17).dst = some 112 := by kernel_rfl
theorem l5_20_g17 : (regOp (hdC (inC (hdC (tlC (inC (inC (tlC (nthC 12 (bodyC Try.f5))))))))) 17).guard = none := by kernel_rfl
theorem l5_20_o17 : (regOp (hdC (inC (hdC (tlC (inC (inC (tlC (nthC 12 (bodyC Try.f5))))))))) 17).op = Op.slice 56 (.tmp 104) (some (.tmp 107)) (some (.tmp 111)) none := by kernel_rfl
theorem l5_20_i18 : (regOps (hdC (inC (hdC (tlC (inC (inC (tlC (nthC 12 (bodyC Try.f5))))))))))[18]? = some (regOp (hdC (inC (hdC (tlC (inC (inC (tlC (nthC 12 (bodyC Try.f5))))))))) 18) := by kernel_rfl
theorem l5_20_d18 : (regOp (hdC (inC (hdC (tlC (inC (inC (tlC (nthC 12 (bodyC Try.f5))))))))) 18).dst = some 113 := by kernel_rfl
theorem l5_20_g18 : (regOp (hdC (inC (hdC (tlC (inC (inC (tlC (nthC 12 (bodyC Try.f5))))))))) 18).guard = none := by kernel_rfl
theorem l5_20_o18 : (regOp (hdC (inC (hdC (tlC (inC (inC (tlC (nthC 12 (bodyC Try.f5))))))))) 18).op = Op.move (.tmp 6) := by kernel_rfl
theorem l5_20_i19 : (regOps (hdC (inC (hdC (tlC (inC (inC (tlC (nthC 12 (bodyC Try.f5))))))))))[19]? = some (regOp (hdC (inC (hdC (tlC (inC (inC (tlC (nthC 12 (bodyC Try.f5))))))))) 19) := by kernel_rfl
theorem l5_20_d19 : (regOp (hdC (inC (hdC (tlC (inC (inC (tlC (nthC 12 (bodyC Try.f5))))))))) 19).dst = some 114 := by kernel_rfl
theorem l5_20_g19 : (regOp (hdC (inC (hdC (tlC (inC (inC (tlC (nthC 12 (bodyC Try.f5))))))))) 19).guard = none := by kernel_rfl
theorem l5_20_o19 : (regOp (hdC (inC (hdC (tlC (inC (inC (tlC (nthC 12 (bodyC Try.f5))))))))) 19).op = Op.move (.tmp 17) := by kernel_rfl
theorem l5_20_i20 : (regOps (hdC (inC (hdC (tlC (inC (inC (tlC (nthC 12 (bodyC Try.f5))))))))))[20]? = some (regOp (hdC (inC (hdC (tlC (inC (inC (tlC (nthC 12 (bodyC Try.f5))))))))) 20) := by kernel_rfl
theorem l5_20_d20 : (regOp (hdC (inC (hdC (tlC (inC (inC (tlC (nthC 12 (bodyC Try.f5))))))))) 20).dst = some 115 := by kernel_rfl
theorem l5_20_g20 : (regOp (hdC (inC (hdC (tlC (inC (inC (tlC (nthC 12 (bodyC Try.f5))))))))) 20).guard = none := by kernel_rfl
theorem l5_20_o20 : (regOp (hdC (inC (hdC (tlC (inC (inC (tlC (nthC 12 (bodyC Try.f5))))))))) 20).op = Op.move (.tmp 2) := by kernel_rfl
theorem l5_20_i21 : (regOps (hdC (inC (hdC (tlC (inC (inC (tlC (nthC 12 (bodyC Try.f5))))))))))[21]? = some (regOp (hdC (inC (hdC (tlC (inC (inC (tlC (nthC 12 (bodyC Try.f5))))))))) 21) := by kernel_rfl
theorem l5_20_d21 : (regOp (hdC (inC (hdC (tlC (inC (inC (tlC (nthC 12 (bodyC Try.f5))))))))) 21).dst = some 116 := by kernel_rfl
theorem l5_20_g21 : (regOp (hdC (inC (hdC (tlC (inC (inC (tlC (nthC 12 (bodyC Try.f5))))))))) 21).guard = none := by kernel_rfl
theorem l5_20_o21 : (regOp (hdC (inC (hdC (tlC (inC (inC (tlC (nthC 12 (bodyC Try.f5))))))))) 21).op = Op.binOp .mul 3 (.tmp 114) (.tmp 115) 3 := by kernel_rfl
theorem l5_20_i22 : (regOps (hdC (inC (hdC (tlC (inC (inC (tlC (nthC 12 (bodyC Try.f5))))))))))[22]? = some (regOp (hdC (inC (hdC (tlC (inC (inC (tlC (nthC 12 (bodyC Try.f5))))))))) 22) := by kernel_rfl
theorem l5_20_d22 : (regOp (hdC (inC (hdC (tlC (inC (inC (tlC (nthC 12 (bodyC Try.f5))))))))) 22).dst = some 117 := by kernel_rfl
theorem l5_20_g22 : (regOp (hdC (inC (hdC (tlC (inC (inC (tlC (nthC 12 (bodyC Try.f5))))))))) 22).guard = none := by kernel_rfl
theorem l5_20_o22 : (regOp (hdC (inC (hdC (tlC (inC (inC (tlC (nthC 12 (bodyC Try.f5))))))))) 22).op = Op.move (.tmp 17) := by kernel_rfl
theorem l5_20_i23 : (regOps (hdC (inC (hdC (tlC (inC (inC (tlC (nthC 12 (bodyC Try.f5))))))))))[23]? = some (regOp (hdC (inC (hdC (tlC (inC (inC (tlC (nthC 12 (bodyC Try.f5))))))))) 23) := by kernel_rfl
theorem l5_20_d23 : (regOp (hdC (inC (hdC (tlC (inC (inC (tlC (nthC 12 (bodyC Try.f5))))))))) 23).dst = some 118 := by kernel_rfl
theorem l5_20_g23 : (regOp (hdC (inC (hdC (tlC (inC (inC (tlC (nthC 12 (bodyC Try.f5))))))))) 23).guard = none := by kernel_rfl
theorem l5_20_o23 : (regOp (hdC (inC (hdC (tlC (inC (inC (tlC (nthC 12 (bodyC Try.f5))))))))) 23).op = Op.binOp .add 3 (.tmp 117) (.const (.int .i64 1)) 3 := by kernel_rfl
theorem l5_20_i24 : (regOps (hdC (inC (hdC (tlC (inC (inC (tlC (nthC 12 (bodyC Try.f5))))))))))[24]? = some (regOp (hdC (inC (hdC (tlC (inC (inC (tlC (nthC 12 (bodyC Try.f5))))))))) 24) := by kernel_rfl
theorem l5_20_d24 : (regOp (hdC (inC (hdC (tlC (inC (inC (tlC (nthC 12 (bodyC Try.f5))))))))) 24).dst = some 119 := by kernel_rfl
theorem l5_20_g24 : (regOp (hdC (inC (hdC (tlC (inC (inC (tlC (nthC 12 (bodyC Try.f5))))))))) 24).guard = none := by kernel_rfl
theorem l5_20_o24 : (regOp (hdC (inC (hdC (tlC (inC (inC (tlC (nthC 12 (bodyC Try.f5))))))))) 24).op = Op.move (.tmp 2) := by kernel_rfl
theorem l5_20_i25 : (regOps (hdC (inC (hdC (tlC (inC (inC (tlC (nthC 12 (bodyC Try.f5))))))))))[25]? = some (regOp (hdC (inC (hdC (tlC (inC (inC (tlC (nthC 12 (bodyC Try.f5))))))))) 25) := by kernel_rfl
theorem l5_20_d25 : (regOp (hdC (inC (hdC (tlC (inC (inC (tlC (nthC 12 (bodyC Try.f5))))))))) 25).dst = some 120 := by kernel_rfl
theorem l5_20_g25 : (regOp (hdC (inC (hdC (tlC (inC (inC (tlC (nthC 12 (bodyC Try.f5))))))))) 25).guard = none := by kernel_rfl
theorem l5_20_o25 : (regOp (hdC (inC (hdC (tlC (inC (inC (tlC (nthC 12 (bodyC Try.f5))))))))) 25).op = Op.binOp .mul 3 (.tmp 118) (.tmp 119) 3 := by kernel_rfl
theorem l5_20_i26 : (regOps (hdC (inC (hdC (tlC (inC (inC (tlC (nthC 12 (bodyC Try.f5))))))))))[26]? = some (regOp (hdC (inC (hdC (tlC (inC (inC (tlC (nthC 12 (bodyC Try.f5))))))))) 26) := by kernel_rfl
theorem l5_20_d26 : (regOp (hdC (inC (hdC (tlC (inC (inC (tlC (nthC 12 (bodyC Try.f5))))))))) 26).dst = some 121 := by kernel_rfl
theorem l5_20_g26 : (regOp (hdC (inC (hdC (tlC (inC (inC (tlC (nthC 12 (bodyC Try.f5))))))))) 26).guard = none := by kernel_rfl
theorem l5_20_o26 : (regOp (hdC (inC (hdC (tlC (inC (inC (tlC (nthC 12 (bodyC Try.f5))))))))) 26).op = Op.slice 56 (.tmp 113) (some (.tmp 116)) (some (.tmp 120)) none := by kernel_rfl
theorem l5_20_i27 : (regOps (hdC (inC (hdC (tlC (inC (inC (tlC (nthC 12 (bodyC Try.f5))))))))))[27]? = some (regOp (hdC (inC (hdC (tlC (inC (inC (tlC (nthC 12 (bodyC Try.f5))))))))) 27) := by kernel_rfl
theorem l5_20_d27 : (regOp (hdC (inC (hdC (tlC (inC (inC (tlC (nthC 12 (bodyC Try.f5))))))))) 27).dst = some 122 := by kernel_rfl
theorem l5_20_g27 : (regOp (hdC (inC (hdC (tlC (inC (inC (tlC (nthC 12 (bodyC Try.f5))))))))) 27).guard = none := by kernel_rfl
theorem l5_20_o27 : (regOp (hdC (inC (hdC (tlC (inC (inC (tlC (nthC 12 (bodyC Try.f5))))))))) 27).op = Op.call { callee := .value (.func 20), args := #[.tmp 95, .tmp 99, .tmp 103, .tmp 112, .tmp 121], argTypes := #[61, 31, 3, 56, 56] } := by kernel_rfl
theorem l5_20_f0 : Region.free .any (regOps (hdC (inC (hdC (tlC (inC (inC (tlC (nthC 12 (bodyC Try.f5)))))))))) #[false, false, false, false, false, false, false, false, false, false, false, false, false, false, false, false, false, false, false, false, false, false, false, false, false, false, false, false] 0 = true := by kernel_rfl
theorem l5_20_r0 : (Region.ready .any (regOps (hdC (inC (hdC (tlC (inC (inC (tlC (nthC 12 (bodyC Try.f5)))))))))) #[false, false, false, false, false, false, false, false, false, false, false, false, false, false, false, false, false, false, false, false, false, false, false, false, false, false, false, false]).contains 0 = true := by kernel_rfl
theorem l5_20_f1 : Region.free .any (regOps (hdC (inC (hdC (tlC (inC (inC (tlC (nthC 12 (bodyC Try.f5)))))))))) #[true, false, false, false, false, false, false, false, false, false, false, false, false, false, false, false, false, false, false, false, false, false, false, false, false, false, false, false] 1 = true := by kernel_rfl
theorem l5_20_r1 : (Region.ready .any (regOps (hdC (inC (hdC (tlC (inC (inC (tlC (nthC 12 (bodyC Try.f5)))))))))) #[true, false, false, false, false, false, false, false, false, false, false, false, false, false, false, false, false, false, false, false, false, false, false, false, false, false, false, false]).contains 1 = true := by kernel_rfl
theorem l5_20_f2 : Region.free .any (regOps (hdC (inC (hdC (tlC (inC (inC (tlC (nthC 12 (bodyC Try.f5)))))))))) #[true, true, false, false, false, false, false, false, false, false, false, false, false, false, false, false, false, false, false, false, false, false, false, false, false, false, false, false] 2 = true := by kernel_rfl
theorem l5_20_r2 : (Region.ready .any (regOps (hdC (inC (hdC (tlC (inC (inC (tlC (nthC 12 (bodyC Try.f5)))))))))) #[true, true, false, false, false, false, false, false, false, false, false, false, false, false, false, false, false, false, false, false, false, false, false, false, false, false, false, false]).contains 2 = true := by kernel_rfl
theorem l5_20_f3 : Region.free .any (regOps (hdC (inC (hdC (tlC (inC (inC (tlC (nthC 12 (bodyC Try.f5)))))))))) #[true, true, true, false, false, false, false, false, false, false, false, false, false, false, false, false, false, false, false, false, false, false, false, false, false, false, false, false] 3 = true := by kernel_rfl
theorem l5_20_r3 : (Region.ready .any (regOps (hdC (inC (hdC (tlC (inC (inC (tlC (nthC 12 (bodyC Try.f5)))))))))) #[true, true, true, false, false, false, false, false, false, false, false, false, false, false, false, false, false, false, false, false, false, false, false, false, false, false, false, false]).contains 3 = true := by kernel_rfl
theorem l5_20_f4 : Region.free .any (regOps (hdC (inC (hdC (tlC (inC (inC (tlC (nthC 12 (bodyC Try.f5)))))))))) #[true, true, true, true, false, false, false, false, false, false, false, false, false, false, false, false, false, false, false, false, false, false, false, false, false, false, false, false] 4 = true := by kernel_rfl
theorem l5_20_r4 : (Region.ready .any (regOps (hdC (inC (hdC (tlC (inC (inC (tlC (nthC 12 (bodyC Try.f5)))))))))) #[true, true, true, true, false, false, false, false, false, false, false, false, false, false, false, false, false, false, false, false, false, false, false, false, false, false, false, false]).contains 4 = true := by kernel_rfl
theorem l5_20_f5 : Region.free .any (regOps (hdC (inC (hdC (tlC (inC (inC (tlC (nthC 12 (bodyC Try.f5)))))))))) #[true, true, true, true, true, false, false, false, false, false, false, false, false, false, false, false, false, false, false, false, false, false, false, false, false, false, false, false] 5 = true := by kernel_rfl
theorem l5_20_r5 : (Region.ready .any (regOps (hdC (inC (hdC (tlC (inC (inC (tlC (nthC 12 (bodyC Try.f5)))))))))) #[true, true, true, true, true, false, false, false, false, false, false, false, false, false, false, false, false, false, false, false, false, false, false, false, false, false, false, false]).contains 5 = true := by kernel_rfl
theorem l5_20_f6 : Region.free .any (regOps (hdC (inC (hdC (tlC (inC (inC (tlC (nthC 12 (bodyC Try.f5)))))))))) #[true, true, true, true, true, true, false, false, false, false, false, false, false, false, false, false, false, false, false, false, false, false, false, false, false, false, false, false] 6 = true := by kernel_rfl
theorem l5_20_r6 : (Region.ready .any (regOps (hdC (inC (hdC (tlC (inC (inC (tlC (nthC 12 (bodyC Try.f5)))))))))) #[true, true, true, true, true, true, false, false, false, false, false, false, false, false, false, false, false, false, false, false, false, false, false, false, false, false, false, false]).contains 6 = true := by kernel_rfl
theorem l5_20_f7 : Region.free .any (regOps (hdC (inC (hdC (tlC (inC (inC (tlC (nthC 12 (bodyC Try.f5)))))))))) #[true, true, true, true, true, true, true, false, false, false, false, false, false, false, false, false, false, false, false, false, false, false, false, false, false, false, false, false] 7 = true := by kernel_rfl
theorem l5_20_r7 : (Region.ready .any (regOps (hdC (inC (hdC (tlC (inC (inC (tlC (nthC 12 (bodyC Try.f5)))))))))) #[true, true, true, true, true, true, true, false, false, false, false, false, false, false, false, false, false, false, false, false, false, false, false, false, false, false, false, false]).contains 7 = true := by kernel_rfl
theorem l5_20_f8 : Region.free .any (regOps (hdC (inC (hdC (tlC (inC (inC (tlC (nthC 12 (bodyC Try.f5)))))))))) #[true, true, true, true, true, true, true, true, false, false, false, false, false, false, false, false, false, false, false, false, false, false, false, false, false, false, false, false] 8 = true := by kernel_rfl
theorem l5_20_r8 : (Region.ready .any (regOps (hdC (inC (hdC (tlC (inC (inC (tlC (nthC 12 (bodyC Try.f5)))))))))) #[true, true, true, true, true, true, true, true, false, false, false, false, false, false, false, false, false, false, false, false, false, false, false, false, false, false, false, false]).contains 8 = true := by kernel_rfl
theorem l5_20_f9 : Region.free .any (regOps (hdC (inC (hdC (tlC (inC (inC (tlC (nthC 12 (bodyC Try.f5)))))))))) #[true, true, true, true, true, true, true, true, true, false, false, false, false, false, false, false, false, false, false, false, false, false, false, false, false, false, false, false] 9 = true := by kernel_rfl
theorem l5_20_r9 : (Region.ready .any (regOps (hdC (inC (hdC (tlC (inC (inC (tlC (nthC 12 (bodyC Try.f5)))))))))) #[true, true, true, true, true, true, true, true, true, false, false, false, false, false, false, false, false, false, false, false, false, false, false, false, false, false, false, false]).contains 9 = true := by kernel_rfl
theorem l5_20_f10 : Region.free .any (regOps (hdC (inC (hdC (tlC (inC (inC (tlC (nthC 12 (bodyC Try.f5)))))))))) #[true, true, true, true, true, true, true, true, true, true, false, false, false, false, false, false, false, false, false, false, false, false, false, false, false, false, false, false] 10 = true := by kernel_rfl
theorem l5_20_r10 : (Region.ready .any (regOps (hdC (inC (hdC (tlC (inC (inC (tlC (nthC 12 (bodyC Try.f5)))))))))) #[true, true, true, true, true, true, true, true, true, true, false, false, false, false, false, false, false, false, false, false, false, false, false, false, false, false, false, false]).contains 10 = true := by kernel_rfl
theorem l5_20_f11 : Region.free .any (regOps (hdC (inC (hdC (tlC (inC (inC (tlC (nthC 12 (bodyC Try.f5)))))))))) #[true, true, true, true, true, true, true, true, true, true, true, false, false, false, false, false, false, false, false, false, false, false, false, false, false, false, false, false] 11 = true := by kernel_rfl
theorem l5_20_r11 : (Region.ready .any (regOps (hdC (inC (hdC (tlC (inC (inC (tlC (nthC 12 (bodyC Try.f5)))))))))) #[true, true, true, true, true, true, true, true, true, true, true, false, false, false, false, false, false, false, false, false, false, false, false, false, false, false, false, false]).contains 11 = true := by kernel_rfl
theorem l5_20_f12 : Region.free .any (regOps (hdC (inC (hdC (tlC (inC (inC (tlC (nthC 12 (bodyC Try.f5)))))))))) #[true, true, true, true, true, true, true, true, true, true, true, true, false, false, false, false, false, false, false, false, false, false, false, false, false, false, false, false] 12 = true := by kernel_rfl
theorem l5_20_r12 : (Region.ready .any (regOps (hdC (inC (hdC (tlC (inC (inC (tlC (nthC 12 (bodyC Try.f5)))))))))) #[true, true, true, true, true, true, true, true, true, true, true, true, false, false, false, false, false, false, false, false, false, false, false, false, false, false, false, false]).contains 12 = true := by kernel_rfl
theorem l5_20_f13 : Region.free .any (regOps (hdC (inC (hdC (tlC (inC (inC (tlC (nthC 12 (bodyC Try.f5)))))))))) #[true, true, true, true, true, true, true, true, true, true, true, true, true, false, false, false, false, false, false, false, false, false, false, false, false, false, false, false] 13 = true := by kernel_rfl
theorem l5_20_r13 : (Region.ready .any (regOps (hdC (inC (hdC (tlC (inC (inC (tlC (nthC 12 (bodyC Try.f5)))))))))) #[true, true, true, true, true, true, true, true, true, true, true, true, true, false, false, false, false, false, false, false, false, false, false, false, false, false, false, false]).contains 13 = true := by kernel_rfl
theorem l5_20_f14 : Region.free .any (regOps (hdC (inC (hdC (tlC (inC (inC (tlC (nthC 12 (bodyC Try.f5)))))))))) #[true, true, true, true, true, true, true, true, true, true, true, true, true, true, false, false, false, false, false, false, false, false, false, false, false, false, false, false] 14 = true := by kernel_rfl
theorem l5_20_r14 : (Region.ready .any (regOps (hdC (inC (hdC (tlC (inC (inC (tlC (nthC 12 (bodyC Try.f5)))))))))) #[true, true, true, true, true, true, true, true, true, true, true, true, true, true, false, false, false, false, false, false, false, false, false, false, false, false, false, false]).contains 14 = true := by kernel_rfl
theorem l5_20_f15 : Region.free .any (regOps (hdC (inC (hdC (tlC (inC (inC (tlC (nthC 12 (bodyC Try.f5)))))))))) #[true, true, true, true, true, true, true, true, true, true, true, true, true, true, true, false, false, false, false, false, false, false, false, false, false, false, false, false] 15 = true := by kernel_rfl
theorem l5_20_r15 : (Region.ready .any (regOps (hdC (inC (hdC (tlC (inC (inC (tlC (nthC 12 (bodyC Try.f5)))))))))) #[true, true, true, true, true, true, true, true, true, true, true, true, true, true, true, false, false, false, false, false, false, false, false, false, false, false, false, false]).contains 15 = true := by kernel_rfl
theorem l5_20_f16 : Region.free .any (regOps (hdC (inC (hdC (tlC (inC (inC (tlC (nthC 12 (bodyC Try.f5)))))))))) #[true, true, true, true, true, true, true, true, true, true, true, true, true, true, true, true, false, false, false, false, false, false, false, false, false, false, false, false] 16 = true := by kernel_rfl
theorem l5_20_r16 : (Region.ready .any (regOps (hdC (inC (hdC (tlC (inC (inC (tlC (nthC 12 (bodyC Try.f5)))))))))) #[true, true, true, true, true, true, true, true, true, true, true, true, true, true, true, true, false, false, false, false, false, false, false, false, false, false, false, false]).contains 16 = true := by kernel_rfl
theorem l5_20_f17 : Region.free .any (regOps (hdC (inC (hdC (tlC (inC (inC (tlC (nthC 12 (bodyC Try.f5)))))))))) #[true, true, true, true, true, true, true, true, true, true, true, true, true, true, true, true, true, false, false, false, false, false, false, false, false, false, false, false] 17 = true := by kernel_rfl
theorem l5_20_r17 : (Region.ready .any (regOps (hdC (inC (hdC (tlC (inC (inC (tlC (nthC 12 (bodyC Try.f5)))))))))) #[true, true, true, true, true, true, true, true, true, true, true, true, true, true, true, true, true, false, false, false, false, false, false, false, false, false, false, false]).contains 17 = true := by kernel_rfl
theorem l5_20_f18 : Region.free .any (regOps (hdC (inC (hdC (tlC (inC (inC (tlC (nthC 12 (bodyC Try.f5)))))))))) #[true, true, true, true, true, true, true, true, true, true, true, true, true, true, true, true, true, true, false, false, false, false, false, false, false, false, false, false] 18 = true := by kernel_rfl
theorem l5_20_r18 : (Region.ready .any (regOps (hdC (inC (hdC (tlC (inC (inC (tlC (nthC 12 (bodyC Try.f5)))))))))) #[true, true, true, true, true, true, true, true, true, true, true, true, true, true, true, true, true, true, false, false, false, false, false, false, false, false, false, false]).contains 18 = true := by kernel_rfl
theorem l5_20_f19 : Region.free .any (regOps (hdC (inC (hdC (tlC (inC (inC (tlC (nthC 12 (bodyC Try.f5)))))))))) #[true, true, true, true, true, true, true, true, true, true, true, true, true, true, true, true, true, true, true, false, false, false, false, false, false, false, false, false] 19 = true := by kernel_rfl
theorem l5_20_r19 : (Region.ready .any (regOps (hdC (inC (hdC (tlC (inC (inC (tlC (nthC 12 (bodyC Try.f5)))))))))) #[true, true, true, true, true, true, true, true, true, true, true, true, true, true, true, true, true, true, true, false, false, false, false, false, false, false, false, false]).contains 19 = true := by kernel_rfl
theorem l5_20_f20 : Region.free .any (regOps (hdC (inC (hdC (tlC (inC (inC (tlC (nthC 12 (bodyC Try.f5)))))))))) #[true, true, true, true, true, true, true, true, true, true, true, true, true, true, true, true, true, true, true, true, false, false, false, false, false, false, false, false] 20 = true := by kernel_rfl
theorem l5_20_r20 : (Region.ready .any (regOps (hdC (inC (hdC (tlC (inC (inC (tlC (nthC 12 (bodyC Try.f5)))))))))) #[true, true, true, true, true, true, true, true, true, true, true, true, true, true, true, true, true, true, true, true, false, false, false, false, false, false, false, false]).contains 20 = true := by kernel_rfl
theorem l5_20_f21 : Region.free .any (regOps (hdC (inC (hdC (tlC (inC (inC (tlC (nthC 12 (bodyC Try.f5)))))))))) #[true, true, true, true, true, true, true, true, true, true, true, true, true, true, true, true, true, true, true, true, true, false, false, false, false, false, false, false] 21 = true := by kernel_rfl
theorem l5_20_r21 : (Region.ready .any (regOps (hdC (inC (hdC (tlC (inC (inC (tlC (nthC 12 (bodyC Try.f5)))))))))) #[true, true, true, true, true, true, true, true, true, true, true, true, true, true, true, true, true, true, true, true, true, false, false, false, false, false, false, false]).contains 21 = true := by kernel_rfl
theorem l5_20_f22 : Region.free .any (regOps (hdC (inC (hdC (tlC (inC (inC (tlC (nthC 12 (bodyC Try.f5)))))))))) #[true, true, true, true, true, true, true, true, true, true, true, true, true, true, true, true, true, true, true, true, true, true, false, false, false, false, false, false] 22 = true := by kernel_rfl
theorem l5_20_r22 : (Region.ready .any (regOps (hdC (inC (hdC (tlC (inC (inC (tlC (nthC 12 (bodyC Try.f5)))))))))) #[true, true, true, true, true, true, true, true, true, true, true, true, true, true, true, true, true, true, true, true, true, true, false, false, false, false, false, false]).contains 22 = true := by kernel_rfl
theorem l5_20_f23 : Region.free .any (regOps (hdC (inC (hdC (tlC (inC (inC (tlC (nthC 12 (bodyC Try.f5)))))))))) #[true, true, true, true, true, true, true, true, true, true, true, true, true, true, true, true, true, true, true, true, true, true, true, false, false, false, false, false] 23 = true := by kernel_rfl
theorem l5_20_r23 : (Region.ready .any (regOps (hdC (inC (hdC (tlC (inC (inC (tlC (nthC 12 (bodyC Try.f5)))))))))) #[true, true, true, true, true, true, true, true, true, true, true, true, true, true, true, true, true, true, true, true, true, true, true, false, false, false, false, false]).contains 23 = true := by kernel_rfl
theorem l5_20_f24 : Region.free .any (regOps (hdC (inC (hdC (tlC (inC (inC (tlC (nthC 12 (bodyC Try.f5)))))))))) #[true, true, true, true, true, true, true, true, true, true, true, true, true, true, true, true, true, true, true, true, true, true, true, true, false, false, false, false] 24 = true := by kernel_rfl
theorem l5_20_r24 : (Region.ready .any (regOps (hdC (inC (hdC (tlC (inC (inC (tlC (nthC 12 (bodyC Try.f5)))))))))) #[true, true, true, true, true, true, true, true, true, true, true, true, true, true, true, true, true, true, true, true, true, true, true, true, false, false, false, false]).contains 24 = true := by kernel_rfl
theorem l5_20_f25 : Region.free .any (regOps (hdC (inC (hdC (tlC (inC (inC (tlC (nthC 12 (bodyC Try.f5)))))))))) #[true, true, true, true, true, true, true, true, true, true, true, true, true, true, true, true, true, true, true, true, true, true, true, true, true, false, false, false] 25 = true := by kernel_rfl
theorem l5_20_r25 : (Region.ready .any (regOps (hdC (inC (hdC (tlC (inC (inC (tlC (nthC 12 (bodyC Try.f5)))))))))) #[true, true, true, true, true, true, true, true, true, true, true, true, true, true, true, true, true, true, true, true, true, true, true, true, true, false, false, false]).contains 25 = true := by kernel_rfl
theorem l5_20_f26 : Region.free .any (regOps (hdC (inC (hdC (tlC (inC (inC (tlC (nthC 12 (bodyC Try.f5)))))))))) #[true, true, true, true, true, true, true, true, true, true, true, true, true, true, true, true, true, true, true, true, true, true, true, true, true, true, false, false] 26 = true := by kernel_rfl
theorem l5_20_r26 : (Region.ready .any (regOps (hdC (inC (hdC (tlC (inC (inC (tlC (nthC 12 (bodyC Try.f5)))))))))) #[true, true, true, true, true, true, true, true, true, true, true, true, true, true, true, true, true, true, true, true, true, true, true, true, true, true, false, false]).contains 26 = true := by kernel_rfl
theorem l5_20_r27 : Region.ready .any (regOps (hdC (inC (hdC (tlC (inC (inC (tlC (nthC 12 (bodyC Try.f5)))))))))) #[true, true, true, true, true, true, true, true, true, true, true, true, true, true, true, true, true, true, true, true, true, true, true, true, true, true, true, false] = [27] := by kernel_rfl
theorem l5_20_e : Region.ready .any (regOps (hdC (inC (hdC (tlC (inC (inC (tlC (nthC 12 (bodyC Try.f5)))))))))) #[true, true, true, true, true, true, true, true, true, true, true, true, true, true, true, true, true, true, true, true, true, true, true, true, true, true, true, true] = [] := by kernel_rfl

set_option maxRecDepth 10000 in
set_option maxHeartbeats 1000000 in
theorem l5_20 (fa fb : Int) (m K I pb cb ib rb b1 b2 k lo hi : Nat) (p ck : Int) (G : World → Prop) (a : Act) (w : World) (Q : Exit → Act → World → Prop) (hfr : Fr 178 a) (hs : Slots [(0, .int .u64 fa), (1, .int .u64 fb), (2, .int .i64 (m : Nat)), (3, .slice (some ⟨pb, 0, none⟩) K K), (4, .slice (some ⟨cb, 0, none⟩) K K), (5, .slice (some ⟨ib, 0, none⟩) I I), (6, .slice (some ⟨rb, 0, none⟩) I I), (15, .pointer (some ⟨b1, 0, none⟩)), (16, .pointer (some ⟨b2, 0, none⟩)), (17, .int .i64 (k : Nat))] a)
    (hlo : IntKind.i64.wrap ((k : Int) * (m : Int)) = (lo : Int)) (hk1 : IntKind.i64.wrap ((k : Int) + 1) = (k : Int) + 1) (hhi : IntKind.i64.wrap (((k : Int) + 1) * (m : Int)) = (hi : Int)) (hle : (lo : Int) ≤ hi) (hhI : (hi : Int) ≤ I) (hIl : ¬ (I = lo)) (lk : (k : Int) < K)
    (cp : w.cell? ⟨pb, k, none⟩ = some (.int .u64 p)) (cc : w.cell? ⟨cb, k, none⟩ = some (.int .i64 ck))
    (hcall : Calls Try.prog 20 #[.pointer (some ⟨b1, 0, none⟩), .int .u64 p, .int .i64 ck, .slice (some ⟨ib, lo, none⟩) (hi - lo) (I - lo), .slice (some ⟨rb, lo, none⟩) (hi - lo) (I - lo)] w.drew fun e w' => e = .returned (.tuple #[]) ∧ (fun w' : World => w'.cell? ⟨pb, k, none⟩ = some (.int .u64 p) ∧ w'.cell? ⟨cb, k, none⟩ = some (.int .i64 ck)) w' ∧ G w')
    (hQ : ∀ a' w', G w' → Fr 178 a' → Slots [(0, .int .u64 fa), (1, .int .u64 fb), (2, .int .i64 (m : Nat)), (3, .slice (some ⟨pb, 0, none⟩) K K), (4, .slice (some ⟨cb, 0, none⟩) K K), (5, .slice (some ⟨ib, 0, none⟩) I I), (6, .slice (some ⟨rb, 0, none⟩) I I), (15, .pointer (some ⟨b1, 0, none⟩)), (16, .pointer (some ⟨b2, 0, none⟩)), (17, .int .i64 (k : Nat))] a' → Q .normal a' w') :
    Code.wp Try.prog (hdC (inC (hdC (tlC (inC (inC (tlC (nthC 12 (bodyC Try.f5))))))))) Q a w := by
  obtain ⟨t0, t1, t2, t3, t4, t5, t6, t15, t16, t17, -⟩ := hs
  replace t0 : a.tmps[0]?.getD undef = .int .u64 fa := (sl_at a 0).symm.trans t0
  replace t1 : a.tmps[1]?.getD undef = .int .u64 fb := (sl_at a 1).symm.trans t1
  replace t2 : a.tmps[2]?.getD undef = .int .i64 (m : Nat) := (sl_at a 2).symm.trans t2
  replace t3 : a.tmps[3]?.getD undef = .slice (some ⟨pb, 0, none⟩) K K := (sl_at a 3).symm.trans t3
  replace t4 : a.tmps[4]?.getD undef = .slice (some ⟨cb, 0, none⟩) K K := (sl_at a 4).symm.trans t4
  replace t5 : a.tmps[5]?.getD undef = .slice (some ⟨ib, 0, none⟩) I I := (sl_at a 5).symm.trans t5
  replace t6 : a.tmps[6]?.getD undef = .slice (some ⟨rb, 0, none⟩) I I := (sl_at a 6).symm.trans t6
  replace t15 : a.tmps[15]?.getD undef = .pointer (some ⟨b1, 0, none⟩) := (sl_at a 15).symm.trans t15
  replace t16 : a.tmps[16]?.getD undef = .pointer (some ⟨b2, 0, none⟩) := (sl_at a 16).symm.trans t16
  replace t17 : a.tmps[17]?.getD undef = .int .i64 (k : Nat) := (sl_at a 17).symm.trans t17
  have hS0 : (fun w' : World => w'.cell? ⟨pb, k, none⟩ = some (.int .u64 p) ∧ w'.cell? ⟨cb, k, none⟩ = some (.int .i64 ck)) w.drew := ⟨cp, cc⟩
  refine wp_navR (fun w' : World => w'.cell? ⟨pb, k, none⟩ = some (.int .u64 p) ∧ w'.cell? ⟨cb, k, none⟩ = some (.int .i64 ck)) (fun a' w' => G w' ∧ Fr 178 a' ∧ Slots [(0, .int .u64 fa), (1, .int .u64 fb), (2, .int .i64 (m : Nat)), (3, .slice (some ⟨pb, 0, none⟩) K K), (4, .slice (some ⟨cb, 0, none⟩) K K), (5, .slice (some ⟨ib, 0, none⟩) I I), (6, .slice (some ⟨rb, 0, none⟩) I I), (15, .pointer (some ⟨b1, 0, none⟩)), (16, .pointer (some ⟨b2, 0, none⟩)), (17, .int .i64 (k : Nat))] a') 28 #[false, false, false, false, false, false, false, false, false, false, false, false, false, false, false, false, false, false, false, false, false, false, false, false, false, false, false, false] (by kernel_rfl) (by kernel_rfl) (by kernel_rfl) rfl ?_ (fun a' w' ⟨h1, h2, h3⟩ => hQ a' w' h1 h2 h3)
  clear hQ
  refine take1 0 95 _ (.pointer (some ⟨b1, 0, none⟩)) #[true, false, false, false, false, false, false, false, false, false, false, false, false, false, false, false, false, false, false, false, false, false, false, false, false, false, false, false] l5_20_i0 l5_20_d0 (by decide) l5_20_s l5_20_f0 l5_20_r0 l5_20_g0 rfl hS0 hfr ?_ ?_
  · intro wx hx; obtain ⟨h0, h1⟩ := hx; simp only [execOp, l5_20_o0]; go_simp
  intro a1 fr1 t95 ho
  replace t0 := (ho 0 (by decide)).trans t0
  replace t1 := (ho 1 (by decide)).trans t1
  replace t2 := (ho 2 (by decide)).trans t2
  replace t3 := (ho 3 (by decide)).trans t3
  replace t4 := (ho 4 (by decide)).trans t4
  replace t5 := (ho 5 (by decide)).trans t5
  replace t6 := (ho 6 (by decide)).trans t6
  replace t15 := (ho 15 (by decide)).trans t15
  replace t16 := (ho 16 (by decide)).trans t16
  replace t17 := (ho 17 (by decide)).trans t17
  clear hfr ho
  refine take1 1 96 _ (.slice (some ⟨pb, 0, none⟩) K K) #[true, true, false, false, false, false, false, false, false, false, false, false, false, false, false, false, false, false, false, false, false, false, false, false, false, false, false, false] l5_20_i1 l5_20_d1 (by decide) l5_20_s l5_20_f1 l5_20_r1 l5_20_g1 rfl hS0 fr1 ?_ ?_
  · intro wx hx; obtain ⟨h0, h1⟩ := hx; simp only [execOp, l5_20_o1]; go_simp
  intro a2 fr2 t96 ho
  replace t0 := (ho 0 (by decide)).trans t0
  replace t1 := (ho 1 (by decide)).trans t1
  replace t2 := (ho 2 (by decide)).trans t2
  replace t3 := (ho 3 (by decide)).trans t3
  replace t4 := (ho 4 (by decide)).trans t4
  replace t5 := (ho 5 (by decide)).trans t5
  replace t6 := (ho 6 (by decide)).trans t6
  replace t15 := (ho 15 (by decide)).trans t15
  replace t16 := (ho 16 (by decide)).trans t16
  replace t17 := (ho 17 (by decide)).trans t17
  replace t95 := (ho 95 (by decide)).trans t95
  clear fr1 ho
  refine take1 2 97 _ (.int .i64 (k : Nat)) #[true, true, true, false, false, false, false, false, false, false, false, false, false, false, false, false, false, false, false, false, false, false, false, false, false, false, false, false] l5_20_i2 l5_20_d2 (by decide) l5_20_s l5_20_f2 l5_20_r2 l5_20_g2 rfl hS0 fr2 ?_ ?_
  · intro wx hx; obtain ⟨h0, h1⟩ := hx; simp only [execOp, l5_20_o2]; go_simp
  intro a3 fr3 t97 ho
  replace t0 := (ho 0 (by decide)).trans t0
  replace t1 := (ho 1 (by decide)).trans t1
  replace t2 := (ho 2 (by decide)).trans t2
  replace t3 := (ho 3 (by decide)).trans t3
  replace t4 := (ho 4 (by decide)).trans t4
  replace t5 := (ho 5 (by decide)).trans t5
  replace t6 := (ho 6 (by decide)).trans t6
  replace t15 := (ho 15 (by decide)).trans t15
  replace t16 := (ho 16 (by decide)).trans t16
  replace t17 := (ho 17 (by decide)).trans t17
  replace t95 := (ho 95 (by decide)).trans t95
  replace t96 := (ho 96 (by decide)).trans t96
  clear fr2 ho
  refine take1 3 98 _ (.pointer (some ⟨pb, k, none⟩)) #[true, true, true, true, false, false, false, false, false, false, false, false, false, false, false, false, false, false, false, false, false, false, false, false, false, false, false, false] l5_20_i3 l5_20_d3 (by decide) l5_20_s l5_20_f3 l5_20_r3 l5_20_g3 rfl hS0 fr3 ?_ ?_
  · intro wx hx; obtain ⟨h0, h1⟩ := hx; simp only [execOp, l5_20_o3]; go_simp
  intro a4 fr4 t98 ho
  replace t0 := (ho 0 (by decide)).trans t0
  replace t1 := (ho 1 (by decide)).trans t1
  replace t2 := (ho 2 (by decide)).trans t2
  replace t3 := (ho 3 (by decide)).trans t3
  replace t4 := (ho 4 (by decide)).trans t4
  replace t5 := (ho 5 (by decide)).trans t5
  replace t6 := (ho 6 (by decide)).trans t6
  replace t15 := (ho 15 (by decide)).trans t15
  replace t16 := (ho 16 (by decide)).trans t16
  replace t17 := (ho 17 (by decide)).trans t17
  replace t95 := (ho 95 (by decide)).trans t95
  replace t96 := (ho 96 (by decide)).trans t96
  replace t97 := (ho 97 (by decide)).trans t97
  clear fr3 ho
  clear t96 t97
  refine take1 4 99 _ (.int .u64 p) #[true, true, true, true, true, false, false, false, false, false, false, false, false, false, false, false, false, false, false, false, false, false, false, false, false, false, false, false] l5_20_i4 l5_20_d4 (by decide) l5_20_s l5_20_f4 l5_20_r4 l5_20_g4 rfl hS0 fr4 ?_ ?_
  · intro wx hx; obtain ⟨h0, h1⟩ := hx; simp only [execOp, l5_20_o4]; go_simp
  intro a5 fr5 t99 ho
  replace t0 := (ho 0 (by decide)).trans t0
  replace t1 := (ho 1 (by decide)).trans t1
  replace t2 := (ho 2 (by decide)).trans t2
  replace t3 := (ho 3 (by decide)).trans t3
  replace t4 := (ho 4 (by decide)).trans t4
  replace t5 := (ho 5 (by decide)).trans t5
  replace t6 := (ho 6 (by decide)).trans t6
  replace t15 := (ho 15 (by decide)).trans t15
  replace t16 := (ho 16 (by decide)).trans t16
  replace t17 := (ho 17 (by decide)).trans t17
  replace t95 := (ho 95 (by decide)).trans t95
  replace t98 := (ho 98 (by decide)).trans t98
  clear fr4 ho
  clear t98
  refine take1 5 100 _ (.slice (some ⟨cb, 0, none⟩) K K) #[true, true, true, true, true, true, false, false, false, false, false, false, false, false, false, false, false, false, false, false, false, false, false, false, false, false, false, false] l5_20_i5 l5_20_d5 (by decide) l5_20_s l5_20_f5 l5_20_r5 l5_20_g5 rfl hS0 fr5 ?_ ?_
  · intro wx hx; obtain ⟨h0, h1⟩ := hx; simp only [execOp, l5_20_o5]; go_simp
  intro a6 fr6 t100 ho
  replace t0 := (ho 0 (by decide)).trans t0
  replace t1 := (ho 1 (by decide)).trans t1
  replace t2 := (ho 2 (by decide)).trans t2
  replace t3 := (ho 3 (by decide)).trans t3
  replace t4 := (ho 4 (by decide)).trans t4
  replace t5 := (ho 5 (by decide)).trans t5
  replace t6 := (ho 6 (by decide)).trans t6
  replace t15 := (ho 15 (by decide)).trans t15
  replace t16 := (ho 16 (by decide)).trans t16
  replace t17 := (ho 17 (by decide)).trans t17
  replace t95 := (ho 95 (by decide)).trans t95
  replace t99 := (ho 99 (by decide)).trans t99
  clear fr5 ho
  refine take1 6 101 _ (.int .i64 (k : Nat)) #[true, true, true, true, true, true, true, false, false, false, false, false, false, false, false, false, false, false, false, false, false, false, false, false, false, false, false, false] l5_20_i6 l5_20_d6 (by decide) l5_20_s l5_20_f6 l5_20_r6 l5_20_g6 rfl hS0 fr6 ?_ ?_
  · intro wx hx; obtain ⟨h0, h1⟩ := hx; simp only [execOp, l5_20_o6]; go_simp
  intro a7 fr7 t101 ho
  replace t0 := (ho 0 (by decide)).trans t0
  replace t1 := (ho 1 (by decide)).trans t1
  replace t2 := (ho 2 (by decide)).trans t2
  replace t3 := (ho 3 (by decide)).trans t3
  replace t4 := (ho 4 (by decide)).trans t4
  replace t5 := (ho 5 (by decide)).trans t5
  replace t6 := (ho 6 (by decide)).trans t6
  replace t15 := (ho 15 (by decide)).trans t15
  replace t16 := (ho 16 (by decide)).trans t16
  replace t17 := (ho 17 (by decide)).trans t17
  replace t95 := (ho 95 (by decide)).trans t95
  replace t99 := (ho 99 (by decide)).trans t99
  replace t100 := (ho 100 (by decide)).trans t100
  clear fr6 ho
  refine take1 7 102 _ (.pointer (some ⟨cb, k, none⟩)) #[true, true, true, true, true, true, true, true, false, false, false, false, false, false, false, false, false, false, false, false, false, false, false, false, false, false, false, false] l5_20_i7 l5_20_d7 (by decide) l5_20_s l5_20_f7 l5_20_r7 l5_20_g7 rfl hS0 fr7 ?_ ?_
  · intro wx hx; obtain ⟨h0, h1⟩ := hx; simp only [execOp, l5_20_o7]; go_simp
  intro a8 fr8 t102 ho
  replace t0 := (ho 0 (by decide)).trans t0
  replace t1 := (ho 1 (by decide)).trans t1
  replace t2 := (ho 2 (by decide)).trans t2
  replace t3 := (ho 3 (by decide)).trans t3
  replace t4 := (ho 4 (by decide)).trans t4
  replace t5 := (ho 5 (by decide)).trans t5
  replace t6 := (ho 6 (by decide)).trans t6
  replace t15 := (ho 15 (by decide)).trans t15
  replace t16 := (ho 16 (by decide)).trans t16
  replace t17 := (ho 17 (by decide)).trans t17
  replace t95 := (ho 95 (by decide)).trans t95
  replace t99 := (ho 99 (by decide)).trans t99
  replace t100 := (ho 100 (by decide)).trans t100
  replace t101 := (ho 101 (by decide)).trans t101
  clear fr7 ho
  clear t100 t101
  refine take1 8 103 _ (.int .i64 ck) #[true, true, true, true, true, true, true, true, true, false, false, false, false, false, false, false, false, false, false, false, false, false, false, false, false, false, false, false] l5_20_i8 l5_20_d8 (by decide) l5_20_s l5_20_f8 l5_20_r8 l5_20_g8 rfl hS0 fr8 ?_ ?_
  · intro wx hx; obtain ⟨h0, h1⟩ := hx; simp only [execOp, l5_20_o8]; go_simp
  intro a9 fr9 t103 ho
  replace t0 := (ho 0 (by decide)).trans t0
  replace t1 := (ho 1 (by decide)).trans t1
  replace t2 := (ho 2 (by decide)).trans t2
  replace t3 := (ho 3 (by decide)).trans t3
  replace t4 := (ho 4 (by decide)).trans t4
  replace t5 := (ho 5 (by decide)).trans t5
  replace t6 := (ho 6 (by decide)).trans t6
  replace t15 := (ho 15 (by decide)).trans t15
  replace t16 := (ho 16 (by decide)).trans t16
  replace t17 := (ho 17 (by decide)).trans t17
  replace t95 := (ho 95 (by decide)).trans t95
  replace t99 := (ho 99 (by decide)).trans t99
  replace t102 := (ho 102 (by decide)).trans t102
  clear fr8 ho
  clear t102
  refine take1 9 104 _ (.slice (some ⟨ib, 0, none⟩) I I) #[true, true, true, true, true, true, true, true, true, true, false, false, false, false, false, false, false, false, false, false, false, false, false, false, false, false, false, false] l5_20_i9 l5_20_d9 (by decide) l5_20_s l5_20_f9 l5_20_r9 l5_20_g9 rfl hS0 fr9 ?_ ?_
  · intro wx hx; obtain ⟨h0, h1⟩ := hx; simp only [execOp, l5_20_o9]; go_simp
  intro a10 fr10 t104 ho
  replace t0 := (ho 0 (by decide)).trans t0
  replace t1 := (ho 1 (by decide)).trans t1
  replace t2 := (ho 2 (by decide)).trans t2
  replace t3 := (ho 3 (by decide)).trans t3
  replace t4 := (ho 4 (by decide)).trans t4
  replace t5 := (ho 5 (by decide)).trans t5
  replace t6 := (ho 6 (by decide)).trans t6
  replace t15 := (ho 15 (by decide)).trans t15
  replace t16 := (ho 16 (by decide)).trans t16
  replace t17 := (ho 17 (by decide)).trans t17
  replace t95 := (ho 95 (by decide)).trans t95
  replace t99 := (ho 99 (by decide)).trans t99
  replace t103 := (ho 103 (by decide)).trans t103
  clear fr9 ho
  refine take1 10 105 _ (.int .i64 (k : Nat)) #[true, true, true, true, true, true, true, true, true, true, true, false, false, false, false, false, false, false, false, false, false, false, false, false, false, false, false, false] l5_20_i10 l5_20_d10 (by decide) l5_20_s l5_20_f10 l5_20_r10 l5_20_g10 rfl hS0 fr10 ?_ ?_
  · intro wx hx; obtain ⟨h0, h1⟩ := hx; simp only [execOp, l5_20_o10]; go_simp
  intro a11 fr11 t105 ho
  replace t0 := (ho 0 (by decide)).trans t0
  replace t1 := (ho 1 (by decide)).trans t1
  replace t2 := (ho 2 (by decide)).trans t2
  replace t3 := (ho 3 (by decide)).trans t3
  replace t4 := (ho 4 (by decide)).trans t4
  replace t5 := (ho 5 (by decide)).trans t5
  replace t6 := (ho 6 (by decide)).trans t6
  replace t15 := (ho 15 (by decide)).trans t15
  replace t16 := (ho 16 (by decide)).trans t16
  replace t17 := (ho 17 (by decide)).trans t17
  replace t95 := (ho 95 (by decide)).trans t95
  replace t99 := (ho 99 (by decide)).trans t99
  replace t103 := (ho 103 (by decide)).trans t103
  replace t104 := (ho 104 (by decide)).trans t104
  clear fr10 ho
  refine take1 11 106 _ (.int .i64 (m : Nat)) #[true, true, true, true, true, true, true, true, true, true, true, true, false, false, false, false, false, false, false, false, false, false, false, false, false, false, false, false] l5_20_i11 l5_20_d11 (by decide) l5_20_s l5_20_f11 l5_20_r11 l5_20_g11 rfl hS0 fr11 ?_ ?_
  · intro wx hx; obtain ⟨h0, h1⟩ := hx; simp only [execOp, l5_20_o11]; go_simp
  intro a12 fr12 t106 ho
  replace t0 := (ho 0 (by decide)).trans t0
  replace t1 := (ho 1 (by decide)).trans t1
  replace t2 := (ho 2 (by decide)).trans t2
  replace t3 := (ho 3 (by decide)).trans t3
  replace t4 := (ho 4 (by decide)).trans t4
  replace t5 := (ho 5 (by decide)).trans t5
  replace t6 := (ho 6 (by decide)).trans t6
  replace t15 := (ho 15 (by decide)).trans t15
  replace t16 := (ho 16 (by decide)).trans t16
  replace t17 := (ho 17 (by decide)).trans t17
  replace t95 := (ho 95 (by decide)).trans t95
  replace t99 := (ho 99 (by decide)).trans t99
  replace t103 := (ho 103 (by decide)).trans t103
  replace t104 := (ho 104 (by decide)).trans t104
  replace t105 := (ho 105 (by decide)).trans t105
  clear fr11 ho
  refine take1 12 107 _ (.int .i64 (lo : Nat)) #[true, true, true, true, true, true, true, true, true, true, true, true, true, false, false, false, false, false, false, false, false, false, false, false, false, false, false, false] l5_20_i12 l5_20_d12 (by decide) l5_20_s l5_20_f12 l5_20_r12 l5_20_g12 rfl hS0 fr12 ?_ ?_
  · intro wx hx; obtain ⟨h0, h1⟩ := hx; simp only [execOp, l5_20_o12]; go_simp
  intro a13 fr13 t107 ho
  replace t0 := (ho 0 (by decide)).trans t0
  replace t1 := (ho 1 (by decide)).trans t1
  replace t2 := (ho 2 (by decide)).trans t2
  replace t3 := (ho 3 (by decide)).trans t3
  replace t4 := (ho 4 (by decide)).trans t4
  replace t5 := (ho 5 (by decide)).trans t5
  replace t6 := (ho 6 (by decide)).trans t6
  replace t15 := (ho 15 (by decide)).trans t15
  replace t16 := (ho 16 (by decide)).trans t16
  replace t17 := (ho 17 (by decide)).trans t17
  replace t95 := (ho 95 (by decide)).trans t95
  replace t99 := (ho 99 (by decide)).trans t99
  replace t103 := (ho 103 (by decide)).trans t103
  replace t104 := (ho 104 (by decide)).trans t104
  replace t105 := (ho 105 (by decide)).trans t105
  replace t106 := (ho 106 (by decide)).trans t106
  clear fr12 ho
  clear t105 t106
  refine take1 13 108 _ (.int .i64 (k : Nat)) #[true, true, true, true, true, true, true, true, true, true, true, true, true, true, false, false, false, false, false, false, false, false, false, false, false, false, false, false] l5_20_i13 l5_20_d13 (by decide) l5_20_s l5_20_f13 l5_20_r13 l5_20_g13 rfl hS0 fr13 ?_ ?_
  · intro wx hx; obtain ⟨h0, h1⟩ := hx; simp only [execOp, l5_20_o13]; go_simp
  intro a14 fr14 t108 ho
  replace t0 := (ho 0 (by decide)).trans t0
  replace t1 := (ho 1 (by decide)).trans t1
  replace t2 := (ho 2 (by decide)).trans t2
  replace t3 := (ho 3 (by decide)).trans t3
  replace t4 := (ho 4 (by decide)).trans t4
  replace t5 := (ho 5 (by decide)).trans t5
  replace t6 := (ho 6 (by decide)).trans t6
  replace t15 := (ho 15 (by decide)).trans t15
  replace t16 := (ho 16 (by decide)).trans t16
  replace t17 := (ho 17 (by decide)).trans t17
  replace t95 := (ho 95 (by decide)).trans t95
  replace t99 := (ho 99 (by decide)).trans t99
  replace t103 := (ho 103 (by decide)).trans t103
  replace t104 := (ho 104 (by decide)).trans t104
  replace t107 := (ho 107 (by decide)).trans t107
  clear fr13 ho
  refine take1 14 109 _ (.int .i64 ((k : Nat) + 1)) #[true, true, true, true, true, true, true, true, true, true, true, true, true, true, true, false, false, false, false, false, false, false, false, false, false, false, false, false] l5_20_i14 l5_20_d14 (by decide) l5_20_s l5_20_f14 l5_20_r14 l5_20_g14 rfl hS0 fr14 ?_ ?_
  · intro wx hx; obtain ⟨h0, h1⟩ := hx; simp only [execOp, l5_20_o14]; go_simp
  intro a15 fr15 t109 ho
  replace t0 := (ho 0 (by decide)).trans t0
  replace t1 := (ho 1 (by decide)).trans t1
  replace t2 := (ho 2 (by decide)).trans t2
  replace t3 := (ho 3 (by decide)).trans t3
  replace t4 := (ho 4 (by decide)).trans t4
  replace t5 := (ho 5 (by decide)).trans t5
  replace t6 := (ho 6 (by decide)).trans t6
  replace t15 := (ho 15 (by decide)).trans t15
  replace t16 := (ho 16 (by decide)).trans t16
  replace t17 := (ho 17 (by decide)).trans t17
  replace t95 := (ho 95 (by decide)).trans t95
  replace t99 := (ho 99 (by decide)).trans t99
  replace t103 := (ho 103 (by decide)).trans t103
  replace t104 := (ho 104 (by decide)).trans t104
  replace t107 := (ho 107 (by decide)).trans t107
  replace t108 := (ho 108 (by decide)).trans t108
  clear fr14 ho
  clear t108
  refine take1 15 110 _ (.int .i64 (m : Nat)) #[true, true, true, true, true, true, true, true, true, true, true, true, true, true, true, true, false, false, false, false, false, false, false, false, false, false, false, false] l5_20_i15 l5_20_d15 (by decide) l5_20_s l5_20_f15 l5_20_r15 l5_20_g15 rfl hS0 fr15 ?_ ?_
  · intro wx hx; obtain ⟨h0, h1⟩ := hx; simp only [execOp, l5_20_o15]; go_simp
  intro a16 fr16 t110 ho
  replace t0 := (ho 0 (by decide)).trans t0
  replace t1 := (ho 1 (by decide)).trans t1
  replace t2 := (ho 2 (by decide)).trans t2
  replace t3 := (ho 3 (by decide)).trans t3
  replace t4 := (ho 4 (by decide)).trans t4
  replace t5 := (ho 5 (by decide)).trans t5
  replace t6 := (ho 6 (by decide)).trans t6
  replace t15 := (ho 15 (by decide)).trans t15
  replace t16 := (ho 16 (by decide)).trans t16
  replace t17 := (ho 17 (by decide)).trans t17
  replace t95 := (ho 95 (by decide)).trans t95
  replace t99 := (ho 99 (by decide)).trans t99
  replace t103 := (ho 103 (by decide)).trans t103
  replace t104 := (ho 104 (by decide)).trans t104
  replace t107 := (ho 107 (by decide)).trans t107
  replace t109 := (ho 109 (by decide)).trans t109
  clear fr15 ho
  refine take1 16 111 _ (.int .i64 (hi : Nat)) #[true, true, true, true, true, true, true, true, true, true, true, true, true, true, true, true, true, false, false, false, false, false, false, false, false, false, false, false] l5_20_i16 l5_20_d16 (by decide) l5_20_s l5_20_f16 l5_20_r16 l5_20_g16 rfl hS0 fr16 ?_ ?_
  · intro wx hx; obtain ⟨h0, h1⟩ := hx; simp only [execOp, l5_20_o16]; go_simp
  intro a17 fr17 t111 ho
  replace t0 := (ho 0 (by decide)).trans t0
  replace t1 := (ho 1 (by decide)).trans t1
  replace t2 := (ho 2 (by decide)).trans t2
  replace t3 := (ho 3 (by decide)).trans t3
  replace t4 := (ho 4 (by decide)).trans t4
  replace t5 := (ho 5 (by decide)).trans t5
  replace t6 := (ho 6 (by decide)).trans t6
  replace t15 := (ho 15 (by decide)).trans t15
  replace t16 := (ho 16 (by decide)).trans t16
  replace t17 := (ho 17 (by decide)).trans t17
  replace t95 := (ho 95 (by decide)).trans t95
  replace t99 := (ho 99 (by decide)).trans t99
  replace t103 := (ho 103 (by decide)).trans t103
  replace t104 := (ho 104 (by decide)).trans t104
  replace t107 := (ho 107 (by decide)).trans t107
  replace t109 := (ho 109 (by decide)).trans t109
  replace t110 := (ho 110 (by decide)).trans t110
  clear fr16 ho
  clear t109 t110
  refine take1 17 112 _ (.slice (some ⟨ib, lo, none⟩) (hi - lo) (I - lo)) #[true, true, true, true, true, true, true, true, true, true, true, true, true, true, true, true, true, true, false, false, false, false, false, false, false, false, false, false] l5_20_i17 l5_20_d17 (by decide) l5_20_s l5_20_f17 l5_20_r17 l5_20_g17 rfl hS0 fr17 ?_ ?_
  · intro wx hx; obtain ⟨h0, h1⟩ := hx; simp only [execOp, l5_20_o17]; go_simp
  intro a18 fr18 t112 ho
  replace t0 := (ho 0 (by decide)).trans t0
  replace t1 := (ho 1 (by decide)).trans t1
  replace t2 := (ho 2 (by decide)).trans t2
  replace t3 := (ho 3 (by decide)).trans t3
  replace t4 := (ho 4 (by decide)).trans t4
  replace t5 := (ho 5 (by decide)).trans t5
  replace t6 := (ho 6 (by decide)).trans t6
  replace t15 := (ho 15 (by decide)).trans t15
  replace t16 := (ho 16 (by decide)).trans t16
  replace t17 := (ho 17 (by decide)).trans t17
  replace t95 := (ho 95 (by decide)).trans t95
  replace t99 := (ho 99 (by decide)).trans t99
  replace t103 := (ho 103 (by decide)).trans t103
  replace t104 := (ho 104 (by decide)).trans t104
  replace t107 := (ho 107 (by decide)).trans t107
  replace t111 := (ho 111 (by decide)).trans t111
  clear fr17 ho
  clear t104 t107 t111
  refine take1 18 113 _ (.slice (some ⟨rb, 0, none⟩) I I) #[true, true, true, true, true, true, true, true, true, true, true, true, true, true, true, true, true, true, true, false, false, false, false, false, false, false, false, false] l5_20_i18 l5_20_d18 (by decide) l5_20_s l5_20_f18 l5_20_r18 l5_20_g18 rfl hS0 fr18 ?_ ?_
  · intro wx hx; obtain ⟨h0, h1⟩ := hx; simp only [execOp, l5_20_o18]; go_simp
  intro a19 fr19 t113 ho
  replace t0 := (ho 0 (by decide)).trans t0
  replace t1 := (ho 1 (by decide)).trans t1
  replace t2 := (ho 2 (by decide)).trans t2
  replace t3 := (ho 3 (by decide)).trans t3
  replace t4 := (ho 4 (by decide)).trans t4
  replace t5 := (ho 5 (by decide)).trans t5
  replace t6 := (ho 6 (by decide)).trans t6
  replace t15 := (ho 15 (by decide)).trans t15
  replace t16 := (ho 16 (by decide)).trans t16
  replace t17 := (ho 17 (by decide)).trans t17
  replace t95 := (ho 95 (by decide)).trans t95
  replace t99 := (ho 99 (by decide)).trans t99
  replace t103 := (ho 103 (by decide)).trans t103
  replace t112 := (ho 112 (by decide)).trans t112
  clear fr18 ho
  refine take1 19 114 _ (.int .i64 (k : Nat)) #[true, true, true, true, true, true, true, true, true, true, true, true, true, true, true, true, true, true, true, true, false, false, false, false, false, false, false, false] l5_20_i19 l5_20_d19 (by decide) l5_20_s l5_20_f19 l5_20_r19 l5_20_g19 rfl hS0 fr19 ?_ ?_
  · intro wx hx; obtain ⟨h0, h1⟩ := hx; simp only [execOp, l5_20_o19]; go_simp
  intro a20 fr20 t114 ho
  replace t0 := (ho 0 (by decide)).trans t0
  replace t1 := (ho 1 (by decide)).trans t1
  replace t2 := (ho 2 (by decide)).trans t2
  replace t3 := (ho 3 (by decide)).trans t3
  replace t4 := (ho 4 (by decide)).trans t4
  replace t5 := (ho 5 (by decide)).trans t5
  replace t6 := (ho 6 (by decide)).trans t6
  replace t15 := (ho 15 (by decide)).trans t15
  replace t16 := (ho 16 (by decide)).trans t16
  replace t17 := (ho 17 (by decide)).trans t17
  replace t95 := (ho 95 (by decide)).trans t95
  replace t99 := (ho 99 (by decide)).trans t99
  replace t103 := (ho 103 (by decide)).trans t103
  replace t112 := (ho 112 (by decide)).trans t112
  replace t113 := (ho 113 (by decide)).trans t113
  clear fr19 ho
  refine take1 20 115 _ (.int .i64 (m : Nat)) #[true, true, true, true, true, true, true, true, true, true, true, true, true, true, true, true, true, true, true, true, true, false, false, false, false, false, false, false] l5_20_i20 l5_20_d20 (by decide) l5_20_s l5_20_f20 l5_20_r20 l5_20_g20 rfl hS0 fr20 ?_ ?_
  · intro wx hx; obtain ⟨h0, h1⟩ := hx; simp only [execOp, l5_20_o20]; go_simp
  intro a21 fr21 t115 ho
  replace t0 := (ho 0 (by decide)).trans t0
  replace t1 := (ho 1 (by decide)).trans t1
  replace t2 := (ho 2 (by decide)).trans t2
  replace t3 := (ho 3 (by decide)).trans t3
  replace t4 := (ho 4 (by decide)).trans t4
  replace t5 := (ho 5 (by decide)).trans t5
  replace t6 := (ho 6 (by decide)).trans t6
  replace t15 := (ho 15 (by decide)).trans t15
  replace t16 := (ho 16 (by decide)).trans t16
  replace t17 := (ho 17 (by decide)).trans t17
  replace t95 := (ho 95 (by decide)).trans t95
  replace t99 := (ho 99 (by decide)).trans t99
  replace t103 := (ho 103 (by decide)).trans t103
  replace t112 := (ho 112 (by decide)).trans t112
  replace t113 := (ho 113 (by decide)).trans t113
  replace t114 := (ho 114 (by decide)).trans t114
  clear fr20 ho
  refine take1 21 116 _ (.int .i64 (lo : Nat)) #[true, true, true, true, true, true, true, true, true, true, true, true, true, true, true, true, true, true, true, true, true, true, false, false, false, false, false, false] l5_20_i21 l5_20_d21 (by decide) l5_20_s l5_20_f21 l5_20_r21 l5_20_g21 rfl hS0 fr21 ?_ ?_
  · intro wx hx; obtain ⟨h0, h1⟩ := hx; simp only [execOp, l5_20_o21]; go_simp
  intro a22 fr22 t116 ho
  replace t0 := (ho 0 (by decide)).trans t0
  replace t1 := (ho 1 (by decide)).trans t1
  replace t2 := (ho 2 (by decide)).trans t2
  replace t3 := (ho 3 (by decide)).trans t3
  replace t4 := (ho 4 (by decide)).trans t4
  replace t5 := (ho 5 (by decide)).trans t5
  replace t6 := (ho 6 (by decide)).trans t6
  replace t15 := (ho 15 (by decide)).trans t15
  replace t16 := (ho 16 (by decide)).trans t16
  replace t17 := (ho 17 (by decide)).trans t17
  replace t95 := (ho 95 (by decide)).trans t95
  replace t99 := (ho 99 (by decide)).trans t99
  replace t103 := (ho 103 (by decide)).trans t103
  replace t112 := (ho 112 (by decide)).trans t112
  replace t113 := (ho 113 (by decide)).trans t113
  replace t114 := (ho 114 (by decide)).trans t114
  replace t115 := (ho 115 (by decide)).trans t115
  clear fr21 ho
  clear t114 t115
  refine take1 22 117 _ (.int .i64 (k : Nat)) #[true, true, true, true, true, true, true, true, true, true, true, true, true, true, true, true, true, true, true, true, true, true, true, false, false, false, false, false] l5_20_i22 l5_20_d22 (by decide) l5_20_s l5_20_f22 l5_20_r22 l5_20_g22 rfl hS0 fr22 ?_ ?_
  · intro wx hx; obtain ⟨h0, h1⟩ := hx; simp only [execOp, l5_20_o22]; go_simp
  intro a23 fr23 t117 ho
  replace t0 := (ho 0 (by decide)).trans t0
  replace t1 := (ho 1 (by decide)).trans t1
  replace t2 := (ho 2 (by decide)).trans t2
  replace t3 := (ho 3 (by decide)).trans t3
  replace t4 := (ho 4 (by decide)).trans t4
  replace t5 := (ho 5 (by decide)).trans t5
  replace t6 := (ho 6 (by decide)).trans t6
  replace t15 := (ho 15 (by decide)).trans t15
  replace t16 := (ho 16 (by decide)).trans t16
  replace t17 := (ho 17 (by decide)).trans t17
  replace t95 := (ho 95 (by decide)).trans t95
  replace t99 := (ho 99 (by decide)).trans t99
  replace t103 := (ho 103 (by decide)).trans t103
  replace t112 := (ho 112 (by decide)).trans t112
  replace t113 := (ho 113 (by decide)).trans t113
  replace t116 := (ho 116 (by decide)).trans t116
  clear fr22 ho
  refine take1 23 118 _ (.int .i64 ((k : Nat) + 1)) #[true, true, true, true, true, true, true, true, true, true, true, true, true, true, true, true, true, true, true, true, true, true, true, true, false, false, false, false] l5_20_i23 l5_20_d23 (by decide) l5_20_s l5_20_f23 l5_20_r23 l5_20_g23 rfl hS0 fr23 ?_ ?_
  · intro wx hx; obtain ⟨h0, h1⟩ := hx; simp only [execOp, l5_20_o23]; go_simp
  intro a24 fr24 t118 ho
  replace t0 := (ho 0 (by decide)).trans t0
  replace t1 := (ho 1 (by decide)).trans t1
  replace t2 := (ho 2 (by decide)).trans t2
  replace t3 := (ho 3 (by decide)).trans t3
  replace t4 := (ho 4 (by decide)).trans t4
  replace t5 := (ho 5 (by decide)).trans t5
  replace t6 := (ho 6 (by decide)).trans t6
  replace t15 := (ho 15 (by decide)).trans t15
  replace t16 := (ho 16 (by decide)).trans t16
  replace t17 := (ho 17 (by decide)).trans t17
  replace t95 := (ho 95 (by decide)).trans t95
  replace t99 := (ho 99 (by decide)).trans t99
  replace t103 := (ho 103 (by decide)).trans t103
  replace t112 := (ho 112 (by decide)).trans t112
  replace t113 := (ho 113 (by decide)).trans t113
  replace t116 := (ho 116 (by decide)).trans t116
  replace t117 := (ho 117 (by decide)).trans t117
  clear fr23 ho
  clear t117
  refine take1 24 119 _ (.int .i64 (m : Nat)) #[true, true, true, true, true, true, true, true, true, true, true, true, true, true, true, true, true, true, true, true, true, true, true, true, true, false, false, false] l5_20_i24 l5_20_d24 (by decide) l5_20_s l5_20_f24 l5_20_r24 l5_20_g24 rfl hS0 fr24 ?_ ?_
  · intro wx hx; obtain ⟨h0, h1⟩ := hx; simp only [execOp, l5_20_o24]; go_simp
  intro a25 fr25 t119 ho
  replace t0 := (ho 0 (by decide)).trans t0
  replace t1 := (ho 1 (by decide)).trans t1
  replace t2 := (ho 2 (by decide)).trans t2
  replace t3 := (ho 3 (by decide)).trans t3
  replace t4 := (ho 4 (by decide)).trans t4
  replace t5 := (ho 5 (by decide)).trans t5
  replace t6 := (ho 6 (by decide)).trans t6
  replace t15 := (ho 15 (by decide)).trans t15
  replace t16 := (ho 16 (by decide)).trans t16
  replace t17 := (ho 17 (by decide)).trans t17
  replace t95 := (ho 95 (by decide)).trans t95
  replace t99 := (ho 99 (by decide)).trans t99
  replace t103 := (ho 103 (by decide)).trans t103
  replace t112 := (ho 112 (by decide)).trans t112
  replace t113 := (ho 113 (by decide)).trans t113
  replace t116 := (ho 116 (by decide)).trans t116
  replace t118 := (ho 118 (by decide)).trans t118
  clear fr24 ho
  refine take1 25 120 _ (.int .i64 (hi : Nat)) #[true, true, true, true, true, true, true, true, true, true, true, true, true, true, true, true, true, true, true, true, true, true, true, true, true, true, false, false] l5_20_i25 l5_20_d25 (by decide) l5_20_s l5_20_f25 l5_20_r25 l5_20_g25 rfl hS0 fr25 ?_ ?_
  · intro wx hx; obtain ⟨h0, h1⟩ := hx; simp only [execOp, l5_20_o25]; go_simp
  intro a26 fr26 t120 ho
  replace t0 := (ho 0 (by decide)).trans t0
  replace t1 := (ho 1 (by decide)).trans t1
  replace t2 := (ho 2 (by decide)).trans t2
  replace t3 := (ho 3 (by decide)).trans t3
  replace t4 := (ho 4 (by decide)).trans t4
  replace t5 := (ho 5 (by decide)).trans t5
  replace t6 := (ho 6 (by decide)).trans t6
  replace t15 := (ho 15 (by decide)).trans t15
  replace t16 := (ho 16 (by decide)).trans t16
  replace t17 := (ho 17 (by decide)).trans t17
  replace t95 := (ho 95 (by decide)).trans t95
  replace t99 := (ho 99 (by decide)).trans t99
  replace t103 := (ho 103 (by decide)).trans t103
  replace t112 := (ho 112 (by decide)).trans t112
  replace t113 := (ho 113 (by decide)).trans t113
  replace t116 := (ho 116 (by decide)).trans t116
  replace t118 := (ho 118 (by decide)).trans t118
  replace t119 := (ho 119 (by decide)).trans t119
  clear fr25 ho
  clear t118 t119
  refine take1 26 121 _ (.slice (some ⟨rb, lo, none⟩) (hi - lo) (I - lo)) #[true, true, true, true, true, true, true, true, true, true, true, true, true, true, true, true, true, true, true, true, true, true, true, true, true, true, true, false] l5_20_i26 l5_20_d26 (by decide) l5_20_s l5_20_f26 l5_20_r26 l5_20_g26 rfl hS0 fr26 ?_ ?_
  · intro wx hx; obtain ⟨h0, h1⟩ := hx; simp only [execOp, l5_20_o26]; go_simp
  intro a27 fr27 t121 ho
  replace t0 := (ho 0 (by decide)).trans t0
  replace t1 := (ho 1 (by decide)).trans t1
  replace t2 := (ho 2 (by decide)).trans t2
  replace t3 := (ho 3 (by decide)).trans t3
  replace t4 := (ho 4 (by decide)).trans t4
  replace t5 := (ho 5 (by decide)).trans t5
  replace t6 := (ho 6 (by decide)).trans t6
  replace t15 := (ho 15 (by decide)).trans t15
  replace t16 := (ho 16 (by decide)).trans t16
  replace t17 := (ho 17 (by decide)).trans t17
  replace t95 := (ho 95 (by decide)).trans t95
  replace t99 := (ho 99 (by decide)).trans t99
  replace t103 := (ho 103 (by decide)).trans t103
  replace t112 := (ho 112 (by decide)).trans t112
  replace t113 := (ho 113 (by decide)).trans t113
  replace t116 := (ho 116 (by decide)).trans t116
  replace t120 := (ho 120 (by decide)).trans t120
  clear fr26 ho
  clear t113 t116 t120
  refine only1 27 l5_20_r27 (actC 27 122 _ (.tuple #[]) 20 #[.pointer (some ⟨b1, 0, none⟩), .int .u64 p, .int .i64 ck, .slice (some ⟨ib, lo, none⟩) (hi - lo) (I - lo), .slice (some ⟨rb, lo, none⟩) (hi - lo) (I - lo)] G #[true, true, true, true, true, true, true, true, true, true, true, true, true, true, true, true, true, true, true, true, true, true, true, true, true, true, true, true] l5_20_i27 l5_20_d27 (by decide) l5_20_g27 rfl fr27 ?_ hcall ?_)
  · simp only [execOp, l5_20_o27]; clear hcall; go_simp
  intro aE wE hG frE tE ho
  replace t0 := (ho 0 (by decide)).trans t0
  replace t1 := (ho 1 (by decide)).trans t1
  replace t2 := (ho 2 (by decide)).trans t2
  replace t3 := (ho 3 (by decide)).trans t3
  replace t4 := (ho 4 (by decide)).trans t4
  replace t5 := (ho 5 (by decide)).trans t5
  replace t6 := (ho 6 (by decide)).trans t6
  replace t15 := (ho 15 (by decide)).trans t15
  replace t16 := (ho 16 (by decide)).trans t16
  replace t17 := (ho 17 (by decide)).trans t17
  refine wpAnyH_done l5_20_e ?_ _
  exact ⟨hG, frE, (sl_at _ _).trans t0, (sl_at _ _).trans t1, (sl_at _ _).trans t2, (sl_at _ _).trans t3, (sl_at _ _).trans t4, (sl_at _ _).trans t5, (sl_at _ _).trans t6, (sl_at _ _).trans t15, (sl_at _ _).trans t16, (sl_at _ _).trans t17, trivial⟩

theorem l5_21_s : Region.noSelect (regOps (tlC (inC (hdC (tlC (inC (inC (tlC (nthC 12 (bodyC Try.f5)))))))))) = true := by kernel_rfl
theorem l5_21_i0 : (regOps (tlC (inC (hdC (tlC (inC (inC (tlC (nthC 12 (bodyC Try.f5))))))))))[0]? = some (regOp (tlC (inC (hdC (tlC (inC (inC (tlC (nthC 12 (bodyC Try.f5))))))))) 0) := by kernel_rfl
theorem l5_21_d0 : (regOp (tlC (inC (hdC (tlC (inC (inC (tlC (nthC 12 (bodyC Try.f5))))))))) 0).dst = some 123 := by kernel_rfl
theorem l5_21_g0 : (regOp (tlC (inC (hdC (tlC (inC (inC (tlC (nthC 12 (bodyC Try.f5))))))))) 0).guard = none := by kernel_rfl
theorem l5_21_o0 : (regOp (tlC (inC (hdC (tlC (inC (inC (tlC (nthC 12 (bodyC Try.f5))))))))) 0).op = Op.move (.tmp 16) := by kernel_rfl
theorem l5_21_i1 : (regOps (tlC (inC (hdC (tlC (inC (inC (tlC (nthC 12 (bodyC Try.f5))))))))))[1]? = some (regOp (tlC (inC (hdC (tlC (inC (inC (tlC (nthC 12 (bodyC Try.f5))))))))) 1) := by kernel_rfl
theorem l5_21_d1 : (regOp (tlC (inC (hdC (tlC (inC (inC (tlC (nthC 12 (bodyC Try.f5))))))))) 1).dst = some 124 := by kernel_rfl
theorem l5_21_g1 : (regOp (tlC (inC (hdC (tlC (inC (inC (tlC (nthC 12 (bodyC Try.f5))))))))) 1).guard = none := by kernel_rfl
theorem l5_21_o1 : (regOp (tlC (inC (hdC (tlC (inC (inC (tlC (nthC 12 (bodyC Try.f5))))))))) 1).op = Op.move (.tmp 3) := by kernel_rfl
theorem l5_21_i2 : (regOps (tlC (inC (hdC (tlC (inC (inC (tlC (nthC 12 (bodyC Try.f5))))))))))[2]? = some (regOp (tlC (inC (hdC (tlC (inC (inC (tlC (nthC 12 (bodyC Try.f5))))))))) 2) := by kernel_rfl
theorem l5_21_d2 : (regOp (tlC (inC (hdC (tlC (inC (inC (tlC (nthC 12 (bodyC Try.f5))))))))) 2).dst = some 125 := by kernel_rfl
theorem l5_21_g2 : (regOp (tlC (inC (hdC (tlC (inC (inC (tlC (nthC 12 (bodyC Try.f5))))))))) 2).guard = none := by kernel_rfl
theorem l5_21_o2 : (regOp (tlC (inC (hdC (tlC (inC (inC (tlC (nthC 12 (bodyC Try.f5))))))))) 2).op = Op.move (.tmp 17) := by kernel_rfl
theorem l5_21_i3 : (regOps (tlC (inC (hdC (tlC (inC (inC (tlC (nthC 12 (bodyC Try.f5))))))))))[3]? = some (regOp (tlC (inC (hdC (tlC (inC (inC (tlC (nthC 12 (bodyC Try.f5))))))))) 3) := by kernel_rfl
theorem l5_21_d3 : (regOp (tlC (inC (hdC (tlC (inC (inC (tlC (nthC 12 (bodyC Try.f5))))))))) 3).dst = some 126 := by kernel_rfl
theorem l5_21_g3 : (regOp (tlC (inC (hdC (tlC (inC (inC (tlC (nthC 12 (bodyC Try.f5))))))))) 3).guard = none := by kernel_rfl
theorem l5_21_o3 : (regOp (tlC (inC (hdC (tlC (inC (inC (tlC (nthC 12 (bodyC Try.f5))))))))) 3).op = Op.indexAddr 23 (.tmp 124) (.tmp 125) := by kernel_rfl
theorem l5_21_i4 : (regOps (tlC (inC (hdC (tlC (inC (inC (tlC (nthC 12 (bodyC Try.f5))))))))))[4]? = some (regOp (tlC (inC (hdC (tlC (inC (inC (tlC (nthC 12 (bodyC Try.f5))))))))) 4) := by kernel_rfl
theorem l5_21_d4 : (regOp (tlC (inC (hdC (tlC (inC (inC (tlC (nthC 12 (bodyC Try.f5))))))))) 4).dst = some 127 := by kernel_rfl
theorem l5_21_g4 : (regOp (tlC (inC (hdC (tlC (inC (inC (tlC (nthC 12 (bodyC Try.f5))))))))) 4).guard = none := by kernel_rfl
theorem l5_21_o4 : (regOp (tlC (inC (hdC (tlC (inC (inC (tlC (nthC 12 (bodyC Try.f5))))))))) 4).op = Op.load 31 (.tmp 126) := by kernel_rfl
theorem l5_21_i5 : (regOps (tlC (inC (hdC (tlC (inC (inC (tlC (nthC 12 (bodyC Try.f5))))))))))[5]? = some (regOp (tlC (inC (hdC (tlC (inC (inC (tlC (nthC 12 (bodyC Try.f5))))))))) 5) := by kernel_rfl
theorem l5_21_d5 : (regOp (tlC (inC (hdC (tlC (inC (inC (tlC (nthC 12 (bodyC Try.f5))))))))) 5).dst = some 128 := by kernel_rfl
theorem l5_21_g5 : (regOp (tlC (inC (hdC (tlC (inC (inC (tlC (nthC 12 (bodyC Try.f5))))))))) 5).guard = none := by kernel_rfl
theorem l5_21_o5 : (regOp (tlC (inC (hdC (tlC (inC (inC (tlC (nthC 12 (bodyC Try.f5))))))))) 5).op = Op.move (.tmp 4) := by kernel_rfl
theorem l5_21_i6 : (regOps (tlC (inC (hdC (tlC (inC (inC (tlC (nthC 12 (bodyC Try.f5))))))))))[6]? = some (regOp (tlC (inC (hdC (tlC (inC (inC (tlC (nthC 12 (bodyC Try.f5))))))))) 6) := by kernel_rfl
theorem l5_21_d6 : (regOp (tlC (inC (hdC (tlC (inC (inC (tlC (nthC 12 (bodyC Try.f5))))))))) 6).dst = some 129 := by kernel_rfl
theorem l5_21_g6 : (regOp (tlC (inC (hdC (tlC (inC (inC (tlC (nthC 12 (bodyC Try.f5))))))))) 6).guard = none := by kernel_rfl
theorem l5_21_o6 : (regOp (tlC (inC (hdC (tlC (inC (inC (tlC (nthC 12 (bodyC Try.f5))))))))) 6).op = Op.move (.tmp 17) := by kernel_rfl
theorem l5_21_i7 : (regOps (tlC (inC (hdC (tlC (inC (inC (tlC (nthC 12 (bodyC Try.f5))))))))))[7]? = some (regOp (tlC (inC (hdC (tlC (inC (inC (tlC (nthC 12 (bodyC Try.f5))))))))) 7) := by kernel_rfl
theorem l5_21_d7 : (regOp (tlC (inC (hdC (tlC (inC (inC (tlC (nthC 12 (bodyC Try.f5))))))))) 7).dst = some 130 := by kernel_rfl
theorem l5_21_g7 : (regOp (tlC (inC (hdC (tlC (inC (inC (tlC (nthC 12 (bodyC Try.f5))))))))) 7).guard = none := by kernel_rfl
theorem l5_21_o7 : (regOp (tlC (inC (hdC (tlC (inC (inC (tlC (nthC 12 (bodyC Try.f5))))))))) 7).op = Op.indexAddr 55 (.tmp 128) (.tmp 129) := by kernel_rfl
theorem l5_21_i8 : (regOps (tlC (inC (hdC (tlC (inC (inC (tlC (nthC 12 (bodyC Try.f5))))))))))[8]? = some (regOp (tlC (inC (hdC (tlC (inC (inC (tlC (nthC 12 (bodyC Try.f5))))))))) 8) := by kernel_rfl
theorem l5_21_d8 : (regOp (tlC (inC (hdC (tlC (inC (inC (tlC (nthC 12 (bodyC Try.f5))))))))) 8).dst = some 131 := by kernel_rfl
theorem l5_21_g8 : (regOp (tlC (inC (hdC (tlC (inC (inC (tlC (nthC 12 (bodyC Try.f5))))))))) 8).guard = none := by kernel_rfl
theorem l5_21_o8 : (regOp (tlC (inC (hdC (tlC (inC (inC (tlC (nthC 12 (bodyC Try.f5))))))))) 8).op = Op.load 3 (.tmp 130) := by kernel_rfl
theorem l5_21_i9 : (regOps (tlC (inC (hdC (tlC (inC (inC (tlC (nthC 12 (bodyC Try.f5))))))))))[9]? = some (regOp (tlC (inC (hdC (tlC (inC (inC (tlC (nthC 12 (bodyC Try.f5))))))))) 9) := by kernel_rfl
theorem l5_21_d9 : (regOp (tlC (inC (hdC (tlC (inC (inC (tlC (nthC 12 (bodyC Try.f5))))))))) 9).dst = some 132 := by kernel_rfl
theorem l5_21_g9 : (regOp (tlC (inC (hdC (tlC (inC (inC (tlC (nthC 12 (bodyC Try.f5))))))))) 9).guard = none := by kernel_rfl
theorem l5_21_o9 : (regOp (tlC (inC (hdC (tlC (inC (inC (tlC (nthC 12 (bodyC Try.f5))))))))) 9).op = Op.move (.tmp 5) := by kernel_rfl
theorem l5_21_i10 : (regOps (tlC (inC (hdC (tlC (inC (inC (tlC (nthC 12 (bodyC Try.f5))))))))))[10]? = some (regOp (tlC (inC (hdC (tlC (inC (inC (tlC (nthC 12 (bodyC Try.f5))))))))) 10) := by kernel_rfl
theorem l5_21_d10 : (regOp (tlC (inC (hdC (tlC (inC (inC (tlC (nthC 12 (bodyC Try.f5))))))))) 10).dst = some 133 := by kernel_rfl
theorem l5_21_g10 : (regOp (tlC (inC (hdC (tlC (inC (inC (tlC (nthC 12 (bodyC Try.f5))))))))) 10).guard = none := by kernel_rfl
theorem l5_21_o10 : (regOp (tlC (inC (hdC (tlC (inC (inC (tlC (nthC 12 (bodyC Try.f5))))))))) 10).op = Op.move (.tmp 17) := by kernel_rfl
theorem l5_21_i11 : (regOps (tlC (inC (hdC (tlC (inC (inC (tlC (nthC 12 (bodyC Try.f5))))))))))[11]? = some (regOp (tlC (inC (hdC (tlC (inC (inC (tlC (nthC 12 (bodyC Try.f5))))))))) 11) := by kernel_rfl
theorem l5_21_d11 : (regOp (tlC (inC (hdC (tlC (inC (inC (tlC (nthC 12 (bodyC Try.f5))))))))) 11).dst = some 134 := by kernel_rfl
theorem l5_21_g11 : (regOp (tlC (inC (hdC (tlC (inC (inC (tlC (nthC 12 (bodyC Try.f5))))))))) 11).guard = none := by kernel_rfl
theorem l5_21_o11 : (regOp (tlC (inC (hdC (tlC (inC (inC (tlC (nthC 12 (bodyC Try.f5))))))))) 11).op = Op.move (.tmp 2) := by kernel_rfl
theorem l5_21_i12 : (regOps (tlC (inC (hdC (tlC (inC (inC (tlC (nthC 12 (bodyC Try.f5))))))))))[12]? = some (regOp (tlC (inC (hdC (tlC (inC (inC (tlC (nthC 12 (bodyC Try.f5))))))))) 12) := by kernel_rfl
theorem l5_21_d12 : (regOp (tlC (inC (hdC (tlC (inC (inC (tlC (nthC 12 (bodyC Try.f5))))))))) 12).dst = some 135 := by kernel_rfl
theorem l5_21_g12 : (regOp (tlC (inC (hdC (tlC (inC (inC (tlC (nthC 12 (bodyC Try.f5))))))))) 12).guard = none := by kernel_rfl
theorem l5_21_o12 : (regOp (tlC (inC (hdC (tlC (inC (inC (tlC (nthC 12 (bodyC Try.f5))))))))) 12).op = Op.binOp .mul 3 (.tmp 133) (.tmp 134) 3 := by kernel_rfl
theorem l5_21_i13 : (regOps (tlC (inC (hdC (tlC (inC (inC (tlC (nthC 12 (bodyC Try.f5))))))))))[13]? = some (regOp (tlC (inC (hdC (tlC (inC (inC (tlC (nthC 12 (bodyC Try.f5))))))))) 13) := by kernel_rfl
theorem l5_21_d13 : (regOp (tlC (inC (hdC (tlC (inC (inC (tlC (nthC 12 (bodyC Try.f5))))))))) 13).dst = some 136 := by kernel_rfl
theorem l5_21_g13 : (regOp (tlC (inC (hdC (tlC (inC (inC (tlC (nthC 12 (bodyC Try.f5))))))))) 13).guard = none := by kernel_rfl
theorem l5_21_o13 : (regOp (tlC (inC (hdC (tlC (inC (inC (tlC (nthC 12 (bodyC Try.f5))))))))) 13).op = Op.move (.tmp 17) := by kernel_rfl
theorem l5_21_i14 : (regOps (tlC (inC (hdC (tlC (inC (inC (tlC (nthC 12 (bodyC Try.f5))))))))))[14]? = some (regOp (tlC (inC (hdC (tlC (inC (inC (tlC (nthC 12 (bodyC Try.f5))))))))) 14) := by kernel_rfl
theorem l5_21_d14 : (regOp (tlC (inC (hdC (tlC (inC (inC (tlC (nthC 12 (bodyC Try.f5))))))))) 14).dst = some 137 := by kernel_rfl
theorem l5_21_g14 : (regOp (tlC (inC (hdC (tlC (inC (inC (tlC (nthC 12 (bodyC Try.f5))))))))) 14).guard = none := by kernel_rfl
theorem l5_21_o14 : (regOp (tlC (inC (hdC (tlC (inC (inC (tlC (nthC 12 (bodyC Try.f5))))))))) 14).op = Op.binOp .add 3 (.tmp 136) (.const (.int .i64 1)) 3 := by kernel_rfl
theorem l5_21_i15 : (regOps (tlC (inC (hdC (tlC (inC (inC (tlC (nthC 12 (bodyC Try.f5))))))))))[15]? = some (regOp (tlC (inC (hdC (tlC (inC (inC (tlC (nthC 12 (bodyC Try.f5))))))))) 15) := by kernel_rfl
theorem l5_21_d15 : (regOp (tlC (inC (hdC (tlC (inC (inC (tlC (nthC 12 (bodyC Try.f5))))))))) 15).dst = some 138 := by kernel_rfl
theorem l5_21_g15 : (regOp (tlC (inC (hdC (tlC (inC (inC (tlC (nthC 12 (bodyC Try.f5))))))))) 15).guard = none := by kernel_rfl
theorem l5_21_o15 : (regOp (tlC (inC (hdC (tlC (inC (inC (tlC (nthC 12 (bodyC Try.f5))))))))) 15).op = Op.move (.tmp 2) := by kernel_rfl
theorem l5_21_i16 : (regOps (tlC (inC (hdC (tlC (inC (inC (tlC (nthC 12 (bodyC Try.f5))))))))))[16]? = some (regOp (tlC (inC (hdC (tlC (inC (inC (tlC (nthC 12 (bodyC Try.f5))))))))) 16) := by kernel_rfl
theorem l5_21_d16 : (regOp (tlC (inC (hdC (tlC (inC (inC (tlC (nthC 12 (bodyC Try.f5))))))))) 16).dst = some 139 := by kernel_rfl
theorem l5_21_g16 : (regOp (tlC (inC (hdC (tlC (inC (inC (tlC (nthC 12 (bodyC Try.f5))))))))) 16).guard = none := by kernel_rfl
theorem l5_21_o16 : (regOp (tlC (inC (hdC (tlC (inC (inC (tlC (nthC 12 (bodyC Try.f5))))))))) 16).op = Op.binOp .mul 3 (.tmp 137) (.tmp 138) 3 := by kernel_rfl
theorem l5_21_i17 : (regOps (tlC (inC (hdC (tlC (inC (inC (tlC (nthC 12 (bodyC Try.f5))))))))))[17]? = some (regOp (tlC (inC (hdC (tlC (inC (inC (tlC (nthC 12 (bodyC Try.f5))))))))) 17) := by kernel_rfl
theorem l5_21_d17 : (regOp (tlC (inC (hdC (tlC (inC (inC (tlC (nthC 12 (bodyC Try.f5))))))))) 17).dst = some 140 := by kernel_rfl
theorem l5_21_g17 : (regOp (tlC (inC (hdC (tlC (inC (inC (tlC (nthC 12 (bodyC Try.f5))))))))) 17).guard = none := by kernel_rfl
theorem l5_21_o17 : (regOp (tlC (inC (hdC (tlC (inC (inC (tlC (nthC 12 (bodyC Try.f5))))))))) 17).op = Op.slice 56 (.tmp 132) (some (.tmp 135)) (some (.tmp 139)) none := by kernel_rfl
theorem l5_21_i18 : (regOps (tlC (inC (hdC (tlC (inC (inC (tlC (nthC 12 (bodyC Try.f5))))))))))[18]? = some (regOp (tlC (inC (hdC (tlC (inC (inC (tlC (nthC 12 (bodyC Try.f5))))))))) 18) := by kernel_rfl
theorem l5_21_d18 : (regOp (tlC (inC (hdC (tlC (inC (inC (tlC (nthC 12 (bodyC Try.f5))))))))) 18).dst = some 141 := by kernel_rfl
theorem l5_21_g18 : (regOp (tlC (inC (hdC (tlC (inC (inC (tlC (nthC 12 (bodyC Try.f5))))))))) 18).guard = none := by kernel_rfl
theorem l5_21_o18 : (regOp (tlC (inC (hdC (tlC (inC (inC (tlC (nthC 12 (bodyC Try.f5))))))))) 18).op = Op.move (.tmp 6) := by kernel_rfl
theorem l5_21_i19 : (regOps (tlC (inC (hdC (tlC (inC (inC (tlC (nthC 12 (bodyC Try.f5))))))))))[19]? = some (regOp (tlC (inC (hdC (tlC (inC (inC (tlC (nthC 12 (bodyC Try.f5))))))))) 19) := by kernel_rfl
theorem l5_21_d19 : (regOp (tlC (inC (hdC (tlC (inC (inC (tlC (nthC 12 (bodyC Try.f5))))))))) 19).dst = some 142 := by kernel_rfl
theorem l5_21_g19 : (regOp (tlC (inC (hdC (tlC (inC (inC (tlC (nthC 12 (bodyC Try.f5))))))))) 19).guard = none := by kernel_rfl
theorem l5_21_o19 : (regOp (tlC (inC (hdC (tlC (inC (inC (tlC (nthC 12 (bodyC Try.f5))))))))) 19).op = Op.move (.tmp 17) := by kernel_rfl
theorem l5_21_i20 : (regOps (tlC (inC (hdC (tlC (inC (inC (tlC (nthC 12 (bodyC Try.f5))))))))))[20]? = some (regOp (tlC (inC (hdC (tlC (inC (inC (tlC (nthC 12 (bodyC Try.f5))))))))) 20) := by kernel_rfl
theorem l5_21_d20 : (regOp (tlC (inC (hdC (tlC (inC (inC (tlC (nthC 12 (bodyC Try.f5))))))))) 20).dst = some 143 := by kernel_rfl
theorem l5_21_g20 : (regOp (tlC (inC (hdC (tlC (inC (inC (tlC (nthC 12 (bodyC Try.f5))))))))) 20).guard = none := by kernel_rfl
theorem l5_21_o20 : (regOp (tlC (inC (hdC (tlC (inC (inC (tlC (nthC 12 (bodyC Try.f5))))))))) 20).op = Op.move (.tmp 2) := by kernel_rfl
theorem l5_21_i21 : (regOps (tlC (inC (hdC (tlC (inC (inC (tlC (nthC 12 (bodyC Try.f5))))))))))[21]? = some (regOp (tlC (inC (hdC (tlC (inC (inC (tlC (nthC 12 (bodyC Try.f5))))))))) 21) := by kernel_rfl
theorem l5_21_d21 : (regOp (tlC (inC (hdC (tlC (inC (inC (tlC (nthC 12 (bodyC Try.f5))))))))) 21).dst = some 144 := by kernel_rfl
theorem l5_21_g21 : (regOp (tlC (inC (hdC (tlC (inC (inC (tlC (nthC 12 (bodyC Try.f5))))))))) 21).guard = none := by kernel_rfl
theorem l5_21_o21 : (regOp (tlC (inC (hdC (tlC (inC (inC (tlC (nthC 12 (bodyC Try.f5))))))))) 21).op = Op.binOp .mul 3 (.tmp 142) (.tmp 143) 3 := by kernel_rfl
theorem l5_21_i22 : (regOps (tlC (inC (hdC (tlC (inC (inC (tlC (nthC 12 (bodyC Try.f5))))))))))[22]? = some (regOp (tlC (inC (hdC (tlC (inC (inC (tlC (nthC 12 (bodyC Try.f5))))))))) 22) := by kernel_rfl
theorem l5_21_d22 : (regOp (tlC (inC (hdC (tlC (inC (inC (tlC (nthC 12 (bodyC Try.f5))))))))) 22).dst = some 145 := by kernel_rfl
theorem l5_21_g22 : (regOp (tlC (inC (hdC (tlC (inC (inC (tlC (nthC 12 (bodyC Try.f5))))))))) 22).guard = none := by kernel_rfl
theorem l5_21_o22 : (regOp (tlC (inC (hdC (tlC (inC (inC (tlC (nthC 12 (bodyC Try.f5))))))))) 22).op = Op.move (.tmp 17) := by kernel_rfl
theorem l5_21_i23 : (regOps (tlC (inC (hdC (tlC (inC (inC (tlC (nthC 12 (bodyC Try.f5))))))))))[23]? = some (regOp (tlC (inC (hdC (tlC (inC (inC (tlC (nthC 12 (bodyC Try.f5))))))))) 23) := by kernel_rfl
theorem l5_21_d23 : (regOp (tlC (inC (hdC (tlC (inC (inC (tlC (nthC 12 (bodyC Try.f5))))))))) 23).dst = some 146 := by kernel_rfl
theorem l5_21_g23 : (regOp (tlC (inC (hdC (tlC (inC (inC (tlC (nthC 12 (bodyC Try.f5))))))))) 23).guard = none := by kernel_rfl
theorem l5_21_o23 : (regOp (tlC (inC (hdC (tlC (inC (inC (tlC (nthC 12 (bodyC Try.f5))))))))) 23).op = Op.binOp .add 3 (.tmp 145) (.const (.int .i64 1)) 3 := by kernel_rfl
theorem l5_21_i24 : (regOps (tlC (inC (hdC (tlC (inC (inC (tlC (nthC 12 (bodyC Try.f5))))))))))[24]? = some (regOp (tlC (inC (hdC (tlC (inC (inC (tlC (nthC 12 (bodyC Try.f5))))))))) 24) := by kernel_rfl
theorem l5_21_d24 : (regOp (tlC (inC (hdC (tlC (inC (inC (tlC (nthC 12 (bodyC Try.f5))))))))) 24).dst = some 147 := by kernel_rfl
theorem l5_21_g24 : (regOp (tlC (inC (hdC (tlC (inC (inC (tlC (nthC 12 (bodyC Try.f5))))))))) 24).guard = none := by kernel_rfl
theorem l5_21_o24 : (regOp (tlC (inC (hdC (tlC (inC (inC (tlC (nthC 12 (bodyC Try.f5))))))))) 24).op = Op.move (.tmp 2) := by kernel_rfl
theorem l5_21_i25 : (regOps (tlC (inC (hdC (tlC (inC (inC (tlC (nthC 12 (bodyC Try.f5))))))))))[25]? = some (regOp (tlC (inC (hdC (tlC (inC (inC (tlC (nthC 12 (bodyC Try.f5))))))))) 25) := by kernel_rfl
theorem l5_21_d25 : (regOp (tlC (inC (hdC (tlC (inC (inC (tlC (nthC 12 (bodyC Try.f5))))))))) 25).dst = some 148 := by kernel_rfl
theorem l5_21_g25 : (regOp (tlC (inC (hdC (tlC (inC (inC (tlC (nthC 12 (bodyC Try.f5))))))))) 25).guard = none := by kernel_rfl
theorem l5_21_o25 : (regOp (tlC (inC (hdC (tlC (inC (inC (tlC (nthC 12 (bodyC Try.f5))))))))) 25).op = Op.binOp .mul 3 (.tmp 146) (.tmp 147) 3 := by kernel_rfl
theorem l5_21_i26 : (regOps (tlC (inC (hdC (tlC (inC (inC (tlC (nthC 12 (bodyC Try.f5))))))))))[26]? = some (regOp (tlC (inC (hdC (tlC (inC (inC (tlC (nthC 12 (bodyC Try.f5))))))))) 26) := by kernel_rfl
theorem l5_21_d26 : (regOp (tlC (inC (hdC (tlC (inC (inC (tlC (nthC 12 (bodyC Try.f5))))))))) 26).dst = some 149 := by kernel_rfl
theorem l5_21_g26 : (regOp (tlC (inC (hdC (tlC (inC (inC (tlC (nthC 12 (bodyC Try.f5))))))))) 26).guard = none := by kernel_rfl
theorem l5_21_o26 : (regOp (tlC (inC (hdC (tlC (inC (inC (tlC (nthC 12 (bodyC Try.f5))))))))) 26).op = Op.slice 56 (.tmp 141) (some (.tmp 144)) (some (.tmp 148)) none := by kernel_rfl
theorem l5_21_i27 : (regOps (tlC (inC (hdC (tlC (inC (inC (tlC (nthC 12 (bodyC Try.f5))))))))))[27]? = some (regOp (tlC (inC (hdC (tlC (inC (inC (tlC (nthC 12 (bodyC Try.f5))))))))) 27) := by kernel_rfl
theorem l5_21_d27 : (regOp (tlC (inC (hdC (tlC (inC (inC (tlC (nthC 12 (bodyC Try.f5))))))))) 27).dst = some 150 := by kernel_rfl
theorem l5_21_g27 : (regOp (tlC (inC (hdC (tlC (inC (inC (tlC (nthC 12 (bodyC Try.f5))))))))) 27).guard = none := by kernel_rfl
theorem l5_21_o27 : (regOp (tlC (inC (hdC (tlC (inC (inC (tlC (nthC 12 (bodyC Try.f5))))))))) 27).op = Op.call { callee := .value (.func 20), args := #[.tmp 123, .tmp 127, .tmp 131, .tmp 140, .tmp 149], argTypes := #[61, 31, 3, 56, 56] } := by kernel_rfl
theorem l5_21_f0 : Region.free .any (regOps (tlC (inC (hdC (tlC (inC (inC (tlC (nthC 12 (bodyC Try.f5)))))))))) #[false, false, false, false, false, false, false, false, false, false, false, false, false, false, false, false, false, false, false, false, false, false, false, false, false, false, false, false] 0 = true := by kernel_rfl
theorem l5_21_r0 : (Region.ready .any (regOps (tlC (inC (hdC (tlC (inC (inC (tlC (nthC 12 (bodyC Try.f5)))))))))) #[false, false, false, false, false, false, false, false, false, false, false, false, false, false, false, false, false, false, false, false, false, false, false, false, false, false, false, false]).contains 0 = true := by kernel_rfl
theorem l5_21_f1 : Region.free .any (regOps (tlC (inC (hdC (tlC (inC (inC (tlC (nthC 12 (bodyC Try.f5)))))))))) #[true, false, false, false, false, false, false, false, false, false, false, false, false, false, false, false, false, false, false, false, false, false, false, false, false, false, false, false] 1 = true := by kernel_rfl
theorem l5_21_r1 : (Region.ready .any (regOps (tlC (inC (hdC (tlC (inC (inC (tlC (nthC 12 (bodyC Try.f5)))))))))) #[true, false, false, false, false, false, false, false, false, false, false, false, false, false, false, false, false, false, false, false, false, false, false, false, false, false, false, false]).contains 1 = true := by kernel_rfl
theorem l5_21_f2 : Region.free .any (regOps (tlC (inC (hdC (tlC (inC (inC (tlC (nthC 12 (bodyC Try.f5)))))))))) #[true, true, false, false, false, false, false, false, false, false, false, false, false, false, false, false, false, false, false, false, false, false, false, false, false, false, false, false] 2 = true := by kernel_rfl
theorem l5_21_r2 : (Region.ready .any (regOps (tlC (inC (hdC (tlC (inC (inC (tlC (nthC 12 (bodyC Try.f5)))))))))) #[true, true, false, false, false, false, false, false, false, false, false, false, false, false, false, false, false, false, false, false, false, false, false, false, false, false, false, false]).contains 2 = true := by kernel_rfl
theorem l5_21_f3 : Region.free .any (regOps (tlC (inC (hdC (tlC (inC (inC (tlC (nthC 12 (bodyC Try.f5)))))))))) #[true, true, true, false, false, false, false, false, false, false, false, false, false, false, false, false, false, false, false, false, false, false, false, false, false, false, false, false] 3 = true := by kernel_rfl
theorem l5_21_r3 : (Region.ready .any (regOps (tlC (inC (hdC (tlC (inC (inC (tlC (nthC 12 (bodyC Try.f5)))))))))) #[true, true, true, false, false, false, false, false, false, false, false, false, false, false, false, false, false, false, false, false, false, false, false, false, false, false, false, false]).contains 3 = true := by kernel_rfl
theorem l5_21_f4 : Region.free .any (regOps (tlC (inC (hdC (tlC (inC (inC (tlC (nthC 12 (bodyC Try.f5)))))))))) #[true, true, true, true, false, false, false, false, false, false, false, false, false, false, false, false, false, false, false, false, false, false, false, false, false, false, false, false] 4 = true := by kernel_rfl
theorem l5_21_r4 : (Region.ready .any (regOps (tlC (inC (hdC (tlC (inC (inC (tlC (nthC 12 (bodyC Try.f5)))))))))) #[true, true, true, true, false, false, false, false, false, false, false, false, false, false, false, false, false, false, false, false, false, false, false, false, false, false, false, false]).contains 4 = true := by kernel_rfl
theorem l5_21_f5 : Region.free .any (regOps (tlC (inC (hdC (tlC (inC (inC (tlC (nthC 12 (bodyC Try.f5)))))))))) #[true, true, true, true, true, false, false, false, false, false, false, false, false, false, false, false, false, false, false, false, false, false, false, false, false, false, false, false] 5 = true := by kernel_rfl
theorem l5_21_r5 : (Region.ready .any (regOps (tlC (inC (hdC (tlC (inC (inC (tlC (nthC 12 (bodyC Try.f5)))))))))) #[true, true, true, true, true, false, false, false, false, false, false, false, false, false, false, false, false, false, false, false, false, false, false, false, false, false, false, false]).contains 5 = true := by kernel_rfl
theorem l5_21_f6 : Region.free .any (regOps (tlC (inC (hdC (tlC (inC (inC (tlC (nthC 12 (bodyC Try.f5)))))))))) #[true, true, true, true, true, true, false, false, false, false, false, false, false, false, false, false, false, false, false, false, false, false, false, false, false, false, false, false] 6 = true := by kernel_rfl
theorem l5_21_r6 : (Region.ready .any (regOps (tlC (inC (hdC (tlC (inC (inC (tlC (nthC 12 (bodyC Try.f5)))))))))) #[true, true, true, true, true, true, false, false, false, false, false, false, false, false, false, false, false, false, false, false, false, false, false, false, false, false, false, false]).contains 6 = true := by kernel_rfl
theorem l5_21_f7 : Region.free .any (regOps (tlC (inC (hdC (tlC (inC (inC (tlC (nthC 12 (bodyC Try.f5)))))))))) #[true, true, true, true, true, true, true, false, false, false, false, false, false, false, false, false, false, false, false, false, false, false, false, false, false, false, false, false] 7 = true := by kernel_rfl
theorem l5_21_r7 : (Region.ready .any (regOps (tlC (inC (hdC (tlC (inC (inC (tlC (nthC 12 (bodyC Try.f5)))))))))) #[true, true, true, true, true, true, true, false, false, false, false, false, false, false, false, false, false, false, false, false, false, false, false, false, false, false, false, false]).contains 7 = true := by kernel_rfl
theorem l5_21_f8 : Region.free .any (regOps (tlC (inC (hdC (tlC (inC (inC (tlC (nthC 12 (bodyC Try.f5)))))))))) #[true, true, true, true, true, true, true, true, false, false, false, false, false, false, false, false, false, false, false, false, false, false, false, false, false, false, false, false] 8 = true := by kernel_rfl
theorem l5_21_r8 : (Region.ready .any (regOps (tlC (inC (hdC (tlC (inC (inC (tlC (nthC 12 (bodyC Try.f5)))))))))) #[true, true, true, true, true, true, true, true, false, false, false, false, false, false, false, false, false, false, false, false, false, false, false, false, false, false, false, false]).contains 8 = true := by kernel_rfl
theorem l5_21_f9 : Region.free .any (regOps (tlC (inC (hdC (tlC (inC (inC (tlC (nthC 12 (bodyC Try.f5)))))))))) #[true, true, true, true, true, true, true, true, true, false, false, false, false, false, false, false, false, false, false, false, false, false, false, false, false, false, false, false] 9 = true := by kernel_rfl
theorem l5_21_r9 : (Region.ready .any (regOps (tlC (inC (hdC (tlC (inC (inC (tlC (nthC 12 (bodyC Try.f5)))))))))) #[true, true, true, true, true, true, true, true, true, false, false, false, false, false, false, false, false, false, false, false, false, false, false, false, false, false, false, false]).contains 9 = true := by kernel_rfl
theorem l5_21_f10 : Region.free .any (regOps (tlC (inC (hdC (tlC (inC (inC (tlC (nthC 12 (bodyC Try.f5)))))))))) #[true, true, true, true, true, true, true, true, true, true, false, false, false, false, false, false, false, false, false, false, false, false, false, false, false, false, false, false] 10 = true := by kernel_rfl
theorem l5_21_r10 : (Region.ready .any (regOps (tlC (inC (hdC (tlC (inC (inC (tlC (nthC 12 (bodyC Try.f5)))))))))) #[true, true, true, true, true, true, true, true, true, true, false, false, false, false, false, false, false, false, false, false, false, false, false, false, false, false, false, false]).contains 10 = true := by kernel_rfl
theorem l5_21_f11 : Region.free .any (regOps (tlC (inC (hdC (tlC (inC (inC (tlC (nthC 12 (bodyC Try.f5)))))))))) #[true, true, true, true, true, true, true, true, true, true, true, false, false, false, false, false, false, false, false, false, false, false, false, false, false, false, false, false] 11 = true := by kernel_rfl
theorem l5_21_r11 : (Region.ready .any (regOps (tlC (inC (hdC (tlC (inC (inC (tlC (nthC 12 (bodyC Try.f5)))))))))) #[true, true, true, true, true, true, true, true, true, true, true, false, false, false, false, false, false, false, false, false, false, false, false, false, false, false, false, false]).contains 11 = true := by kernel_rfl
theorem l5_21_f12 : Region.free .any (regOps (tlC (inC (hdC (tlC (inC (inC (tlC (nthC 12 (bodyC Try.f5)))))))))) #[true, true, true, true, true, true, true, true, true, true, true, true, false, false, false, false, false, false, false, false, false, false, false, false, false, false, false, false] 12 = true := by kernel_rfl
theorem l5_21_r12 : (Region.ready .any (regOps (tlC (inC (hdC (tlC (inC (inC (tlC (nthC 12 (bodyC Try.f5)))))))))) #[true, true, true, true, true, true, true, true, true, true, true, true, false, false, false, false, false, false, false, false, false, false, false, false, false, false, false, false]).contains 12 = true := by kernel_rfl
theorem l5_21_f13 : Region.free .any (regOps (tlC (inC (hdC (tlC (inC (inC (tlC (nthC 12 (bodyC Try.f5)))))))))) #[true, true, true, true, true, true, true, true, true, true, true, true, true, false, false, false, false, false, false, false, false, false, false, false, false, false, false, false] 13 = true := by kernel_rfl
theorem l5_21_r13 : (Region.ready .any (regOps (tlC (inC (hdC (tlC (inC (inC (tlC (nthC 12 (bodyC Try.f5)))))))))) #[true, true, true, true, true, true, true, true, true, true, true, true, true, false, false, false, false, false, false, false, false, false, false, false, false, false, false, false]).contains 13 = true := by kernel_rfl
theorem l5_21_f14 : Region.free .any (regOps (tlC (inC (hdC (tlC (inC (inC (tlC (nthC 12 (bodyC Try.f5)))))))))) #[true, true, true, true, true, true, true, true, true, true, true, true, true, true, false, false, false, false, false, false, false, false, false, false, false, false, false, false] 14 = true := by kernel_rfl
theorem l5_21_r14 : (Region.ready .any (regOps (tlC (inC (hdC (tlC (inC (inC (tlC (nthC 12 (bodyC Try.f5)))))))))) #[true, true, true, true, true, true, true, true, true, true, true, true, true, true, false, false, false, false, false, false, false, false, false, false, false, false, false, false]).contains 14 = true := by kernel_rfl
theorem l5_21_f15 : Region.free .any (regOps (tlC (inC (hdC (tlC (inC (inC (tlC (nthC 12 (bodyC Try.f5)))))))))) #[true, true, true, true, true, true, true, true, true, true, true, true, true, true, true, false, false, false, false, false, false, false, false, false, false, false, false, false] 15 = true := by kernel_rfl
theorem l5_21_r15 : (Region.ready .any (regOps (tlC (inC (hdC (tlC (inC (inC (tlC (nthC 12 (bodyC Try.f5)))))))))) #[true, true, true, true, true, true, true, true, true, true, true, true, true, true, true, false, false, false, false, false, false, false, false, false, false, false, false, false]).contains 15 = true := by kernel_rfl
theorem l5_21_f16 : Region.free .any (regOps (tlC (inC (hdC (tlC (inC (inC (tlC (nthC 12 (bodyC Try.f5)))))))))) #[true, true, true, true, true, true, true, true, true, true, true, true, true, true, true, true, false, false, false, false, false, false, false, false, false, false, false, false] 16 = true := by kernel_rfl
theorem l5_21_r16 : (Region.ready .any (regOps (tlC (inC (hdC (tlC (inC (inC (tlC (nthC 12 (bodyC Try.f5)))))))))) #[true, true, true, true, true, true, true, true, true, true, true, true, true, true, true, true, false, false, false, false, false, false, false, false, false, false, false, false]).contains 16 = true := by kernel_rfl
theorem l5_21_f17 : Region.free .any (regOps (tlC (inC (hdC (tlC (inC (inC (tlC (nthC 12 (bodyC Try.f5)))))))))) #[true, true, true, true, true, true, true, true, true, true, true, true, true, true, true, true, true, false, false, false, false, false, false, false, false, false, false, false] 17 = true := by kernel_rfl
theorem l5_21_r17 : (Region.ready .any (regOps (tlC (inC (hdC (tlC (inC (inC (tlC (nthC 12 (bodyC Try.f5)))))))))) #[true, true, true, true, true, true, true, true, true, true, true, true, true, true, true, true, true, false, false, false, false, false, false, false, false, false, false, false]).contains 17 = true := by kernel_rfl
theorem l5_21_f18 : Region.free .any (regOps (tlC (inC (hdC (tlC (inC (inC (tlC (nthC 12 (bodyC Try.f5)))))))))) #[true, true, true, true, true, true, true, true, true, true, true, true, true, true, true, true, true, true, false, false, false, false, false, false, false, false, false, false] 18 = true := by kernel_rfl
theorem l5_21_r18 : (Region.ready .any (regOps (tlC (inC (hdC (tlC (inC (inC (tlC (nthC 12 (bodyC Try.f5)))))))))) #[true, true, true, true, true, true, true, true, true, true, true, true, true, true, true, true, true, true, false, false, false, false, false, false, false, false, false, false]).contains 18 = true := by kernel_rfl
theorem l5_21_f19 : Region.free .any (regOps (tlC (inC (hdC (tlC (inC (inC (tlC (nthC 12 (bodyC Try.f5)))))))))) #[true, true, true, true, true, true, true, true, true, true, true, true, true, true, true, true, true, true, true, false, false, false, false, false, false, false, false, false] 19 = true := by kernel_rfl
theorem l5_21_r19 : (Region.ready .any (regOps (tlC (inC (hdC (tlC (inC (inC (tlC (nthC 12 (bodyC Try.f5)))))))))) #[true, true, true, true, true, true, true, true, true, true, true, true, true, true, true, true, true, true, true, false, false, false, false, false, false, false, false, false]).contains 19 = true := by kernel_rfl
theorem l5_21_f20 : Region.free .any (regOps (tlC (inC (hdC (tlC (inC (inC (tlC (nthC 12 (bodyC Try.f5)))))))))) #[true, true, true, true, true, true, true, true, true, true, true, true, true, true, true, true, true, true, true, true, false, false, false, false, false, false, false, false] 20 = true := by kernel_rfl
theorem l5_21_r20 : (Region.ready .any (regOps (tlC (inC (hdC (tlC (inC (inC (tlC (nthC 12 (bodyC Try.f5)))))))))) #[true, true, true, true, true, true, true, true, true, true, true, true, true, true, true, true, true, true, true, true, false, false, false, false, false, false, false, false]).contains 20 = true := by kernel_rfl
theorem l5_21_f21 : Region.free .any (regOps (tlC (inC (hdC (tlC (inC (inC (tlC (nthC 12 (bodyC Try.f5)))))))))) #[true, true, true, true, true, true, true, true, true, true, true, true, true, true, true, true, true, true, true, true, true, false, false, false, false, false, false, false] 21 = true := by kernel_rfl
theorem l5_21_r21 : (Region.ready .any (regOps (tlC (inC (hdC (tlC (inC (inC (tlC (nthC 12 (bodyC Try.f5)))))))))) #[true, true, true, true, true, true, true, true, true, true, true, true, true, true, true, true, true, true, true, true, true, false, false, false, false, false, false, false]).contains 21 = true := by kernel_rfl
theorem l5_21_f22 : Region.free .any (regOps (tlC (inC (hdC (tlC (inC (inC (tlC (nthC 12 (bodyC Try.f5)))))))))) #[true, true, true, true, true, true, true, true, true, true, true, true, true, true, true, true, true, true, true, true, true, true, false, false, false, false, false, false] 22 = true := by kernel_rfl
theorem l5_21_r22 : (Region.ready .any (regOps (tlC (inC (hdC (tlC (inC (inC (tlC (nthC 12 (bodyC Try.f5)))))))))) #[true, true, true, true, true, true, true, true, true, true, true, true, true, true, true, true, true, true, true, true, true, true, false, false, false, false, false, false]).contains 22 = true := by kernel_rfl
theorem l5_21_f23 : Region.free .any (regOps (tlC (inC (hdC (tlC (inC (inC (tlC (nthC 12 (bodyC Try.f5)))))))))) #[true, true, true, true, true, true, true, true, true, true, true, true, true, true, true, true, true, true, true, true, true, true, true, false, false, false, false, false] 23 = true := by kernel_rfl
theorem l5_21_r23 : (Region.ready .any (regOps (tlC (inC (hdC (tlC (inC (inC (tlC (nthC 12 (bodyC Try.f5)))))))))) #[true, true, true, true, true, true, true, true, true, true, true, true, true, true, true, true, true, true, true, true, true, true, true, false, false, false, false, false]).contains 23 = true := by kernel_rfl
theorem l5_21_f24 : Region.free .any (regOps (tlC (inC (hdC (tlC (inC (inC (tlC (nthC 12 (bodyC Try.f5)))))))))) #[true, true, true, true, true, true, true, true, true, true, true, true, true, true, true, true, true, true, true, true, true, true, true, true, false, false, false, false] 24 = true := by kernel_rfl
theorem l5_21_r24 : (Region.ready .any (regOps (tlC (inC (hdC (tlC (inC (inC (tlC (nthC 12 (bodyC Try.f5)))))))))) #[true, true, true, true, true, true, true, true, true, true, true, true, true, true, true, true, true, true, true, true, true, true, true, true, false, false, false, false]).contains 24 = true := by kernel_rfl
theorem l5_21_f25 : Region.free .any (regOps (tlC (inC (hdC (tlC (inC (inC (tlC (nthC 12 (bodyC Try.f5)))))))))) #[true, true, true, true, true, true, true, true, true, true, true, true, true, true, true, true, true, true, true, true, true, true, true, true, true, false, false, false] 25 = true := by kernel_rfl
theorem l5_21_r25 : (Region.ready .any (regOps (tlC (inC (hdC (tlC (inC (inC (tlC (nthC 12 (bodyC Try.f5)))))))))) #[true, true, true, true, true, true, true, true, true, true, true, true, true, true, true, true, true, true, true, true, true, true, true, true, true, false, false, false]).contains 25 = true := by kernel_rfl
theorem l5_21_f26 : Region.free .any (regOps (tlC (inC (hdC (tlC (inC (inC (tlC (nthC 12 (bodyC Try.f5)))))))))) #[true, true, true, true, true, true, true, true, true, true, true, true, true, true, true, true, true, true, true, true, true, true, true, true, true, true, false, false] 26 = true := by kernel_rfl
theorem l5_21_r26 : (Region.ready .any (regOps (tlC (inC (hdC (tlC (inC (inC (tlC (nthC 12 (bodyC Try.f5)))))))))) #[true, true, true, true, true, true, true, true, true, true, true, true, true, true, true, true, true, true, true, true, true, true, true, true, true, true, false, false]).contains 26 = true := by kernel_rfl
theorem l5_21_r27 : Region.ready .any (regOps (tlC (inC (hdC (tlC (inC (inC (tlC (nthC 12 (bodyC Try.f5)))))))))) #[true, true, true, true, true, true, true, true, true, true, true, true, true, true, true, true, true, true, true, true, true, true, true, true, true, true, true, false] = [27] := by kernel_rfl
theorem l5_21_e : Region.ready .any (regOps (tlC (inC (hdC (tlC (inC (inC (tlC (nthC 12 (bodyC Try.f5)))))))))) #[true, true, true, true, true, true, true, true, true, true, true, true, true, true, true, true, true, true, true, true, true, true, true, true, true, true, true, true] = [] := by kernel_rfl

set_option maxRecDepth 10000 in
set_option maxHeartbeats 1000000 in
theorem l5_21 (fa fb : Int) (m K I pb cb ib rb b1 b2 k lo hi : Nat) (p ck : Int) (G : World → Prop) (a : Act) (w : World) (Q : Exit → Act → World → Prop) (hfr : Fr 178 a) (hs : Slots [(0, .int .u64 fa), (1, .int .u64 fb), (2, .int .i64 (m : Nat)), (3, .slice (some ⟨pb, 0, none⟩) K K), (4, .slice (some ⟨cb, 0, none⟩) K K), (5, .slice (some ⟨ib, 0, none⟩) I I), (6, .slice (some ⟨rb, 0, none⟩) I I), (15, .pointer (some ⟨b1, 0, none⟩)), (16, .pointer (some ⟨b2, 0, none⟩)), (17, .int .i64 (k : Nat))] a)
    (hlo : IntKind.i64.wrap ((k : Int) * (m : Int)) = (lo : Int)) (hk1 : IntKind.i64.wrap ((k : Int) + 1) = (k : Int) + 1) (hhi : IntKind.i64.wrap (((k : Int) + 1) * (m : Int)) = (hi : Int)) (hle : (lo : Int) ≤ hi) (hhI : (hi : Int) ≤ I) (hIl : ¬ (I = lo)) (lk : (k : Int) < K)
    (cp : w.cell? ⟨pb, k, none⟩ = some (.int .u64 p)) (cc : w.cell? ⟨cb, k, none⟩ = some (.int .i64 ck))
    (hcall : Calls Try.prog 20 #[.pointer (some ⟨b2, 0, none⟩), .int .u64 p, .int .i64 ck, .slice (some ⟨ib, lo, none⟩) (hi - lo) (I - lo), .slice (some ⟨rb, lo, none⟩) (hi - lo) (I - lo)] w.drew fun e w' => e = .returned (.tuple #[]) ∧ (fun w' : World => w'.cell? ⟨pb, k, none⟩ = some (.int .u64 p) ∧ w'.cell? ⟨cb, k, none⟩ = some (.int .i64 ck)) w' ∧ G w')
    (hQ : ∀ a' w', G w' → Fr 178 a' → Slots [(0, .int .u64 fa), (1, .int .u64 fb), (2, .int .i64 (m : Nat)), (3, .slice (some ⟨pb, 0, none⟩) K K), (4, .slice (some ⟨cb, 0, none⟩) K K), (5, .slice (some ⟨ib, 0, none⟩) I I), (6, .slice (some ⟨rb, 0, none⟩) I I), (15, .pointer (some ⟨b1, 0, none⟩)), (16, .pointer (some ⟨b2, 0, none⟩)), (17, .int .i64 (k : Nat))] a' → Q .normal a' w') :
    Code.wp Try.prog (tlC (inC (hdC (tlC (inC (inC (tlC (nthC 12 (bodyC Try.f5))))))))) Q a w := by
  obtain ⟨t0, t1, t2, t3, t4, t5, t6, t15, t16, t17, -⟩ := hs
  replace t0 : a.tmps[0]?.getD undef = .int .u64 fa := (sl_at a 0).symm.trans t0
  replace t1 : a.tmps[1]?.getD undef = .int .u64 fb := (sl_at a 1).symm.trans t1
  replace t2 : a.tmps[2]?.getD undef = .int .i64 (m : Nat) := (sl_at a 2).symm.trans t2
  replace t3 : a.tmps[3]?.getD undef = .slice (some ⟨pb, 0, none⟩) K K := (sl_at a 3).symm.trans t3
  replace t4 : a.tmps[4]?.getD undef = .slice (some ⟨cb, 0, none⟩) K K := (sl_at a 4).symm.trans t4
  replace t5 : a.tmps[5]?.getD undef = .slice (some ⟨ib, 0, none⟩) I I := (sl_at a 5).symm.trans t5
  replace t6 : a.tmps[6]?.getD undef = .slice (some ⟨rb, 0, none⟩) I I := (sl_at a 6).symm.trans t6
  replace t15 : a.tmps[15]?.getD undef = .pointer (some ⟨b1, 0, none⟩) := (sl_at a 15).symm.trans t15
  replace t16 : a.tmps[16]?.getD undef = .pointer (some ⟨b2, 0, none⟩) := (sl_at a 16).symm.trans t16
  replace t17 : a.tmps[17]?.getD undef = .int .i64 (k : Nat) := (sl_at a 17).symm.trans t17
  have hS0 : (fun w' : World => w'.cell? ⟨pb, k, none⟩ = some (.int .u64 p) ∧ w'.cell? ⟨cb, k, none⟩ = some (.int .i64 ck)) w.drew := ⟨cp, cc⟩
  refine wp_navR (fun w' : World => w'.cell? ⟨pb, k, none⟩ = some (.int .u64 p) ∧ w'.cell? ⟨cb, k, none⟩ = some (.int .i64 ck)) (fun a' w' => G w' ∧ Fr 178 a' ∧ Slots [(0, .int .u64 fa), (1, .int .u64 fb), (2, .int .i64 (m : Nat)), (3, .slice (some ⟨pb, 0, none⟩) K K), (4, .slice (some ⟨cb, 0, none⟩) K K), (5, .slice (some ⟨ib, 0, none⟩) I I), (6, .slice (some ⟨rb, 0, none⟩) I I), (15, .pointer (some ⟨b1, 0, none⟩)), (16, .pointer (some ⟨b2, 0, none⟩)), (17, .int .i64 (k : Nat))] a') 28 #[false, false, false, false, false, false, false, false, false, false, false, false, false, false, false, false, false, false, false, false, false, false, false, false, false, false, false, false] (by kernel_rfl) (by kernel_rfl) (by kernel_rfl) rfl ?_ (fun a' w' ⟨h1, h2, h3⟩ => hQ a' w' h1 h2 h3)
  clear hQ
  refine take1 0 123 _ (.pointer (some ⟨b2, 0, none⟩)) #[true, false, false, false, false, false, false, false, false, false, false, false, false, false, false, false, false, false, false, false, false, false, false, false, false, false, false, false] l5_21_i0 l5_21_d0 (by decide) l5_21_s l5_21_f0 l5_21_r0 l5_21_g0 rfl hS0 hfr ?_ ?_
  · intro wx hx; obtain ⟨h0, h1⟩ := hx; simp only [execOp, l5_21_o0]; go_simp
  intro a1 fr1 t123 ho
  replace t0 := (ho 0 (by decide)).trans t0
  replace t1 := (ho 1 (by decide)).trans t1
  replace t2 := (ho 2 (by decide)).trans t2
  replace t3 := (ho 3 (by decide)).trans t3
  replace t4 := (ho 4 (by decide)).trans t4
  replace t5 := (ho 5 (by decide)).trans t5
  replace t6 := (ho 6 (by decide)).trans t6
  replace t15 := (ho 15 (by decide)).trans t15
  replace t16 := (ho 16 (by decide)).trans t16
  replace t17 := (ho 17 (by decide)).trans t17
  clear hfr ho
  refine take1 1 124 _ (.slice (some ⟨pb, 0, none⟩) K K) #[true, true, false, false, false, false, false, false, false, false, false, false, false, false, false, false, false, false, false, false, false, false, false, false, false, false, false, false] l5_21_i1 l5_21_d1 (by decide) l5_21_s l5_21_f1 l5_21_r1 l5_21_g1 rfl hS0 fr1 ?_ ?_
  · intro wx hx; obtain ⟨h0, h1⟩ := hx; simp only [execOp, l5_21_o1]; go_simp
  intro a2 fr2 t124 ho
  replace t0 := (ho 0 (by decide)).trans t0
  replace t1 := (ho 1 (by decide)).trans t1
  replace t2 := (ho 2 (by decide)).trans t2
  replace t3 := (ho 3 (by decide)).trans t3
  replace t4 := (ho 4 (by decide)).trans t4
  replace t5 := (ho 5 (by decide)).trans t5
  replace t6 := (ho 6 (by decide)).trans t6
  replace t15 := (ho 15 (by decide)).trans t15
  replace t16 := (ho 16 (by decide)).trans t16
  replace t17 := (ho 17 (by decide)).trans t17
  replace t123 := (ho 123 (by decide)).trans t123
  clear fr1 ho
  refine take1 2 125 _ (.int .i64 (k : Nat)) #[true, true, true, false, false, false, false, false, false, false, false, false, false, false, false, false, false, false, false, false, false, false, false, false, false, false, false, false] l5_21_i2 l5_21_d2 (by decide) l5_21_s l5_21_f2 l5_21_r2 l5_21_g2 rfl hS0 fr2 ?_ ?_
  · intro wx hx; obtain ⟨h0, h1⟩ := hx; simp only [execOp, l5_21_o2]; go_simp
  intro a3 fr3 t125 ho
  replace t0 := (ho 0 (by decide)).trans t0
  replace t1 := (ho 1 (by decide)).trans t1
  replace t2 := (ho 2 (by decide)).trans t2
  replace t3 := (ho 3 (by decide)).trans t3
  replace t4 := (ho 4 (by decide)).trans t4
  replace t5 := (ho 5 (by decide)).trans t5
  replace t6 := (ho 6 (by decide)).trans t6
  replace t15 := (ho 15 (by decide)).trans t15
  replace t16 := (ho 16 (by decide)).trans t16
  replace t17 := (ho 17 (by decide)).trans t17
  replace t123 := (ho 123 (by decide)).trans t123
  replace t124 := (ho 124 (by decide)).trans t124
  clear fr2 ho
  refine take1 3 126 _ (.pointer (some ⟨pb, k, none⟩)) #[true, true, true, true, false, false, false, false, false, false, false, false, false, false, false, false, false, false, false, false, false, false, false, false, false, false, false, false] l5_21_i3 l5_21_d3 (by decide) l5_21_s l5_21_f3 l5_21_r3 l5_21_g3 rfl hS0 fr3 ?_ ?_
  · intro wx hx; obtain ⟨h0, h1⟩ := hx; simp only [execOp, l5_21_o3]; go_simp
  intro a4 fr4 t126 ho
  replace t0 := (ho 0 (by decide)).trans t0
  replace t1 := (ho 1 (by decide)).trans t1
  replace t2 := (ho 2 (by decide)).trans t2
  replace t3 := (ho 3 (by decide)).trans t3
  replace t4 := (ho 4 (by decide)).trans t4
  replace t5 := (ho 5 (by decide)).trans t5
  replace t6 := (ho 6 (by decide)).trans t6
  replace t15 := (ho 15 (by decide)).trans t15
  replace t16 := (ho 16 (by decide)).trans t16
  replace t17 := (ho 17 (by decide)).trans t17
  replace t123 := (ho 123 (by decide)).trans t123
  replace t124 := (ho 124 (by decide)).trans t124
  replace t125 := (ho 125 (by decide)).trans t125
  clear fr3 ho
  clear t124 t125
  refine take1 4 127 _ (.int .u64 p) #[true, true, true, true, true, false, false, false, false, false, false, false, false, false, false, false, false, false, false, false, false, false, false, false, false, false, false, false] l5_21_i4 l5_21_d4 (by decide) l5_21_s l5_21_f4 l5_21_r4 l5_21_g4 rfl hS0 fr4 ?_ ?_
  · intro wx hx; obtain ⟨h0, h1⟩ := hx; simp only [execOp, l5_21_o4]; go_simp
  intro a5 fr5 t127 ho
  replace t0 := (ho 0 (by decide)).trans t0
  replace t1 := (ho 1 (by decide)).trans t1
  replace t2 := (ho 2 (by decide)).trans t2
  replace t3 := (ho 3 (by decide)).trans t3
  replace t4 := (ho 4 (by decide)).trans t4
  replace t5 := (ho 5 (by decide)).trans t5
  replace t6 := (ho 6 (by decide)).trans t6
  replace t15 := (ho 15 (by decide)).trans t15
  replace t16 := (ho 16 (by decide)).trans t16
  replace t17 := (ho 17 (by decide)).trans t17
  replace t123 := (ho 123 (by decide)).trans t123
  replace t126 := (ho 126 (by decide)).trans t126
  clear fr4 ho
  clear t126
  refine take1 5 128 _ (.slice (some ⟨cb, 0, none⟩) K K) #[true, true, true, true, true, true, false, false, false, false, false, false, false, false, false, false, false, false, false, false, false, false, false, false, false, false, false, false] l5_21_i5 l5_21_d5 (by decide) l5_21_s l5_21_f5 l5_21_r5 l5_21_g5 rfl hS0 fr5 ?_ ?_
  · intro wx hx; obtain ⟨h0, h1⟩ := hx; simp only [execOp, l5_21_o5]; go_simp
  intro a6 fr6 t128 ho
  replace t0 := (ho 0 (by decide)).trans t0
  replace t1 := (ho 1 (by decide)).trans t1
  replace t2 := (ho 2 (by decide)).trans t2
  replace t3 := (ho 3 (by decide)).trans t3
  replace t4 := (ho 4 (by decide)).trans t4
  replace t5 := (ho 5 (by decide)).trans t5
  replace t6 := (ho 6 (by decide)).trans t6
  replace t15 := (ho 15 (by decide)).trans t15
  replace t16 := (ho 16 (by decide)).trans t16
  replace t17 := (ho 17 (by decide)).trans t17
  replace t123 := (ho 123 (by decide)).trans t123
  replace t127 := (ho 127 (by decide)).trans t127
  clear fr5 ho
  refine take1 6 129 _ (.int .i64 (k : Nat)) #[true, true, true, true, true, true, true, false, false, false, false, false, false, false, false, false, false, false, false, false, false, false, false, false, false, false, false, false] l5_21_i6 l5_21_d6 (by decide) l5_21_s l5_21_f6 l5_21_r6 l5_21_g6 rfl hS0 fr6 ?_ ?_
  · intro wx hx; obtain ⟨h0, h1⟩ := hx; simp only [execOp, l5_21_o6]; go_simp
  intro a7 fr7 t129 ho
  replace t0 := (ho 0 (by decide)).trans t0
  replace t1 := (ho 1 (by decide)).trans t1
  replace t2 := (ho 2 (by decide)).trans t2
  replace t3 := (ho 3 (by decide)).trans t3
  replace t4 := (ho 4 (by decide)).trans t4
  replace t5 := (ho 5 (by decide)).trans t5
  replace t6 := (ho 6 (by decide)).trans t6
  replace t15 := (ho 15 (by decide)).trans t15
  replace t16 := (ho 16 (by decide)).trans t16
  replace t17 := (ho 17 (by decide)).trans t17
  replace t123 := (ho 123 (by decide)).trans t123
  replace t127 := (ho 127 (by decide)).trans t127
  replace t128 := (ho 128 (by decide)).trans t128
  clear fr6 ho
  refine take1 7 130 _ (.pointer (some ⟨cb, k, none⟩)) #[true, true, true, true, true, true, true, true, false, false, false, false, false, false, false, false, false, false, false, false, false, false, false, false, false, false, false, false] l5_21_i7 l5_21_d7 (by decide) l5_21_s l5_21_f7 l5_21_r7 l5_21_g7 rfl hS0 fr7 ?_ ?_
  · intro wx hx; obtain ⟨h0, h1⟩ := hx; simp only [execOp, l5_21_o7]; go_simp
  intro a8 fr8 t130 ho
  replace t0 := (ho 0 (by decide)).trans t0
  replace t1 := (ho 1 (by decide)).trans t1
  replace t2 := (ho 2 (by decide)).trans t2
  replace t3 := (ho 3 (by decide)).trans t3
  replace t4 := (ho 4 (by decide)).trans t4
  replace t5 := (ho 5 (by decide)).trans t5
  replace t6 := (ho 6 (by decide)).trans t6
  replace t15 := (ho 15 (by decide)).trans t15
  replace t16 := (ho 16 (by decide)).trans t16
  replace t17 := (ho 17 (by decide)).trans t17
  replace t123 := (ho 123 (by decide)).trans t123
  replace t127 := (ho 127 (by decide)).trans t127
  replace t128 := (ho 128 (by decide)).trans t128
  replace t129 := (ho 129 (by decide)).trans t129
  clear fr7 ho
  clear t128 t129
  refine take1 8 131 _ (.int .i64 ck) #[true, true, true, true, true, true, true, true, true, false, false, false, false, false, false, false, false, false, false, false, false, false, false, false, false, false, false, false] l5_21_i8 l5_21_d8 (by decide) l5_21_s l5_21_f8 l5_21_r8 l5_21_g8 rfl hS0 fr8 ?_ ?_
  · intro wx hx; obtain ⟨h0, h1⟩ := hx; simp only [execOp, l5_21_o8]; go_simp
  intro a9 fr9 t131 ho
  replace t0 := (ho 0 (by decide)).trans t0
  replace t1 := (ho 1 (by decide)).trans t1
  replace t2 := (ho 2 (by decide)).trans t2
  replace t3 := (ho 3 (by decide)).trans t3
  replace t4 := (ho 4 (by decide)).trans t4
  replace t5 := (ho 5 (by decide)).trans t5
  replace t6 := (ho 6 (by decide)).trans t6
  replace t15 := (ho 15 (by decide)).trans t15
  replace t16 := (ho 16 (by decide)).trans t16
  replace t17 := (ho 17 (by decide)).trans t17
  replace t123 := (ho 123 (by decide)).trans t123
  replace t127 := (ho 127 (by decide)).trans t127
  replace t130 := (ho 130 (by decide)).trans t130
  clear fr8 ho
  clear t130
  refine take1 9 132 _ (.slice (some ⟨ib, 0, none⟩) I I) #[true, true, true, true, true, true, true, true, true, true, false, false, false, false, false, false, false, false, false, false, false, false, false, false, false, false, false, false] l5_21_i9 l5_21_d9 (by decide) l5_21_s l5_21_f9 l5_21_r9 l5_21_g9 rfl hS0 fr9 ?_ ?_
  · intro wx hx; obtain ⟨h0, h1⟩ := hx; simp only [execOp, l5_21_o9]; go_simp
  intro a10 fr10 t132 ho
  replace t0 := (ho 0 (by decide)).trans t0
  replace t1 := (ho 1 (by decide)).trans t1
  replace t2 := (ho 2 (by decide)).trans t2
  replace t3 := (ho 3 (by decide)).trans t3
  replace t4 := (ho 4 (by decide)).trans t4
  replace t5 := (ho 5 (by decide)).trans t5
  replace t6 := (ho 6 (by decide)).trans t6
  replace t15 := (ho 15 (by decide)).trans t15
  replace t16 := (ho 16 (by decide)).trans t16
  replace t17 := (ho 17 (by decide)).trans t17
  replace t123 := (ho 123 (by decide)).trans t123
  replace t127 := (ho 127 (by decide)).trans t127
  replace t131 := (ho 131 (by decide)).trans t131
  clear fr9 ho
  refine take1 10 133 _ (.int .i64 (k : Nat)) #[true, true, true, true, true, true, true, true, true, true, true, false, false, false, false, false, false, false, false, false, false, false, false, false, false, false, false, false] l5_21_i10 l5_21_d10 (by decide) l5_21_s l5_21_f10 l5_21_r10 l5_21_g10 rfl hS0 fr10 ?_ ?_
  · intro wx hx; obtain ⟨h0, h1⟩ := hx; simp only [execOp, l5_21_o10]; go_simp
  intro a11 fr11 t133 ho
  replace t0 := (ho 0 (by decide)).trans t0
  replace t1 := (ho 1 (by decide)).trans t1
  replace t2 := (ho 2 (by decide)).trans t2
  replace t3 := (ho 3 (by decide)).trans t3
  replace t4 := (ho 4 (by decide)).trans t4
  replace t5 := (ho 5 (by decide)).trans t5
  replace t6 := (ho 6 (by decide)).trans t6
  replace t15 := (ho 15 (by decide)).trans t15
  replace t16 := (ho 16 (by decide)).trans t16
  replace t17 := (ho 17 (by decide)).trans t17
  replace t123 := (ho 123 (by decide)).trans t123
  replace t127 := (ho 127 (by decide)).trans t127
  replace t131 := (ho 131 (by decide)).trans t131
  replace t132 := (ho 132 (by decide)).trans t132
  clear fr10 ho
  refine take1 11 134 _ (.int .i64 (m : Nat)) #[true, true, true, true, true, true, true, true, true, true, true, true, false, false, false, false, false, false, false, false, false, false, false, false, false, false, false, false] l5_21_i11 l5_21_d11 (by decide) l5_21_s l5_21_f11 l5_21_r11 l5_21_g11 rfl hS0 fr11 ?_ ?_
  · intro wx hx; obtain ⟨h0, h1⟩ := hx; simp only [execOp, l5_21_o11]; go_simp
  intro a12 fr12 t134 ho
  replace t0 := (ho 0 (by decide)).trans t0
  replace t1 := (ho 1 (by decide)).trans t1
  replace t2 := (ho 2 (by decide)).trans t2
  replace t3 := (ho 3 (by decide)).trans t3
  replace t4 := (ho 4 (by decide)).trans t4
  replace t5 := (ho 5 (by decide)).trans t5
  replace t6 := (ho 6 (by decide)).trans t6
  replace t15 := (ho 15 (by decide)).trans t15
  replace t16 := (ho 16 (by decide)).trans t16
  replace t17 := (ho 17 (by decide)).trans t17
  replace t123 := (ho 123 (by decide)).trans t123
  replace t127 := (ho 127 (by decide)).trans t127
  replace t131 := (ho 131 (by decide)).trans t131
  replace t132 := (ho 132 (by decide)).trans t132
  replace t133 := (ho 133 (by decide)).trans t133
  clear fr11 ho
  refine take1 12 135 _ (.int .i64 (lo : Nat)) #[true, true, true, true, true, true, true, true, true, true, true, true, true, false, false, false, false, false, false, false, false, false, false, false, false, false, false, false] l5_21_i12 l5_21_d12 (by decide) l5_21_s l5_21_f12 l5_21_r12 l5_21_g12 rfl hS0 fr12 ?_ ?_
  · intro wx hx; obtain ⟨h0, h1⟩ := hx; simp only [execOp, l5_21_o12]; go_simp
  intro a13 fr13 t135 ho
  replace t0 := (ho 0 (by decide)).trans t0
  replace t1 := (ho 1 (by decide)).trans t1
  replace t2 := (ho 2 (by decide)).trans t2
  replace t3 := (ho 3 (by decide)).trans t3
  replace t4 := (ho 4 (by decide)).trans t4
  replace t5 := (ho 5 (by decide)).trans t5
  replace t6 := (ho 6 (by decide)).trans t6
  replace t15 := (ho 15 (by decide)).trans t15
  replace t16 := (ho 16 (by decide)).trans t16
  replace t17 := (ho 17 (by decide)).trans t17
  replace t123 := (ho 123 (by decide)).trans t123
  replace t127 := (ho 127 (by decide)).trans t127
  replace t131 := (ho 131 (by decide)).trans t131
  replace t132 := (ho 132 (by decide)).trans t132
  replace t133 := (ho 133 (by decide)).trans t133
  replace t134 := (ho 134 (by decide)).trans t134
  clear fr12 ho
  clear t133 t134
  refine take1 13 136 _ (.int .i64 (k : Nat)) #[true, true, true, true, true, true, true, true, true, true, true, true, true, true, false, false, false, false, false, false, false, false, false, false, false, false, false, false] l5_21_i13 l5_21_d13 (by decide) l5_21_s l5_21_f13 l5_21_r13 l5_21_g13 rfl hS0 fr13 ?_ ?_
  · intro wx hx; obtain ⟨h0, h1⟩ := hx; simp only [execOp, l5_21_o13]; go_simp
  intro a14 fr14 t136 ho
  replace t0 := (ho 0 (by decide)).trans t0
  replace t1 := (ho 1 (by decide)).trans t1
  replace t2 := (ho 2 (by decide)).trans t2
  replace t3 := (ho 3 (by decide)).trans t3
  replace t4 := (ho 4 (by decide)).trans t4
  replace t5 := (ho 5 (by decide)).trans t5
  replace t6 := (ho 6 (by decide)).trans t6
  replace t15 := (ho 15 (by decide)).trans t15
  replace t16 := (ho 16 (by decide)).trans t16
  replace t17 := (ho 17 (by decide)).trans t17
  replace t123 := (ho 123 (by decide)).trans t123
  replace t127 := (ho 127 (by decide)).trans t127
  replace t131 := (ho 131 (by decide)).trans t131
  replace t132 := (ho 132 (by decide)).trans t132
  replace t135 := (ho 135 (by decide)).trans t135
  clear fr13 ho
  refine take1 14 137 _ (.int .i64 ((k : Nat) + 1)) #[true, true, true, true, true, true, true, true, true, true, true, true, true, true, true, false, false, false, false, false, false, false, false, false, false, false, false, false] l5_21_i14 l5_21_d14 (by decide) l5_21_s l5_21_f14 l5_21_r14 l5_21_g14 rfl hS0 fr14 ?_ ?_
  · intro wx hx; obtain ⟨h0, h1⟩ := hx; simp only [execOp, l5_21_o14]; go_simp
  intro a15 fr15 t137 ho
  replace t0 := (ho 0 (by decide)).trans t0
  replace t1 := (ho 1 (by decide)).trans t1
  replace t2 := (ho 2 (by decide)).trans t2
  replace t3 := (ho 3 (by decide)).trans t3
  replace t4 := (ho 4 (by decide)).trans t4
  replace t5 := (ho 5 (by decide)).trans t5
  replace t6 := (ho 6 (by decide)).trans t6
  replace t15 := (ho 15 (by decide)).trans t15
  replace t16 := (ho 16 (by decide)).trans t16
  replace t17 := (ho 17 (by decide)).trans t17
  replace t123 := (ho 123 (by decide)).trans t123
  replace t127 := (ho 127 (by decide)).trans t127
  replace t131 := (ho 131 (by decide)).trans t131
  replace t132 := (ho 132 (by decide)).trans t132
  replace t135 := (ho 135 (by decide)).trans t135
  replace t136 := (ho 136 (by decide)).trans t136
  clear fr14 ho
  clear t136
  refine take1 15 138 _ (.int .i64 (m : Nat)) #[true, true, true, true, true, true, true, true, true, true, true, true, true, true, true, true, false, false, false, false, false, false, false, false, false, false, false, false] l5_21_i15 l5_21_d15 (by decide) l5_21_s l5_21_f15 l5_21_r15 l5_21_g15 rfl hS0 fr15 ?_ ?_
  · intro wx hx; obtain ⟨h0, h1⟩ := hx; simp only [execOp, l5_21_o15]; go_simp
  intro a16 fr16 t138 ho
  replace t0 := (ho 0 (by decide)).trans t0
  replace t1 := (ho 1 (by decide)).trans t1
  replace t2 := (ho 2 (by decide)).trans t2
  replace t3 := (ho 3 (by decide)).trans t3
  replace t4 := (ho 4 (by decide)).trans t4
  replace t5 := (ho 5 (by decide)).trans t5
  replace t6 := (ho 6 (by decide)).trans t6
  replace t15 := (ho 15 (by decide)).trans t15
  replace t16 := (ho 16 (by decide)).trans t16
  replace t17 := (ho 17 (by decide)).trans t17
  replace t123 := (ho 123 (by decide)).trans t123
  replace t127 := (ho 127 (by decide)).trans t127
  replace t131 := (ho 131 (by decide)).trans t131
  replace t132 := (ho 132 (by decide)).trans t132
  replace t135 := (ho 135 (by decide)).trans t135
  replace t137 := (ho 137 (by decide)).trans t137
  clear fr15 ho
  refine take1 16 139 _ (.int .i64 (hi : Nat)) #[true, true, true, true, true, true, true, true, true, true, true, true, true, true, true, true, true, false, false, false, false, false, false, false, false, false, false, false] l5_21_i16 l5_21_d16 (by decide) l5_21_s l5_21_f16 l5_21_r16 l5_21_g16 rfl hS0 fr16 ?_ ?_
  · intro wx hx; obtain ⟨h0, h1⟩ := hx; simp only [execOp, l5_21_o16]; go_simp
  intro a17 fr17 t139 ho
  replace t0 := (ho 0 (by decide)).trans t0
  replace t1 := (ho 1 (by decide)).trans t1
  replace t2 := (ho 2 (by decide)).trans t2
  replace t3 := (ho 3 (by decide)).trans t3
  replace t4 := (ho 4 (by decide)).trans t4
  replace t5 := (ho 5 (by decide)).trans t5
  replace t6 := (ho 6 (by decide)).trans t6
  replace t15 := (ho 15 (by decide)).trans t15
  replace t16 := (ho 16 (by decide)).trans t16
  replace t17 := (ho 17 (by decide)).trans t17
  replace t123 := (ho 123 (by decide)).trans t123
  replace t127 := (ho 127 (by decide)).trans t127
  replace t131 := (ho 131 (by decide)).trans t131
  replace t132 := (ho 132 (by decide)).trans t132
  replace t135 := (ho 135 (by decide)).trans t135
  replace t137 := (ho 137 (by decide)).trans t137
  replace t138 := (ho 138 (by decide)).trans t138
  clear fr16 ho
  clear t137 t138
  refine take1 17 140 _ (.slice (some ⟨ib, lo, none⟩) (hi - lo) (I - lo)) #[true, true, true, true, true, true, true, true, true, true, true, true, true, true, true, true, true, true, false, false, false, false, false, false, false, false, false, false] l5_21_i17 l5_21_d17 (by decide) l5_21_s l5_21_f17 l5_21_r17 l5_21_g17 rfl hS0 fr17 ?_ ?_
  · intro wx hx; obtain ⟨h0, h1⟩ := hx; simp only [execOp, l5_21_o17]; go_simp
  intro a18 fr18 t140 ho
  replace t0 := (ho 0 (by decide)).trans t0
  replace t1 := (ho 1 (by decide)).trans t1
  replace t2 := (ho 2 (by decide)).trans t2
  replace t3 := (ho 3 (by decide)).trans t3
  replace t4 := (ho 4 (by decide)).trans t4
  replace t5 := (ho 5 (by decide)).trans t5
  replace t6 := (ho 6 (by decide)).trans t6
  replace t15 := (ho 15 (by decide)).trans t15
  replace t16 := (ho 16 (by decide)).trans t16
  replace t17 := (ho 17 (by decide)).trans t17
  replace t123 := (ho 123 (by decide)).trans t123
  replace t127 := (ho 127 (by decide)).trans t127
  replace t131 := (ho 131 (by decide)).trans t131
  replace t132 := (ho 132 (by decide)).trans t132
  replace t135 := (ho 135 (by decide)).trans t135
  replace t139 := (ho 139 (by decide)).trans t139
  clear fr17 ho
  clear t132 t135 t139
  refine take1 18 141 _ (.slice (some ⟨rb, 0, none⟩) I I) #[true, true, true, true, true, true, true, true, true, true, true, true, true, true, true, true, true, true, true, false, false, false, false, false, false, false, false, false] l5_21_i18 l5_21_d18 (by decide) l5_21_s l5_21_f18 l5_21_r18 l5_21_g18 rfl hS0 fr18 ?_ ?_
  · intro wx hx; obtain ⟨h0, h1⟩ := hx; simp only [execOp, l5_21_o18]; go_simp
  intro a19 fr19 t141 ho
  replace t0 := (ho 0 (by decide)).trans t0
  replace t1 := (ho 1 (by decide)).trans t1
  replace t2 := (ho 2 (by decide)).trans t2
  replace t3 := (ho 3 (by decide)).trans t3
  replace t4 := (ho 4 (by decide)).trans t4
  replace t5 := (ho 5 (by decide)).trans t5
  replace t6 := (ho 6 (by decide)).trans t6
  replace t15 := (ho 15 (by decide)).trans t15
  replace t16 := (ho 16 (by decide)).trans t16
  replace t17 := (ho 17 (by decide)).trans t17
  replace t123 := (ho 123 (by decide)).trans t123
  replace t127 := (ho 127 (by decide)).trans t127
  replace t131 := (ho 131 (by decide)).trans t131
  replace t140 := (ho 140 (by decide)).trans t140
  clear fr18 ho
  refine take1 19 142 _ (.int .i64 (k : Nat)) #[true, true, true, true, true, true, true, true, true, true, true, true, true, true, true, true, true, true, true, true, false, false, false, false, false, false, false, false] l5_21_i19 l5_21_d19 (by decide) l5_21_s l5_21_f19 l5_21_r19 l5_21_g19 rfl hS0 fr19 ?_ ?_
  · intro wx hx; obtain ⟨h0, h1⟩ := hx; simp only [execOp, l5_21_o19]; go_simp
  intro a20 fr20 t142 ho
  replace t0 := (ho 0 (by decide)).trans t0
  replace t1 := (ho 1 (by decide)).trans t1
  replace t2 := (ho 2 (by decide)).trans t2
  replace t3 := (ho 3 (by decide)).trans t3
  replace t4 := (ho 4 (by decide)).trans t4
  replace t5 := (ho 5 (by decide)).trans t5
  replace t6 := (ho 6 (by decide)).trans t6
  replace t15 := (ho 15 (by decide)).trans t15
  replace t16 := (ho 16 (by decide)).trans t16
  replace t17 := (ho 17 (by decide)).trans t17
  replace t123 := (ho 123 (by decide)).trans t123
  replace t127 := (ho 127 (by decide)).trans t127
  replace t131 := (ho 131 (by decide)).trans t131
  replace t140 := (ho 140 (by decide)).trans t140
  replace t141 := (ho 141 (by decide)).trans t141
  clear fr19 ho
  refine take1 20 143 _ (.int .i64 (m : Nat)) #[true, true, true, true, true, true, true, true, true, true, true, true, true, true, true, true, true, true, true, true, true, false, false, false, false, false, false, false] l5_21_i20 l5_21_d20 (by decide) l5_21_s l5_21_f20 l5_21_r20 l5_21_g20 rfl hS0 fr20 ?_ ?_
  · intro wx hx; obtain ⟨h0, h1⟩ := hx; simp only [execOp, l5_21_o20]; go_simp
  intro a21 fr21 t143 ho
  replace t0 := (ho 0 (by decide)).trans t0
  replace t1 := (ho 1 (by decide)).trans t1
  replace t2 := (ho 2 (by decide)).trans t2
  replace t3 := (ho 3 (by decide)).trans t3
  replace t4 := (ho 4 (by decide)).trans t4
  replace t5 := (ho 5 (by decide)).trans t5
  replace t6 := (ho 6 (by decide)).trans t6
  replace t15 := (ho 15 (by decide)).trans t15
  replace t16 := (ho 16 (by decide)).trans t16
  replace t17 := (ho 17 (by decide)).trans t17
  replace t123 := (ho 123 (by decide)).trans t123
  replace t127 := (ho 127 (by decide)).trans t127
  replace t131 := (ho 131 (by decide)).trans t131
  replace t140 := (ho 140 (by decide)).trans t140
  replace t141 := (ho 141 (by decide)).trans t141
  replace t142 := (ho 142 (by decide)).trans t142
  clear fr20 ho
  refine take1 21 144 _ (.int .i64 (lo : Nat)) #[true, true, true, true, true, true, true, true, true, true, true, true, true, true, true, true, true, true, true, true, true, true, false, false, false, false, false, false] l5_21_i21 l5_21_d21 (by decide) l5_21_s l5_21_f21 l5_21_r21 l5_21_g21 rfl hS0 fr21 ?_ ?_
  · intro wx hx; obtain ⟨h0, h1⟩ := hx; simp only [execOp, l5_21_o21]; go_simp
  intro a22 fr22 t144 ho
  replace t0 := (ho 0 (by decide)).trans t0
  replace t1 := (ho 1 (by decide)).trans t1
  replace t2 := (ho 2 (by decide)).trans t2
  replace t3 := (ho 3 (by decide)).trans t3
  replace t4 := (ho 4 (by decide)).trans t4
  replace t5 := (ho 5 (by decide)).trans t5
  replace t6 := (ho 6 (by decide)).trans t6
  replace t15 := (ho 15 (by decide)).trans t15
  replace t16 := (ho 16 (by decide)).trans t16
  replace t17 := (ho 17 (by decide)).trans t17
  replace t123 := (ho 123 (by decide)).trans t123
  replace t127 := (ho 127 (by decide)).trans t127
  replace t131 := (ho 131 (by decide)).trans t131
  replace t140 := (ho 140 (by decide)).trans t140
  replace t141 := (ho 141 (by decide)).trans t141
  replace t142 := (ho 142 (by decide)).trans t142
  replace t143 := (ho 143 (by decide)).trans t143
  clear fr21 ho
  clear t142 t143
  refine take1 22 145 _ (.int .i64 (k : Nat)) #[true, true, true, true, true, true, true, true, true, true, true, true, true, true, true, true, true, true, true, true, true, true, true, false, false, false, false, false] l5_21_i22 l5_21_d22 (by decide) l5_21_s l5_21_f22 l5_21_r22 l5_21_g22 rfl hS0 fr22 ?_ ?_
  · intro wx hx; obtain ⟨h0, h1⟩ := hx; simp only [execOp, l5_21_o22]; go_simp
  intro a23 fr23 t145 ho
  replace t0 := (ho 0 (by decide)).trans t0
  replace t1 := (ho 1 (by decide)).trans t1
  replace t2 := (ho 2 (by decide)).trans t2
  replace t3 := (ho 3 (by decide)).trans t3
  replace t4 := (ho 4 (by decide)).trans t4
  replace t5 := (ho 5 (by decide)).trans t5
  replace t6 := (ho 6 (by decide)).trans t6
  replace t15 := (ho 15 (by decide)).trans t15
  replace t16 := (ho 16 (by decide)).trans t16
  replace t17 := (ho 17 (by decide)).trans t17
  replace t123 := (ho 123 (by decide)).trans t123
  replace t127 := (ho 127 (by decide)).trans t127
  replace t131 := (ho 131 (by decide)).trans t131
  replace t140 := (ho 140 (by decide)).trans t140
  replace t141 := (ho 141 (by decide)).trans t141
  replace t144 := (ho 144 (by decide)).trans t144
  clear fr22 ho
  refine take1 23 146 _ (.int .i64 ((k : Nat) + 1)) #[true, true, true, true, true, true, true, true, true, true, true, true, true, true, true, true, true, true, true, true, true, true, true, true, false, false, false, false] l5_21_i23 l5_21_d23 (by decide) l5_21_s l5_21_f23 l5_21_r23 l5_21_g23 rfl hS0 fr23 ?_ ?_
  · intro wx hx; obtain ⟨h0, h1⟩ := hx; simp only [execOp, l5_21_o23]; go_simp
  intro a24 fr24 t146 ho
  replace t0 := (ho 0 (by decide)).trans t0
  replace t1 := (ho 1 (by decide)).trans t1
  replace t2 := (ho 2 (by decide)).trans t2
  replace t3 := (ho 3 (by decide)).trans t3
  replace t4 := (ho 4 (by decide)).trans t4
  replace t5 := (ho 5 (by decide)).trans t5
  replace t6 := (ho 6 (by decide)).trans t6
  replace t15 := (ho 15 (by decide)).trans t15
  replace t16 := (ho 16 (by decide)).trans t16
  replace t17 := (ho 17 (by decide)).trans t17
  replace t123 := (ho 123 (by decide)).trans t123
  replace t127 := (ho 127 (by decide)).trans t127
  replace t131 := (ho 131 (by decide)).trans t131
  replace t140 := (ho 140 (by decide)).trans t140
  replace t141 := (ho 141 (by decide)).trans t141
  replace t144 := (ho 144 (by decide)).trans t144
  replace t145 := (ho 145 (by decide)).trans t145
  clear fr23 ho
  clear t145
  refine take1 24 147 _ (.int .i64 (m : Nat)) #[true, true, true, true, true, true, true, true, true, true, true, true, true, true, true, true, true, true, true, true, true, true, true, true, true, false, false, false] l5_21_i24 l5_21_d24 (by decide) l5_21_s l5_21_f24 l5_21_r24 l5_21_g24 rfl hS0 fr24 ?_ ?_
  · intro wx hx; obtain ⟨h0, h1⟩ := hx; simp only [execOp, l5_21_o24]; go_simp
  intro a25 fr25 t147 ho
  replace t0 := (ho 0 (by decide)).trans t0
  replace t1 := (ho 1 (by decide)).trans t1
  replace t2 := (ho 2 (by decide)).trans t2
  replace t3 := (ho 3 (by decide)).trans t3
  replace t4 := (ho 4 (by decide)).trans t4
  replace t5 := (ho 5 (by decide)).trans t5
  replace t6 := (ho 6 (by decide)).trans t6
  replace t15 := (ho 15 (by decide)).trans t15
  replace t16 := (ho 16 (by decide)).trans t16
  replace t17 := (ho 17 (by decide)).trans t17
  replace t123 := (ho 123 (by decide)).trans t123
  replace t127 := (ho 127 (by decide)).trans t127
  replace t131 := (ho 131 (by decide)).trans t131
  replace t140 := (ho 140 (by decide)).trans t140
  replace t141 := (ho 141 (by decide)).trans t141
  replace t144 := (ho 144 (by decide)).trans t144
  replace t146 := (ho 146 (by decide)).trans t146
  clear fr24 ho
  refine take1 25 148 _ (.int .i64 (hi : Nat)) #[true, true, true, true, true, true, true, true, true, true, true, true, true, true, true, true, true, true, true, true, true, true, true, true, true, true, false, false] l5_21_i25 l5_21_d25 (by decide) l5_21_s l5_21_f25 l5_21_r25 l5_21_g25 rfl hS0 fr25 ?_ ?_
  · intro wx hx; obtain ⟨h0, h1⟩ := hx; simp only [execOp, l5_21_o25]; go_simp
  intro a26 fr26 t148 ho
  replace t0 := (ho 0 (by decide)).trans t0
  replace t1 := (ho 1 (by decide)).trans t1
  replace t2 := (ho 2 (by decide)).trans t2
  replace t3 := (ho 3 (by decide)).trans t3
  replace t4 := (ho 4 (by decide)).trans t4
  replace t5 := (ho 5 (by decide)).trans t5
  replace t6 := (ho 6 (by decide)).trans t6
  replace t15 := (ho 15 (by decide)).trans t15
  replace t16 := (ho 16 (by decide)).trans t16
  replace t17 := (ho 17 (by decide)).trans t17
  replace t123 := (ho 123 (by decide)).trans t123
  replace t127 := (ho 127 (by decide)).trans t127
  replace t131 := (ho 131 (by decide)).trans t131
  replace t140 := (ho 140 (by decide)).trans t140
  replace t141 := (ho 141 (by decide)).trans t141
  replace t144 := (ho 144 (by decide)).trans t144
  replace t146 := (ho 146 (by decide)).trans t146
  replace t147 := (ho 147 (by decide)).trans t147
  clear fr25 ho
  clear t146 t147
  refine take1 26 149 _ (.slice (some ⟨rb, lo, none⟩) (hi - lo) (I - lo)) #[true, true, true, true, true, true, true, true, true, true, true, true, true, true, true, true, true, true, true, true, true, true, true, true, true, true, true, false] l5_21_i26 l5_21_d26 (by decide) l5_21_s l5_21_f26 l5_21_r26 l5_21_g26 rfl hS0 fr26 ?_ ?_
  · intro wx hx; obtain ⟨h0, h1⟩ := hx; simp only [execOp, l5_21_o26]; go_simp
  intro a27 fr27 t149 ho
  replace t0 := (ho 0 (by decide)).trans t0
  replace t1 := (ho 1 (by decide)).trans t1
  replace t2 := (ho 2 (by decide)).trans t2
  replace t3 := (ho 3 (by decide)).trans t3
  replace t4 := (ho 4 (by decide)).trans t4
  replace t5 := (ho 5 (by decide)).trans t5
  replace t6 := (ho 6 (by decide)).trans t6
  replace t15 := (ho 15 (by decide)).trans t15
  replace t16 := (ho 16 (by decide)).trans t16
  replace t17 := (ho 17 (by decide)).trans t17
  replace t123 := (ho 123 (by decide)).trans t123
  replace t127 := (ho 127 (by decide)).trans t127
  replace t131 := (ho 131 (by decide)).trans t131
  replace t140 := (ho 140 (by decide)).trans t140
  replace t141 := (ho 141 (by decide)).trans t141
  replace t144 := (ho 144 (by decide)).trans t144
  replace t148 := (ho 148 (by decide)).trans t148
  clear fr26 ho
  clear t141 t144 t148
  refine only1 27 l5_21_r27 (actC 27 150 _ (.tuple #[]) 20 #[.pointer (some ⟨b2, 0, none⟩), .int .u64 p, .int .i64 ck, .slice (some ⟨ib, lo, none⟩) (hi - lo) (I - lo), .slice (some ⟨rb, lo, none⟩) (hi - lo) (I - lo)] G #[true, true, true, true, true, true, true, true, true, true, true, true, true, true, true, true, true, true, true, true, true, true, true, true, true, true, true, true] l5_21_i27 l5_21_d27 (by decide) l5_21_g27 rfl fr27 ?_ hcall ?_)
  · simp only [execOp, l5_21_o27]; clear hcall; go_simp
  intro aE wE hG frE tE ho
  replace t0 := (ho 0 (by decide)).trans t0
  replace t1 := (ho 1 (by decide)).trans t1
  replace t2 := (ho 2 (by decide)).trans t2
  replace t3 := (ho 3 (by decide)).trans t3
  replace t4 := (ho 4 (by decide)).trans t4
  replace t5 := (ho 5 (by decide)).trans t5
  replace t6 := (ho 6 (by decide)).trans t6
  replace t15 := (ho 15 (by decide)).trans t15
  replace t16 := (ho 16 (by decide)).trans t16
  replace t17 := (ho 17 (by decide)).trans t17
  refine wpAnyH_done l5_21_e ?_ _
  exact ⟨hG, frE, (sl_at _ _).trans t0, (sl_at _ _).trans t1, (sl_at _ _).trans t2, (sl_at _ _).trans t3, (sl_at _ _).trans t4, (sl_at _ _).trans t5, (sl_at _ _).trans t6, (sl_at _ _).trans t15, (sl_at _ _).trans t16, (sl_at _ _).trans t17, trivial⟩

end Go.Proofs.Qxb6602526a
