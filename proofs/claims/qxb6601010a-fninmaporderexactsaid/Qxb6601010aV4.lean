import Derived.Test.Qxb6601010aU2
namespace Go.Proofs.Qxb6601010a
open Go.RowKit
set_option linter.unusedSimpArgs false
set_option linter.unusedVariables false

theorem r32b_s : Region.noSelect (regOps (nthC 1 (inC (tlC (inC (inC (nthC 2 (thC (tlC (nthC 1 (bodyC Try.f32))))))))))) = true := by kernel_rfl
theorem r32b_i0 : (regOps (nthC 1 (inC (tlC (inC (inC (nthC 2 (thC (tlC (nthC 1 (bodyC Try.f32)))))))))))[0]? = some (regOp (nthC 1 (inC (tlC (inC (inC (nthC 2 (thC (tlC (nthC 1 (bodyC Try.f32)))))))))) 0) := by kernel_rfl
theorem r32b_d0 : (regOp (nthC 1 (inC (tlC (inC (inC (nthC 2 (thC (tlC (nthC 1 (bodyC Try.f32)))))))))) 0).dst = some 92 := by kernel_rfl
theorem r32b_g0 : (regOp (nthC 1 (inC (tlC (inC (inC (nthC 2 (thC (tlC (nthC 1 (bodyC Try.f32)))))))))) 0).guard = none := by kernel_rfl
theorem r32b_o0 : (regOp (nthC 1 (inC (tlC (inC (inC (nthC 2 (thC (tlC (nthC 1 (bodyC Try.f32)))))))))) 0).op = Op.move (.tmp 4) := by kernel_rfl
theorem r32b_i1 : (regOps (nthC 1 (inC (tlC (inC (inC (nthC 2 (thC (tlC (nthC 1 (bodyC Try.f32)))))))))))[1]? = some (regOp (nthC 1 (inC (tlC (inC (inC (nthC 2 (thC (tlC (nthC 1 (bodyC Try.f32)))))))))) 1) := by kernel_rfl
theorem r32b_d1 : (regOp (nthC 1 (inC (tlC (inC (inC (nthC 2 (thC (tlC (nthC 1 (bodyC Try.f32)))))))))) 1).dst = some 93 := by kernel_rfl
theorem r32b_g1 : (regOp (nthC 1 (inC (tlC (inC (inC (nthC 2 (thC (tlC (nthC 1 (bodyC Try.f32)))))))))) 1).guard = none := by kernel_rfl
theorem r32b_o1 : (regOp (nthC 1 (inC (tlC (inC (inC (nthC 2 (thC (tlC (nthC 1 (bodyC Try.f32)))))))))) 1).op = Op.move (.tmp 0) := by kernel_rfl
theorem r32b_i2 : (regOps (nthC 1 (inC (tlC (inC (inC (nthC 2 (thC (tlC (nthC 1 (bodyC Try.f32)))))))))))[2]? = some (regOp (nthC 1 (inC (tlC (inC (inC (nthC 2 (thC (tlC (nthC 1 (bodyC Try.f32)))))))))) 2) := by kernel_rfl
theorem r32b_d2 : (regOp (nthC 1 (inC (tlC (inC (inC (nthC 2 (thC (tlC (nthC 1 (bodyC Try.f32)))))))))) 2).dst = some 94 := by kernel_rfl
theorem r32b_g2 : (regOp (nthC 1 (inC (tlC (inC (inC (nthC 2 (thC (tlC (nthC 1 (bodyC Try.f32)))))))))) 2).guard = none := by kernel_rfl
theorem r32b_o2 : (regOp (nthC 1 (inC (tlC (inC (inC (nthC 2 (thC (tlC (nthC 1 (bodyC Try.f32)))))))))) 2).op = Op.move (.tmp 2) := by kernel_rfl
theorem r32b_i3 : (regOps (nthC 1 (inC (tlC (inC (inC (nthC 2 (thC (tlC (nthC 1 (bodyC Try.f32)))))))))))[3]? = some (regOp (nthC 1 (inC (tlC (inC (inC (nthC 2 (thC (tlC (nthC 1 (bodyC Try.f32)))))))))) 3) := by kernel_rfl
theorem r32b_d3 : (regOp (nthC 1 (inC (tlC (inC (inC (nthC 2 (thC (tlC (nthC 1 (bodyC Try.f32)))))))))) 3).dst = some 95 := by kernel_rfl
theorem r32b_g3 : (regOp (nthC 1 (inC (tlC (inC (inC (nthC 2 (thC (tlC (nthC 1 (bodyC Try.f32)))))))))) 3).guard = none := by kernel_rfl
theorem r32b_o3 : (regOp (nthC 1 (inC (tlC (inC (inC (nthC 2 (thC (tlC (nthC 1 (bodyC Try.f32)))))))))) 3).op = Op.indexAddr 34 (.tmp 93) (.tmp 94) := by kernel_rfl
theorem r32b_i4 : (regOps (nthC 1 (inC (tlC (inC (inC (nthC 2 (thC (tlC (nthC 1 (bodyC Try.f32)))))))))))[4]? = some (regOp (nthC 1 (inC (tlC (inC (inC (nthC 2 (thC (tlC (nthC 1 (bodyC Try.f32)))))))))) 4) := by kernel_rfl
theorem r32b_d4 : (regOp (nthC 1 (inC (tlC (inC (inC (nthC 2 (thC (tlC (nthC 1 (bodyC Try.f32)))))))))) 4).dst = some 96 := by kernel_rfl
theorem r32b_g4 : (regOp (nthC 1 (inC (tlC (inC (inC (nthC 2 (thC (tlC (nthC 1 (bodyC Try.f32)))))))))) 4).guard = none := by kernel_rfl
theorem r32b_o4 : (regOp (nthC 1 (inC (tlC (inC (inC (nthC 2 (thC (tlC (nthC 1 (bodyC Try.f32)))))))))) 4).op = Op.load 39 (.tmp 95) := by kernel_rfl
theorem r32b_i5 : (regOps (nthC 1 (inC (tlC (inC (inC (nthC 2 (thC (tlC (nthC 1 (bodyC Try.f32)))))))))))[5]? = some (regOp (nthC 1 (inC (tlC (inC (inC (nthC 2 (thC (tlC (nthC 1 (bodyC Try.f32)))))))))) 5) := by kernel_rfl
theorem r32b_d5 : (regOp (nthC 1 (inC (tlC (inC (inC (nthC 2 (thC (tlC (nthC 1 (bodyC Try.f32)))))))))) 5).dst = some 97 := by kernel_rfl
theorem r32b_g5 : (regOp (nthC 1 (inC (tlC (inC (inC (nthC 2 (thC (tlC (nthC 1 (bodyC Try.f32)))))))))) 5).guard = none := by kernel_rfl
theorem r32b_o5 : (regOp (nthC 1 (inC (tlC (inC (inC (nthC 2 (thC (tlC (nthC 1 (bodyC Try.f32)))))))))) 5).op = Op.move (.tmp 0) := by kernel_rfl
theorem r32b_i6 : (regOps (nthC 1 (inC (tlC (inC (inC (nthC 2 (thC (tlC (nthC 1 (bodyC Try.f32)))))))))))[6]? = some (regOp (nthC 1 (inC (tlC (inC (inC (nthC 2 (thC (tlC (nthC 1 (bodyC Try.f32)))))))))) 6) := by kernel_rfl
theorem r32b_d6 : (regOp (nthC 1 (inC (tlC (inC (inC (nthC 2 (thC (tlC (nthC 1 (bodyC Try.f32)))))))))) 6).dst = some 98 := by kernel_rfl
theorem r32b_g6 : (regOp (nthC 1 (inC (tlC (inC (inC (nthC 2 (thC (tlC (nthC 1 (bodyC Try.f32)))))))))) 6).guard = none := by kernel_rfl
theorem r32b_o6 : (regOp (nthC 1 (inC (tlC (inC (inC (nthC 2 (thC (tlC (nthC 1 (bodyC Try.f32)))))))))) 6).op = Op.move (.tmp 16) := by kernel_rfl
theorem r32b_i7 : (regOps (nthC 1 (inC (tlC (inC (inC (nthC 2 (thC (tlC (nthC 1 (bodyC Try.f32)))))))))))[7]? = some (regOp (nthC 1 (inC (tlC (inC (inC (nthC 2 (thC (tlC (nthC 1 (bodyC Try.f32)))))))))) 7) := by kernel_rfl
theorem r32b_d7 : (regOp (nthC 1 (inC (tlC (inC (inC (nthC 2 (thC (tlC (nthC 1 (bodyC Try.f32)))))))))) 7).dst = some 99 := by kernel_rfl
theorem r32b_g7 : (regOp (nthC 1 (inC (tlC (inC (inC (nthC 2 (thC (tlC (nthC 1 (bodyC Try.f32)))))))))) 7).guard = none := by kernel_rfl
theorem r32b_o7 : (regOp (nthC 1 (inC (tlC (inC (inC (nthC 2 (thC (tlC (nthC 1 (bodyC Try.f32)))))))))) 7).op = Op.indexAddr 34 (.tmp 97) (.tmp 98) := by kernel_rfl
theorem r32b_i8 : (regOps (nthC 1 (inC (tlC (inC (inC (nthC 2 (thC (tlC (nthC 1 (bodyC Try.f32)))))))))))[8]? = some (regOp (nthC 1 (inC (tlC (inC (inC (nthC 2 (thC (tlC (nthC 1 (bodyC Try.f32)))))))))) 8) := by kernel_rfl
theorem r32b_d8 : (regOp (nthC 1 (inC (tlC (inC (inC (nthC 2 (thC (tlC (nthC 1 (bodyC Try.f32)))))))))) 8).dst = some 100 := by kernel_rfl
theorem r32b_g8 : (regOp (nthC 1 (inC (tlC (inC (inC (nthC 2 (thC (tlC (nthC 1 (bodyC Try.f32)))))))))) 8).guard = none := by kernel_rfl
theorem r32b_o8 : (regOp (nthC 1 (inC (tlC (inC (inC (nthC 2 (thC (tlC (nthC 1 (bodyC Try.f32)))))))))) 8).op = Op.load 39 (.tmp 99) := by kernel_rfl
theorem r32b_i9 : (regOps (nthC 1 (inC (tlC (inC (inC (nthC 2 (thC (tlC (nthC 1 (bodyC Try.f32)))))))))))[9]? = some (regOp (nthC 1 (inC (tlC (inC (inC (nthC 2 (thC (tlC (nthC 1 (bodyC Try.f32)))))))))) 9) := by kernel_rfl
theorem r32b_d9 : (regOp (nthC 1 (inC (tlC (inC (inC (nthC 2 (thC (tlC (nthC 1 (bodyC Try.f32)))))))))) 9).dst = some 101 := by kernel_rfl
theorem r32b_g9 : (regOp (nthC 1 (inC (tlC (inC (inC (nthC 2 (thC (tlC (nthC 1 (bodyC Try.f32)))))))))) 9).guard = none := by kernel_rfl
theorem r32b_o9 : (regOp (nthC 1 (inC (tlC (inC (inC (nthC 2 (thC (tlC (nthC 1 (bodyC Try.f32)))))))))) 9).op = Op.call { callee := .value (.tmp 92), args := #[.tmp 96, .tmp 100], argTypes := #[39, 39] } := by kernel_rfl
theorem r32b_i10 : (regOps (nthC 1 (inC (tlC (inC (inC (nthC 2 (thC (tlC (nthC 1 (bodyC Try.f32)))))))))))[10]? = some (regOp (nthC 1 (inC (tlC (inC (inC (nthC 2 (thC (tlC (nthC 1 (bodyC Try.f32)))))))))) 10) := by kernel_rfl
theorem r32b_d10 : (regOp (nthC 1 (inC (tlC (inC (inC (nthC 2 (thC (tlC (nthC 1 (bodyC Try.f32)))))))))) 10).dst = some 102 := by kernel_rfl
theorem r32b_g10 : (regOp (nthC 1 (inC (tlC (inC (inC (nthC 2 (thC (tlC (nthC 1 (bodyC Try.f32)))))))))) 10).guard = none := by kernel_rfl
theorem r32b_o10 : (regOp (nthC 1 (inC (tlC (inC (inC (nthC 2 (thC (tlC (nthC 1 (bodyC Try.f32)))))))))) 10).op = Op.binOp .lss 3 (.tmp 101) (.const (.int .i64 0)) 3 := by kernel_rfl
theorem r32b_i11 : (regOps (nthC 1 (inC (tlC (inC (inC (nthC 2 (thC (tlC (nthC 1 (bodyC Try.f32)))))))))))[11]? = some (regOp (nthC 1 (inC (tlC (inC (inC (nthC 2 (thC (tlC (nthC 1 (bodyC Try.f32)))))))))) 11) := by kernel_rfl
theorem r32b_d11 : (regOp (nthC 1 (inC (tlC (inC (inC (nthC 2 (thC (tlC (nthC 1 (bodyC Try.f32)))))))))) 11).dst = some 103 := by kernel_rfl
theorem r32b_g11 : (regOp (nthC 1 (inC (tlC (inC (inC (nthC 2 (thC (tlC (nthC 1 (bodyC Try.f32)))))))))) 11).guard = none := by kernel_rfl
theorem r32b_o11 : (regOp (nthC 1 (inC (tlC (inC (inC (nthC 2 (thC (tlC (nthC 1 (bodyC Try.f32)))))))))) 11).op = Op.unOp .not 4 (.tmp 102) := by kernel_rfl
theorem r32b_f0 : Region.free .any (regOps (nthC 1 (inC (tlC (inC (inC (nthC 2 (thC (tlC (nthC 1 (bodyC Try.f32))))))))))) #[false, false, false, false, false, false, false, false, false, false, false, false] 0 = true := by kernel_rfl
theorem r32b_r0 : (Region.ready .any (regOps (nthC 1 (inC (tlC (inC (inC (nthC 2 (thC (tlC (nthC 1 (bodyC Try.f32))))))))))) #[false, false, false, false, false, false, false, false, false, false, false, false]).contains 0 = true := by kernel_rfl
theorem r32b_f1 : Region.free .any (regOps (nthC 1 (inC (tlC (inC (inC (nthC 2 (thC (tlC (nthC 1 (bodyC Try.f32))))))))))) #[true, false, false, false, false, false, false, false, false, false, false, false] 1 = true := by kernel_rfl
theorem r32b_r1 : (Region.ready .any (regOps (nthC 1 (inC (tlC (inC (inC (nthC 2 (thC (tlC (nthC 1 (bodyC Try.f32))))))))))) #[true, false, false, false, false, false, false, false, false, false, false, false]).contains 1 = true := by kernel_rfl
theorem r32b_f2 : Region.free .any (regOps (nthC 1 (inC (tlC (inC (inC (nthC 2 (thC (tlC (nthC 1 (bodyC Try.f32))))))))))) #[true, true, false, false, false, false, false, false, false, false, false, false] 2 = true := by kernel_rfl
theorem r32b_r2 : (Region.ready .any (regOps (nthC 1 (inC (tlC (inC (inC (nthC 2 (thC (tlC (nthC 1 (bodyC Try.f32))))))))))) #[true, true, false, false, false, false, false, false, false, false, false, false]).contains 2 = true := by kernel_rfl
theorem r32b_f3 : Region.free .any (regOps (nthC 1 (inC (tlC (inC (inC (nthC 2 (thC (tlC (nthC 1 (bodyC Try.f32))))))))))) #[true, true, true, false, false, false, false, false, false, false, false, false] 3 = true := by kernel_rfl
theorem r32b_r3 : (Region.ready .any (regOps (nthC 1 (inC (tlC (inC (inC (nthC 2 (thC (tlC (nthC 1 (bodyC Try.f32))))))))))) #[true, true, true, false, false, false, false, false, false, false, false, false]).contains 3 = true := by kernel_rfl
theorem r32b_f4 : Region.free .any (regOps (nthC 1 (inC (tlC (inC (inC (nthC 2 (thC (tlC (nthC 1 (bodyC Try.f32))))))))))) #[true, true, true, true, false, false, false, false, false, false, false, false] 4 = true := by kernel_rfl
theorem r32b_r4 : (Region.ready .any (regOps (nthC 1 (inC (tlC (inC (inC (nthC 2 (thC (tlC (nthC 1 (bodyC Try.f32))))))))))) #[true, true, true, true, false, false, false, false, false, false, false, false]).contains 4 = true := by kernel_rfl
theorem r32b_f5 : Region.free .any (regOps (nthC 1 (inC (tlC (inC (inC (nthC 2 (thC (tlC (nthC 1 (bodyC Try.f32))))))))))) #[true, true, true, true, true, false, false, false, false, false, false, false] 5 = true := by kernel_rfl
theorem r32b_r5 : (Region.ready .any (regOps (nthC 1 (inC (tlC (inC (inC (nthC 2 (thC (tlC (nthC 1 (bodyC Try.f32))))))))))) #[true, true, true, true, true, false, false, false, false, false, false, false]).contains 5 = true := by kernel_rfl
theorem r32b_f6 : Region.free .any (regOps (nthC 1 (inC (tlC (inC (inC (nthC 2 (thC (tlC (nthC 1 (bodyC Try.f32))))))))))) #[true, true, true, true, true, true, false, false, false, false, false, false] 6 = true := by kernel_rfl
theorem r32b_r6 : (Region.ready .any (regOps (nthC 1 (inC (tlC (inC (inC (nthC 2 (thC (tlC (nthC 1 (bodyC Try.f32))))))))))) #[true, true, true, true, true, true, false, false, false, false, false, false]).contains 6 = true := by kernel_rfl
theorem r32b_f7 : Region.free .any (regOps (nthC 1 (inC (tlC (inC (inC (nthC 2 (thC (tlC (nthC 1 (bodyC Try.f32))))))))))) #[true, true, true, true, true, true, true, false, false, false, false, false] 7 = true := by kernel_rfl
theorem r32b_r7 : (Region.ready .any (regOps (nthC 1 (inC (tlC (inC (inC (nthC 2 (thC (tlC (nthC 1 (bodyC Try.f32))))))))))) #[true, true, true, true, true, true, true, false, false, false, false, false]).contains 7 = true := by kernel_rfl
theorem r32b_f8 : Region.free .any (regOps (nthC 1 (inC (tlC (inC (inC (nthC 2 (thC (tlC (nthC 1 (bodyC Try.f32))))))))))) #[true, true, true, true, true, true, true, true, false, false, false, false] 8 = true := by kernel_rfl
theorem r32b_r8 : (Region.ready .any (regOps (nthC 1 (inC (tlC (inC (inC (nthC 2 (thC (tlC (nthC 1 (bodyC Try.f32))))))))))) #[true, true, true, true, true, true, true, true, false, false, false, false]).contains 8 = true := by kernel_rfl
theorem r32b_r9 : Region.ready .any (regOps (nthC 1 (inC (tlC (inC (inC (nthC 2 (thC (tlC (nthC 1 (bodyC Try.f32))))))))))) #[true, true, true, true, true, true, true, true, true, false, false, false] = [9] := by kernel_rfl
theorem r32b_f10 : Region.free .any (regOps (nthC 1 (inC (tlC (inC (inC (nthC 2 (thC (tlC (nthC 1 (bodyC Try.f32))))))))))) #[true, true, true, true, true, true, true, true, true, true, false, false] 10 = true := by kernel_rfl
theorem r32b_r10 : (Region.ready .any (regOps (nthC 1 (inC (tlC (inC (inC (nthC 2 (thC (tlC (nthC 1 (bodyC Try.f32))))))))))) #[true, true, true, true, true, true, true, true, true, true, false, false]).contains 10 = true := by kernel_rfl
theorem r32b_f11 : Region.free .any (regOps (nthC 1 (inC (tlC (inC (inC (nthC 2 (thC (tlC (nthC 1 (bodyC Try.f32))))))))))) #[true, true, true, true, true, true, true, true, true, true, true, false] 11 = true := by kernel_rfl
theorem r32b_r11 : (Region.ready .any (regOps (nthC 1 (inC (tlC (inC (inC (nthC 2 (thC (tlC (nthC 1 (bodyC Try.f32))))))))))) #[true, true, true, true, true, true, true, true, true, true, true, false]).contains 11 = true := by kernel_rfl
theorem r32b_re : Region.ready .any (regOps (nthC 1 (inC (tlC (inC (inC (nthC 2 (thC (tlC (nthC 1 (bodyC Try.f32))))))))))) #[true, true, true, true, true, true, true, true, true, true, true, true] = [] := by kernel_rfl

set_option maxRecDepth 10000 in
set_option maxHeartbeats 1000000 in
theorem r32b (b n c lo m hi i j h : Nat) (em eh : Hd) (cv : Int) (G : World → Prop) (a : Act) (w : World) (Q : Exit → Act → World → Prop) (hfr : Fr 220 a) (hs : Slots [(0, .slice (some ⟨b, 0, none⟩) n c), (1, .int .i64 (lo : Nat)), (2, .int .i64 (m : Nat)), (3, .int .i64 (hi : Nat)), (4, .func (.func 27) #[] #[]), (14, .int .i64 (i : Nat)), (15, .int .i64 (j : Nat)), (16, .int .i64 (h : Nat))] a)
    
    (lm : (m : Int) < n) (lh : (h : Int) < n) (hSw : (fun w' : World => w'.cell? ⟨b, m * 2, none⟩ = some (.string em.nm) ∧ w'.cell? ⟨b, m * 2 + 1, none⟩ = some (.slice (some ⟨em.vb, 0, none⟩) 2 2) ∧ w'.cell? ⟨b, h * 2, none⟩ = some (.string eh.nm) ∧ w'.cell? ⟨b, h * 2 + 1, none⟩ = some (.slice (some ⟨eh.vb, 0, none⟩) 2 2)) w) 
    (hcall : Calls Try.prog 27 #[.agg #[.string em.nm, .slice (some ⟨em.vb, 0, none⟩) 2 2], .agg #[.string eh.nm, .slice (some ⟨eh.vb, 0, none⟩) 2 2]] w.drew fun e w' => e = .returned (.int .i64 cv) ∧ (fun w' : World => w'.cell? ⟨b, m * 2, none⟩ = some (.string em.nm) ∧ w'.cell? ⟨b, m * 2 + 1, none⟩ = some (.slice (some ⟨em.vb, 0, none⟩) 2 2) ∧ w'.cell? ⟨b, h * 2, none⟩ = some (.string eh.nm) ∧ w'.cell? ⟨b, h * 2 + 1, none⟩ = some (.slice (some ⟨eh.vb, 0, none⟩) 2 2)) w' ∧ G w')
    (hQ : ∀ a' w', G w' → Fr 220 a' → Slots [(0, .slice (some ⟨b, 0, none⟩) n c), (1, .int .i64 (lo : Nat)), (2, .int .i64 (m : Nat)), (3, .int .i64 (hi : Nat)), (4, .func (.func 27) #[] #[]), (14, .int .i64 (i : Nat)), (15, .int .i64 (j : Nat)), (16, .int .i64 (h : Nat)), (103, .bool (!decide (cv < 0)))] a' → Q .normal a' w') :
    Code.wp Try.prog (nthC 1 (inC (tlC (inC (inC (nthC 2 (thC (tlC (nthC 1 (bodyC Try.f32)))))))))) Q a w := by
  obtain ⟨t0, t1, t2, t3, t4, t14, t15, t16, -⟩ := hs
  replace t0 : a.tmps[0]?.getD undef = .slice (some ⟨b, 0, none⟩) n c := (sl_at a 0).symm.trans t0
  replace t1 : a.tmps[1]?.getD undef = .int .i64 (lo : Nat) := (sl_at a 1).symm.trans t1
  replace t2 : a.tmps[2]?.getD undef = .int .i64 (m : Nat) := (sl_at a 2).symm.trans t2
  replace t3 : a.tmps[3]?.getD undef = .int .i64 (hi : Nat) := (sl_at a 3).symm.trans t3
  replace t4 : a.tmps[4]?.getD undef = .func (.func 27) #[] #[] := (sl_at a 4).symm.trans t4
  replace t14 : a.tmps[14]?.getD undef = .int .i64 (i : Nat) := (sl_at a 14).symm.trans t14
  replace t15 : a.tmps[15]?.getD undef = .int .i64 (j : Nat) := (sl_at a 15).symm.trans t15
  replace t16 : a.tmps[16]?.getD undef = .int .i64 (h : Nat) := (sl_at a 16).symm.trans t16
  have hS0 : (fun w' : World => w'.cell? ⟨b, m * 2, none⟩ = some (.string em.nm) ∧ w'.cell? ⟨b, m * 2 + 1, none⟩ = some (.slice (some ⟨em.vb, 0, none⟩) 2 2) ∧ w'.cell? ⟨b, h * 2, none⟩ = some (.string eh.nm) ∧ w'.cell? ⟨b, h * 2 + 1, none⟩ = some (.slice (some ⟨eh.vb, 0, none⟩) 2 2)) w.drew := hSw
  clear hSw
  refine wp_navR (fun w' : World => w'.cell? ⟨b, m * 2, none⟩ = some (.string em.nm) ∧ w'.cell? ⟨b, m * 2 + 1, none⟩ = some (.slice (some ⟨em.vb, 0, none⟩) 2 2) ∧ w'.cell? ⟨b, h * 2, none⟩ = some (.string eh.nm) ∧ w'.cell? ⟨b, h * 2 + 1, none⟩ = some (.slice (some ⟨eh.vb, 0, none⟩) 2 2)) (fun a' w' => G w' ∧ Fr 220 a' ∧ Slots [(0, .slice (some ⟨b, 0, none⟩) n c), (1, .int .i64 (lo : Nat)), (2, .int .i64 (m : Nat)), (3, .int .i64 (hi : Nat)), (4, .func (.func 27) #[] #[]), (14, .int .i64 (i : Nat)), (15, .int .i64 (j : Nat)), (16, .int .i64 (h : Nat)), (103, .bool (!decide (cv < 0)))] a') 12 #[false, false, false, false, false, false, false, false, false, false, false, false] (by kernel_rfl) (by kernel_rfl) (by kernel_rfl) rfl ?_ (fun a' w' ⟨h1, h2, h3⟩ => hQ a' w' h1 h2 h3)
  clear hQ
  refine take1w 0 92 _ (.func (.func 27) #[] #[]) #[true, false, false, false, false, false, false, false, false, false, false, false] r32b_i0 r32b_d0 (by decide) r32b_s r32b_f0 r32b_r0 (wanted_none r32b_g0) rfl hS0 hfr ?_ ?_
  · intro wx hx; obtain ⟨h0, h1, h2, h3⟩ := hx; simp only [execOp, r32b_o0]; go_simp
  intro a1 fr1 t92 ho
  replace t0 := (ho 0 (by decide)).trans t0
  replace t1 := (ho 1 (by decide)).trans t1
  replace t2 := (ho 2 (by decide)).trans t2
  replace t3 := (ho 3 (by decide)).trans t3
  replace t4 := (ho 4 (by decide)).trans t4
  replace t14 := (ho 14 (by decide)).trans t14
  replace t15 := (ho 15 (by decide)).trans t15
  replace t16 := (ho 16 (by decide)).trans t16
  clear hfr ho
  refine take1w 1 93 _ (.slice (some ⟨b, 0, none⟩) n c) #[true, true, false, false, false, false, false, false, false, false, false, false] r32b_i1 r32b_d1 (by decide) r32b_s r32b_f1 r32b_r1 (wanted_none r32b_g1) rfl hS0 fr1 ?_ ?_
  · intro wx hx; obtain ⟨h0, h1, h2, h3⟩ := hx; simp only [execOp, r32b_o1]; go_simp
  intro a2 fr2 t93 ho
  replace t0 := (ho 0 (by decide)).trans t0
  replace t1 := (ho 1 (by decide)).trans t1
  replace t2 := (ho 2 (by decide)).trans t2
  replace t3 := (ho 3 (by decide)).trans t3
  replace t4 := (ho 4 (by decide)).trans t4
  replace t14 := (ho 14 (by decide)).trans t14
  replace t15 := (ho 15 (by decide)).trans t15
  replace t16 := (ho 16 (by decide)).trans t16
  replace t92 := (ho 92 (by decide)).trans t92
  clear fr1 ho
  refine take1w 2 94 _ (.int .i64 (m : Nat)) #[true, true, true, false, false, false, false, false, false, false, false, false] r32b_i2 r32b_d2 (by decide) r32b_s r32b_f2 r32b_r2 (wanted_none r32b_g2) rfl hS0 fr2 ?_ ?_
  · intro wx hx; obtain ⟨h0, h1, h2, h3⟩ := hx; simp only [execOp, r32b_o2]; go_simp
  intro a3 fr3 t94 ho
  replace t0 := (ho 0 (by decide)).trans t0
  replace t1 := (ho 1 (by decide)).trans t1
  replace t2 := (ho 2 (by decide)).trans t2
  replace t3 := (ho 3 (by decide)).trans t3
  replace t4 := (ho 4 (by decide)).trans t4
  replace t14 := (ho 14 (by decide)).trans t14
  replace t15 := (ho 15 (by decide)).trans t15
  replace t16 := (ho 16 (by decide)).trans t16
  replace t92 := (ho 92 (by decide)).trans t92
  replace t93 := (ho 93 (by decide)).trans t93
  clear fr2 ho
  refine take1w 3 95 _ (.pointer (some ⟨b, m * 2, none⟩)) #[true, true, true, true, false, false, false, false, false, false, false, false] r32b_i3 r32b_d3 (by decide) r32b_s r32b_f3 r32b_r3 (wanted_none r32b_g3) rfl hS0 fr3 ?_ ?_
  · intro wx hx; obtain ⟨h0, h1, h2, h3⟩ := hx; simp only [execOp, r32b_o3]; go_simp
  intro a4 fr4 t95 ho
  replace t0 := (ho 0 (by decide)).trans t0
  replace t1 := (ho 1 (by decide)).trans t1
  replace t2 := (ho 2 (by decide)).trans t2
  replace t3 := (ho 3 (by decide)).trans t3
  replace t4 := (ho 4 (by decide)).trans t4
  replace t14 := (ho 14 (by decide)).trans t14
  replace t15 := (ho 15 (by decide)).trans t15
  replace t16 := (ho 16 (by decide)).trans t16
  replace t92 := (ho 92 (by decide)).trans t92
  replace t93 := (ho 93 (by decide)).trans t93
  replace t94 := (ho 94 (by decide)).trans t94
  clear fr3 ho
  refine take1w 4 96 _ (.agg #[.string em.nm, .slice (some ⟨em.vb, 0, none⟩) 2 2]) #[true, true, true, true, true, false, false, false, false, false, false, false] r32b_i4 r32b_d4 (by decide) r32b_s r32b_f4 r32b_r4 (wanted_none r32b_g4) rfl hS0 fr4 ?_ ?_
  · intro wx hx; obtain ⟨h0, h1, h2, h3⟩ := hx; simp only [execOp, r32b_o4]; go_simp
  intro a5 fr5 t96 ho
  replace t0 := (ho 0 (by decide)).trans t0
  replace t1 := (ho 1 (by decide)).trans t1
  replace t2 := (ho 2 (by decide)).trans t2
  replace t3 := (ho 3 (by decide)).trans t3
  replace t4 := (ho 4 (by decide)).trans t4
  replace t14 := (ho 14 (by decide)).trans t14
  replace t15 := (ho 15 (by decide)).trans t15
  replace t16 := (ho 16 (by decide)).trans t16
  replace t92 := (ho 92 (by decide)).trans t92
  replace t93 := (ho 93 (by decide)).trans t93
  replace t94 := (ho 94 (by decide)).trans t94
  replace t95 := (ho 95 (by decide)).trans t95
  clear fr4 ho
  refine take1w 5 97 _ (.slice (some ⟨b, 0, none⟩) n c) #[true, true, true, true, true, true, false, false, false, false, false, false] r32b_i5 r32b_d5 (by decide) r32b_s r32b_f5 r32b_r5 (wanted_none r32b_g5) rfl hS0 fr5 ?_ ?_
  · intro wx hx; obtain ⟨h0, h1, h2, h3⟩ := hx; simp only [execOp, r32b_o5]; go_simp
  intro a6 fr6 t97 ho
  replace t0 := (ho 0 (by decide)).trans t0
  replace t1 := (ho 1 (by decide)).trans t1
  replace t2 := (ho 2 (by decide)).trans t2
  replace t3 := (ho 3 (by decide)).trans t3
  replace t4 := (ho 4 (by decide)).trans t4
  replace t14 := (ho 14 (by decide)).trans t14
  replace t15 := (ho 15 (by decide)).trans t15
  replace t16 := (ho 16 (by decide)).trans t16
  replace t92 := (ho 92 (by decide)).trans t92
  replace t93 := (ho 93 (by decide)).trans t93
  replace t94 := (ho 94 (by decide)).trans t94
  replace t95 := (ho 95 (by decide)).trans t95
  replace t96 := (ho 96 (by decide)).trans t96
  clear fr5 ho
  refine take1w 6 98 _ (.int .i64 (h : Nat)) #[true, true, true, true, true, true, true, false, false, false, false, false] r32b_i6 r32b_d6 (by decide) r32b_s r32b_f6 r32b_r6 (wanted_none r32b_g6) rfl hS0 fr6 ?_ ?_
  · intro wx hx; obtain ⟨h0, h1, h2, h3⟩ := hx; simp only [execOp, r32b_o6]; go_simp
  intro a7 fr7 t98 ho
  replace t0 := (ho 0 (by decide)).trans t0
  replace t1 := (ho 1 (by decide)).trans t1
  replace t2 := (ho 2 (by decide)).trans t2
  replace t3 := (ho 3 (by decide)).trans t3
  replace t4 := (ho 4 (by decide)).trans t4
  replace t14 := (ho 14 (by decide)).trans t14
  replace t15 := (ho 15 (by decide)).trans t15
  replace t16 := (ho 16 (by decide)).trans t16
  replace t92 := (ho 92 (by decide)).trans t92
  replace t93 := (ho 93 (by decide)).trans t93
  replace t94 := (ho 94 (by decide)).trans t94
  replace t95 := (ho 95 (by decide)).trans t95
  replace t96 := (ho 96 (by decide)).trans t96
  replace t97 := (ho 97 (by decide)).trans t97
  clear fr6 ho
  refine take1w 7 99 _ (.pointer (some ⟨b, h * 2, none⟩)) #[true, true, true, true, true, true, true, true, false, false, false, false] r32b_i7 r32b_d7 (by decide) r32b_s r32b_f7 r32b_r7 (wanted_none r32b_g7) rfl hS0 fr7 ?_ ?_
  · intro wx hx; obtain ⟨h0, h1, h2, h3⟩ := hx; simp only [execOp, r32b_o7]; go_simp
  intro a8 fr8 t99 ho
  replace t0 := (ho 0 (by decide)).trans t0
  replace t1 := (ho 1 (by decide)).trans t1
  replace t2 := (ho 2 (by decide)).trans t2
  replace t3 := (ho 3 (by decide)).trans t3
  replace t4 := (ho 4 (by decide)).trans t4
  replace t14 := (ho 14 (by decide)).trans t14
  replace t15 := (ho 15 (by decide)).trans t15
  replace t16 := (ho 16 (by decide)).trans t16
  replace t92 := (ho 92 (by decide)).trans t92
  replace t93 := (ho 93 (by decide)).trans t93
  replace t94 := (ho 94 (by decide)).trans t94
  replace t95 := (ho 95 (by decide)).trans t95
  replace t96 := (ho 96 (by decide)).trans t96
  replace t97 := (ho 97 (by decide)).trans t97
  replace t98 := (ho 98 (by decide)).trans t98
  clear fr7 ho
  refine take1w 8 100 _ (.agg #[.string eh.nm, .slice (some ⟨eh.vb, 0, none⟩) 2 2]) #[true, true, true, true, true, true, true, true, true, false, false, false] r32b_i8 r32b_d8 (by decide) r32b_s r32b_f8 r32b_r8 (wanted_none r32b_g8) rfl hS0 fr8 ?_ ?_
  · intro wx hx; obtain ⟨h0, h1, h2, h3⟩ := hx; simp only [execOp, r32b_o8]; go_simp
  intro a9 fr9 t100 ho
  replace t0 := (ho 0 (by decide)).trans t0
  replace t1 := (ho 1 (by decide)).trans t1
  replace t2 := (ho 2 (by decide)).trans t2
  replace t3 := (ho 3 (by decide)).trans t3
  replace t4 := (ho 4 (by decide)).trans t4
  replace t14 := (ho 14 (by decide)).trans t14
  replace t15 := (ho 15 (by decide)).trans t15
  replace t16 := (ho 16 (by decide)).trans t16
  replace t92 := (ho 92 (by decide)).trans t92
  replace t93 := (ho 93 (by decide)).trans t93
  replace t94 := (ho 94 (by decide)).trans t94
  replace t95 := (ho 95 (by decide)).trans t95
  replace t96 := (ho 96 (by decide)).trans t96
  replace t97 := (ho 97 (by decide)).trans t97
  replace t98 := (ho 98 (by decide)).trans t98
  replace t99 := (ho 99 (by decide)).trans t99
  clear fr8 ho
  refine only1 9 r32b_r9 (actCw 9 101 _ (.int .i64 cv) 27 #[.agg #[.string em.nm, .slice (some ⟨em.vb, 0, none⟩) 2 2], .agg #[.string eh.nm, .slice (some ⟨eh.vb, 0, none⟩) 2 2]] G #[true, true, true, true, true, true, true, true, true, true, false, false] r32b_i9 r32b_d9 (by decide) (wanted_none r32b_g9) rfl fr9 ?_ hcall ?_)
  · simp only [execOp, r32b_o9]; clear hcall; go_simp
  intro a10 w10 hSE hG fr10 t101 ho
  replace t0 := (ho 0 (by decide)).trans t0
  replace t1 := (ho 1 (by decide)).trans t1
  replace t2 := (ho 2 (by decide)).trans t2
  replace t3 := (ho 3 (by decide)).trans t3
  replace t4 := (ho 4 (by decide)).trans t4
  replace t14 := (ho 14 (by decide)).trans t14
  replace t15 := (ho 15 (by decide)).trans t15
  replace t16 := (ho 16 (by decide)).trans t16
  replace t92 := (ho 92 (by decide)).trans t92
  replace t93 := (ho 93 (by decide)).trans t93
  replace t94 := (ho 94 (by decide)).trans t94
  replace t95 := (ho 95 (by decide)).trans t95
  replace t96 := (ho 96 (by decide)).trans t96
  replace t97 := (ho 97 (by decide)).trans t97
  replace t98 := (ho 98 (by decide)).trans t98
  replace t99 := (ho 99 (by decide)).trans t99
  replace t100 := (ho 100 (by decide)).trans t100
  clear fr9 ho hcall
  refine take1w 10 102 _ (.bool (decide (cv < 0))) #[true, true, true, true, true, true, true, true, true, true, true, false] r32b_i10 r32b_d10 (by decide) r32b_s r32b_f10 r32b_r10 (wanted_none r32b_g10) rfl hSE fr10 ?_ ?_
  · intro wx hx; obtain ⟨h0, h1, h2, h3⟩ := hx; simp only [execOp, r32b_o10]; go_simp
  intro a11 fr11 t102 ho
  replace t0 := (ho 0 (by decide)).trans t0
  replace t1 := (ho 1 (by decide)).trans t1
  replace t2 := (ho 2 (by decide)).trans t2
  replace t3 := (ho 3 (by decide)).trans t3
  replace t4 := (ho 4 (by decide)).trans t4
  replace t14 := (ho 14 (by decide)).trans t14
  replace t15 := (ho 15 (by decide)).trans t15
  replace t16 := (ho 16 (by decide)).trans t16
  replace t92 := (ho 92 (by decide)).trans t92
  replace t93 := (ho 93 (by decide)).trans t93
  replace t94 := (ho 94 (by decide)).trans t94
  replace t95 := (ho 95 (by decide)).trans t95
  replace t96 := (ho 96 (by decide)).trans t96
  replace t97 := (ho 97 (by decide)).trans t97
  replace t98 := (ho 98 (by decide)).trans t98
  replace t99 := (ho 99 (by decide)).trans t99
  replace t100 := (ho 100 (by decide)).trans t100
  replace t101 := (ho 101 (by decide)).trans t101
  clear fr10 ho
  refine take1w 11 103 _ (.bool (!decide (cv < 0))) #[true, true, true, true, true, true, true, true, true, true, true, true] r32b_i11 r32b_d11 (by decide) r32b_s r32b_f11 r32b_r11 (wanted_none r32b_g11) rfl hSE fr11 ?_ ?_
  · intro wx hx; obtain ⟨h0, h1, h2, h3⟩ := hx; simp only [execOp, r32b_o11]; go_simp
  intro a12 fr12 t103 ho
  replace t0 := (ho 0 (by decide)).trans t0
  replace t1 := (ho 1 (by decide)).trans t1
  replace t2 := (ho 2 (by decide)).trans t2
  replace t3 := (ho 3 (by decide)).trans t3
  replace t4 := (ho 4 (by decide)).trans t4
  replace t14 := (ho 14 (by decide)).trans t14
  replace t15 := (ho 15 (by decide)).trans t15
  replace t16 := (ho 16 (by decide)).trans t16
  replace t92 := (ho 92 (by decide)).trans t92
  replace t93 := (ho 93 (by decide)).trans t93
  replace t94 := (ho 94 (by decide)).trans t94
  replace t95 := (ho 95 (by decide)).trans t95
  replace t96 := (ho 96 (by decide)).trans t96
  replace t97 := (ho 97 (by decide)).trans t97
  replace t98 := (ho 98 (by decide)).trans t98
  replace t99 := (ho 99 (by decide)).trans t99
  replace t100 := (ho 100 (by decide)).trans t100
  replace t101 := (ho 101 (by decide)).trans t101
  replace t102 := (ho 102 (by decide)).trans t102
  clear fr11 ho
  refine wpAnyH_done r32b_re ?_ _
  exact ⟨hG, fr12, (sl_at _ _).trans t0, (sl_at _ _).trans t1, (sl_at _ _).trans t2, (sl_at _ _).trans t3, (sl_at _ _).trans t4, (sl_at _ _).trans t14, (sl_at _ _).trans t15, (sl_at _ _).trans t16, (sl_at _ _).trans t103, trivial⟩

theorem w32b_s : Region.noSelect (regOps (inC (hdC (tlC (inC (inC (tlC (nthC 3 (thC (tlC (nthC 1 (bodyC Try.f32)))))))))))) = true := by kernel_rfl
theorem w32b_i0 : (regOps (inC (hdC (tlC (inC (inC (tlC (nthC 3 (thC (tlC (nthC 1 (bodyC Try.f32))))))))))))[0]? = some (regOp (inC (hdC (tlC (inC (inC (tlC (nthC 3 (thC (tlC (nthC 1 (bodyC Try.f32))))))))))) 0) := by kernel_rfl
theorem w32b_d0 : (regOp (inC (hdC (tlC (inC (inC (tlC (nthC 3 (thC (tlC (nthC 1 (bodyC Try.f32))))))))))) 0).dst = some 113 := by kernel_rfl
theorem w32b_g0 : (regOp (inC (hdC (tlC (inC (inC (tlC (nthC 3 (thC (tlC (nthC 1 (bodyC Try.f32))))))))))) 0).guard = none := by kernel_rfl
theorem w32b_o0 : (regOp (inC (hdC (tlC (inC (inC (tlC (nthC 3 (thC (tlC (nthC 1 (bodyC Try.f32))))))))))) 0).op = Op.move (.tmp 0) := by kernel_rfl
theorem w32b_i1 : (regOps (inC (hdC (tlC (inC (inC (tlC (nthC 3 (thC (tlC (nthC 1 (bodyC Try.f32))))))))))))[1]? = some (regOp (inC (hdC (tlC (inC (inC (tlC (nthC 3 (thC (tlC (nthC 1 (bodyC Try.f32))))))))))) 1) := by kernel_rfl
theorem w32b_d1 : (regOp (inC (hdC (tlC (inC (inC (tlC (nthC 3 (thC (tlC (nthC 1 (bodyC Try.f32))))))))))) 1).dst = some 114 := by kernel_rfl
theorem w32b_g1 : (regOp (inC (hdC (tlC (inC (inC (tlC (nthC 3 (thC (tlC (nthC 1 (bodyC Try.f32))))))))))) 1).guard = none := by kernel_rfl
theorem w32b_o1 : (regOp (inC (hdC (tlC (inC (inC (tlC (nthC 3 (thC (tlC (nthC 1 (bodyC Try.f32))))))))))) 1).op = Op.move (.tmp 17) := by kernel_rfl
theorem w32b_i2 : (regOps (inC (hdC (tlC (inC (inC (tlC (nthC 3 (thC (tlC (nthC 1 (bodyC Try.f32))))))))))))[2]? = some (regOp (inC (hdC (tlC (inC (inC (tlC (nthC 3 (thC (tlC (nthC 1 (bodyC Try.f32))))))))))) 2) := by kernel_rfl
theorem w32b_d2 : (regOp (inC (hdC (tlC (inC (inC (tlC (nthC 3 (thC (tlC (nthC 1 (bodyC Try.f32))))))))))) 2).dst = some 115 := by kernel_rfl
theorem w32b_g2 : (regOp (inC (hdC (tlC (inC (inC (tlC (nthC 3 (thC (tlC (nthC 1 (bodyC Try.f32))))))))))) 2).guard = none := by kernel_rfl
theorem w32b_o2 : (regOp (inC (hdC (tlC (inC (inC (tlC (nthC 3 (thC (tlC (nthC 1 (bodyC Try.f32))))))))))) 2).op = Op.move (.tmp 0) := by kernel_rfl
theorem w32b_i3 : (regOps (inC (hdC (tlC (inC (inC (tlC (nthC 3 (thC (tlC (nthC 1 (bodyC Try.f32))))))))))))[3]? = some (regOp (inC (hdC (tlC (inC (inC (tlC (nthC 3 (thC (tlC (nthC 1 (bodyC Try.f32))))))))))) 3) := by kernel_rfl
theorem w32b_d3 : (regOp (inC (hdC (tlC (inC (inC (tlC (nthC 3 (thC (tlC (nthC 1 (bodyC Try.f32))))))))))) 3).dst = some 116 := by kernel_rfl
theorem w32b_g3 : (regOp (inC (hdC (tlC (inC (inC (tlC (nthC 3 (thC (tlC (nthC 1 (bodyC Try.f32))))))))))) 3).guard = none := by kernel_rfl
theorem w32b_o3 : (regOp (inC (hdC (tlC (inC (inC (tlC (nthC 3 (thC (tlC (nthC 1 (bodyC Try.f32))))))))))) 3).op = Op.move (.tmp 17) := by kernel_rfl
theorem w32b_i4 : (regOps (inC (hdC (tlC (inC (inC (tlC (nthC 3 (thC (tlC (nthC 1 (bodyC Try.f32))))))))))))[4]? = some (regOp (inC (hdC (tlC (inC (inC (tlC (nthC 3 (thC (tlC (nthC 1 (bodyC Try.f32))))))))))) 4) := by kernel_rfl
theorem w32b_d4 : (regOp (inC (hdC (tlC (inC (inC (tlC (nthC 3 (thC (tlC (nthC 1 (bodyC Try.f32))))))))))) 4).dst = some 117 := by kernel_rfl
theorem w32b_g4 : (regOp (inC (hdC (tlC (inC (inC (tlC (nthC 3 (thC (tlC (nthC 1 (bodyC Try.f32))))))))))) 4).guard = none := by kernel_rfl
theorem w32b_o4 : (regOp (inC (hdC (tlC (inC (inC (tlC (nthC 3 (thC (tlC (nthC 1 (bodyC Try.f32))))))))))) 4).op = Op.binOp .sub 3 (.tmp 116) (.const (.int .i64 1)) 3 := by kernel_rfl
theorem w32b_i5 : (regOps (inC (hdC (tlC (inC (inC (tlC (nthC 3 (thC (tlC (nthC 1 (bodyC Try.f32))))))))))))[5]? = some (regOp (inC (hdC (tlC (inC (inC (tlC (nthC 3 (thC (tlC (nthC 1 (bodyC Try.f32))))))))))) 5) := by kernel_rfl
theorem w32b_d5 : (regOp (inC (hdC (tlC (inC (inC (tlC (nthC 3 (thC (tlC (nthC 1 (bodyC Try.f32))))))))))) 5).dst = some 118 := by kernel_rfl
theorem w32b_g5 : (regOp (inC (hdC (tlC (inC (inC (tlC (nthC 3 (thC (tlC (nthC 1 (bodyC Try.f32))))))))))) 5).guard = none := by kernel_rfl
theorem w32b_o5 : (regOp (inC (hdC (tlC (inC (inC (tlC (nthC 3 (thC (tlC (nthC 1 (bodyC Try.f32))))))))))) 5).op = Op.move (.tmp 0) := by kernel_rfl
theorem w32b_i6 : (regOps (inC (hdC (tlC (inC (inC (tlC (nthC 3 (thC (tlC (nthC 1 (bodyC Try.f32))))))))))))[6]? = some (regOp (inC (hdC (tlC (inC (inC (tlC (nthC 3 (thC (tlC (nthC 1 (bodyC Try.f32))))))))))) 6) := by kernel_rfl
theorem w32b_d6 : (regOp (inC (hdC (tlC (inC (inC (tlC (nthC 3 (thC (tlC (nthC 1 (bodyC Try.f32))))))))))) 6).dst = some 119 := by kernel_rfl
theorem w32b_g6 : (regOp (inC (hdC (tlC (inC (inC (tlC (nthC 3 (thC (tlC (nthC 1 (bodyC Try.f32))))))))))) 6).guard = none := by kernel_rfl
theorem w32b_o6 : (regOp (inC (hdC (tlC (inC (inC (tlC (nthC 3 (thC (tlC (nthC 1 (bodyC Try.f32))))))))))) 6).op = Op.move (.tmp 17) := by kernel_rfl
theorem w32b_i7 : (regOps (inC (hdC (tlC (inC (inC (tlC (nthC 3 (thC (tlC (nthC 1 (bodyC Try.f32))))))))))))[7]? = some (regOp (inC (hdC (tlC (inC (inC (tlC (nthC 3 (thC (tlC (nthC 1 (bodyC Try.f32))))))))))) 7) := by kernel_rfl
theorem w32b_d7 : (regOp (inC (hdC (tlC (inC (inC (tlC (nthC 3 (thC (tlC (nthC 1 (bodyC Try.f32))))))))))) 7).dst = some 120 := by kernel_rfl
theorem w32b_g7 : (regOp (inC (hdC (tlC (inC (inC (tlC (nthC 3 (thC (tlC (nthC 1 (bodyC Try.f32))))))))))) 7).guard = none := by kernel_rfl
theorem w32b_o7 : (regOp (inC (hdC (tlC (inC (inC (tlC (nthC 3 (thC (tlC (nthC 1 (bodyC Try.f32))))))))))) 7).op = Op.binOp .sub 3 (.tmp 119) (.const (.int .i64 1)) 3 := by kernel_rfl
theorem w32b_i8 : (regOps (inC (hdC (tlC (inC (inC (tlC (nthC 3 (thC (tlC (nthC 1 (bodyC Try.f32))))))))))))[8]? = some (regOp (inC (hdC (tlC (inC (inC (tlC (nthC 3 (thC (tlC (nthC 1 (bodyC Try.f32))))))))))) 8) := by kernel_rfl
theorem w32b_d8 : (regOp (inC (hdC (tlC (inC (inC (tlC (nthC 3 (thC (tlC (nthC 1 (bodyC Try.f32))))))))))) 8).dst = some 121 := by kernel_rfl
theorem w32b_g8 : (regOp (inC (hdC (tlC (inC (inC (tlC (nthC 3 (thC (tlC (nthC 1 (bodyC Try.f32))))))))))) 8).guard = none := by kernel_rfl
theorem w32b_o8 : (regOp (inC (hdC (tlC (inC (inC (tlC (nthC 3 (thC (tlC (nthC 1 (bodyC Try.f32))))))))))) 8).op = Op.indexAddr 34 (.tmp 118) (.tmp 120) := by kernel_rfl
theorem w32b_i9 : (regOps (inC (hdC (tlC (inC (inC (tlC (nthC 3 (thC (tlC (nthC 1 (bodyC Try.f32))))))))))))[9]? = some (regOp (inC (hdC (tlC (inC (inC (tlC (nthC 3 (thC (tlC (nthC 1 (bodyC Try.f32))))))))))) 9) := by kernel_rfl
theorem w32b_d9 : (regOp (inC (hdC (tlC (inC (inC (tlC (nthC 3 (thC (tlC (nthC 1 (bodyC Try.f32))))))))))) 9).dst = some 122 := by kernel_rfl
theorem w32b_g9 : (regOp (inC (hdC (tlC (inC (inC (tlC (nthC 3 (thC (tlC (nthC 1 (bodyC Try.f32))))))))))) 9).guard = none := by kernel_rfl
theorem w32b_o9 : (regOp (inC (hdC (tlC (inC (inC (tlC (nthC 3 (thC (tlC (nthC 1 (bodyC Try.f32))))))))))) 9).op = Op.load 39 (.tmp 121) := by kernel_rfl
theorem w32b_i10 : (regOps (inC (hdC (tlC (inC (inC (tlC (nthC 3 (thC (tlC (nthC 1 (bodyC Try.f32))))))))))))[10]? = some (regOp (inC (hdC (tlC (inC (inC (tlC (nthC 3 (thC (tlC (nthC 1 (bodyC Try.f32))))))))))) 10) := by kernel_rfl
theorem w32b_d10 : (regOp (inC (hdC (tlC (inC (inC (tlC (nthC 3 (thC (tlC (nthC 1 (bodyC Try.f32))))))))))) 10).dst = some 123 := by kernel_rfl
theorem w32b_g10 : (regOp (inC (hdC (tlC (inC (inC (tlC (nthC 3 (thC (tlC (nthC 1 (bodyC Try.f32))))))))))) 10).guard = none := by kernel_rfl
theorem w32b_o10 : (regOp (inC (hdC (tlC (inC (inC (tlC (nthC 3 (thC (tlC (nthC 1 (bodyC Try.f32))))))))))) 10).op = Op.move (.tmp 0) := by kernel_rfl
theorem w32b_i11 : (regOps (inC (hdC (tlC (inC (inC (tlC (nthC 3 (thC (tlC (nthC 1 (bodyC Try.f32))))))))))))[11]? = some (regOp (inC (hdC (tlC (inC (inC (tlC (nthC 3 (thC (tlC (nthC 1 (bodyC Try.f32))))))))))) 11) := by kernel_rfl
theorem w32b_d11 : (regOp (inC (hdC (tlC (inC (inC (tlC (nthC 3 (thC (tlC (nthC 1 (bodyC Try.f32))))))))))) 11).dst = some 124 := by kernel_rfl
theorem w32b_g11 : (regOp (inC (hdC (tlC (inC (inC (tlC (nthC 3 (thC (tlC (nthC 1 (bodyC Try.f32))))))))))) 11).guard = none := by kernel_rfl
theorem w32b_o11 : (regOp (inC (hdC (tlC (inC (inC (tlC (nthC 3 (thC (tlC (nthC 1 (bodyC Try.f32))))))))))) 11).op = Op.move (.tmp 17) := by kernel_rfl
theorem w32b_i12 : (regOps (inC (hdC (tlC (inC (inC (tlC (nthC 3 (thC (tlC (nthC 1 (bodyC Try.f32))))))))))))[12]? = some (regOp (inC (hdC (tlC (inC (inC (tlC (nthC 3 (thC (tlC (nthC 1 (bodyC Try.f32))))))))))) 12) := by kernel_rfl
theorem w32b_d12 : (regOp (inC (hdC (tlC (inC (inC (tlC (nthC 3 (thC (tlC (nthC 1 (bodyC Try.f32))))))))))) 12).dst = some 125 := by kernel_rfl
theorem w32b_g12 : (regOp (inC (hdC (tlC (inC (inC (tlC (nthC 3 (thC (tlC (nthC 1 (bodyC Try.f32))))))))))) 12).guard = none := by kernel_rfl
theorem w32b_o12 : (regOp (inC (hdC (tlC (inC (inC (tlC (nthC 3 (thC (tlC (nthC 1 (bodyC Try.f32))))))))))) 12).op = Op.indexAddr 34 (.tmp 123) (.tmp 124) := by kernel_rfl
theorem w32b_i13 : (regOps (inC (hdC (tlC (inC (inC (tlC (nthC 3 (thC (tlC (nthC 1 (bodyC Try.f32))))))))))))[13]? = some (regOp (inC (hdC (tlC (inC (inC (tlC (nthC 3 (thC (tlC (nthC 1 (bodyC Try.f32))))))))))) 13) := by kernel_rfl
theorem w32b_d13 : (regOp (inC (hdC (tlC (inC (inC (tlC (nthC 3 (thC (tlC (nthC 1 (bodyC Try.f32))))))))))) 13).dst = some 126 := by kernel_rfl
theorem w32b_g13 : (regOp (inC (hdC (tlC (inC (inC (tlC (nthC 3 (thC (tlC (nthC 1 (bodyC Try.f32))))))))))) 13).guard = none := by kernel_rfl
theorem w32b_o13 : (regOp (inC (hdC (tlC (inC (inC (tlC (nthC 3 (thC (tlC (nthC 1 (bodyC Try.f32))))))))))) 13).op = Op.load 39 (.tmp 125) := by kernel_rfl
theorem w32b_i14 : (regOps (inC (hdC (tlC (inC (inC (tlC (nthC 3 (thC (tlC (nthC 1 (bodyC Try.f32))))))))))))[14]? = some (regOp (inC (hdC (tlC (inC (inC (tlC (nthC 3 (thC (tlC (nthC 1 (bodyC Try.f32))))))))))) 14) := by kernel_rfl
theorem w32b_d14 : (regOp (inC (hdC (tlC (inC (inC (tlC (nthC 3 (thC (tlC (nthC 1 (bodyC Try.f32))))))))))) 14).dst = some 127 := by kernel_rfl
theorem w32b_g14 : (regOp (inC (hdC (tlC (inC (inC (tlC (nthC 3 (thC (tlC (nthC 1 (bodyC Try.f32))))))))))) 14).guard = none := by kernel_rfl
theorem w32b_o14 : (regOp (inC (hdC (tlC (inC (inC (tlC (nthC 3 (thC (tlC (nthC 1 (bodyC Try.f32))))))))))) 14).op = Op.indexAddr 34 (.tmp 113) (.tmp 114) := by kernel_rfl
theorem w32b_i15 : (regOps (inC (hdC (tlC (inC (inC (tlC (nthC 3 (thC (tlC (nthC 1 (bodyC Try.f32))))))))))))[15]? = some (regOp (inC (hdC (tlC (inC (inC (tlC (nthC 3 (thC (tlC (nthC 1 (bodyC Try.f32))))))))))) 15) := by kernel_rfl
theorem w32b_d15 : (regOp (inC (hdC (tlC (inC (inC (tlC (nthC 3 (thC (tlC (nthC 1 (bodyC Try.f32))))))))))) 15).dst = none := by kernel_rfl
theorem w32b_g15 : (regOp (inC (hdC (tlC (inC (inC (tlC (nthC 3 (thC (tlC (nthC 1 (bodyC Try.f32))))))))))) 15).guard = none := by kernel_rfl
theorem w32b_o15 : (regOp (inC (hdC (tlC (inC (inC (tlC (nthC 3 (thC (tlC (nthC 1 (bodyC Try.f32))))))))))) 15).op = Op.store 39 (.tmp 127) (.tmp 122) := by kernel_rfl
theorem w32b_i16 : (regOps (inC (hdC (tlC (inC (inC (tlC (nthC 3 (thC (tlC (nthC 1 (bodyC Try.f32))))))))))))[16]? = some (regOp (inC (hdC (tlC (inC (inC (tlC (nthC 3 (thC (tlC (nthC 1 (bodyC Try.f32))))))))))) 16) := by kernel_rfl
theorem w32b_d16 : (regOp (inC (hdC (tlC (inC (inC (tlC (nthC 3 (thC (tlC (nthC 1 (bodyC Try.f32))))))))))) 16).dst = some 128 := by kernel_rfl
theorem w32b_g16 : (regOp (inC (hdC (tlC (inC (inC (tlC (nthC 3 (thC (tlC (nthC 1 (bodyC Try.f32))))))))))) 16).guard = none := by kernel_rfl
theorem w32b_o16 : (regOp (inC (hdC (tlC (inC (inC (tlC (nthC 3 (thC (tlC (nthC 1 (bodyC Try.f32))))))))))) 16).op = Op.indexAddr 34 (.tmp 115) (.tmp 117) := by kernel_rfl
theorem w32b_i17 : (regOps (inC (hdC (tlC (inC (inC (tlC (nthC 3 (thC (tlC (nthC 1 (bodyC Try.f32))))))))))))[17]? = some (regOp (inC (hdC (tlC (inC (inC (tlC (nthC 3 (thC (tlC (nthC 1 (bodyC Try.f32))))))))))) 17) := by kernel_rfl
theorem w32b_d17 : (regOp (inC (hdC (tlC (inC (inC (tlC (nthC 3 (thC (tlC (nthC 1 (bodyC Try.f32))))))))))) 17).dst = none := by kernel_rfl
theorem w32b_g17 : (regOp (inC (hdC (tlC (inC (inC (tlC (nthC 3 (thC (tlC (nthC 1 (bodyC Try.f32))))))))))) 17).guard = none := by kernel_rfl
theorem w32b_o17 : (regOp (inC (hdC (tlC (inC (inC (tlC (nthC 3 (thC (tlC (nthC 1 (bodyC Try.f32))))))))))) 17).op = Op.store 39 (.tmp 128) (.tmp 126) := by kernel_rfl
theorem w32b_f0 : Region.free .any (regOps (inC (hdC (tlC (inC (inC (tlC (nthC 3 (thC (tlC (nthC 1 (bodyC Try.f32)))))))))))) #[false, false, false, false, false, false, false, false, false, false, false, false, false, false, false, false, false, false] 0 = true := by kernel_rfl
theorem w32b_r0 : (Region.ready .any (regOps (inC (hdC (tlC (inC (inC (tlC (nthC 3 (thC (tlC (nthC 1 (bodyC Try.f32)))))))))))) #[false, false, false, false, false, false, false, false, false, false, false, false, false, false, false, false, false, false]).contains 0 = true := by kernel_rfl
theorem w32b_f1 : Region.free .any (regOps (inC (hdC (tlC (inC (inC (tlC (nthC 3 (thC (tlC (nthC 1 (bodyC Try.f32)))))))))))) #[true, false, false, false, false, false, false, false, false, false, false, false, false, false, false, false, false, false] 1 = true := by kernel_rfl
theorem w32b_r1 : (Region.ready .any (regOps (inC (hdC (tlC (inC (inC (tlC (nthC 3 (thC (tlC (nthC 1 (bodyC Try.f32)))))))))))) #[true, false, false, false, false, false, false, false, false, false, false, false, false, false, false, false, false, false]).contains 1 = true := by kernel_rfl
theorem w32b_f2 : Region.free .any (regOps (inC (hdC (tlC (inC (inC (tlC (nthC 3 (thC (tlC (nthC 1 (bodyC Try.f32)))))))))))) #[true, true, false, false, false, false, false, false, false, false, false, false, false, false, false, false, false, false] 2 = true := by kernel_rfl
theorem w32b_r2 : (Region.ready .any (regOps (inC (hdC (tlC (inC (inC (tlC (nthC 3 (thC (tlC (nthC 1 (bodyC Try.f32)))))))))))) #[true, true, false, false, false, false, false, false, false, false, false, false, false, false, false, false, false, false]).contains 2 = true := by kernel_rfl
theorem w32b_f3 : Region.free .any (regOps (inC (hdC (tlC (inC (inC (tlC (nthC 3 (thC (tlC (nthC 1 (bodyC Try.f32)))))))))))) #[true, true, true, false, false, false, false, false, false, false, false, false, false, false, false, false, false, false] 3 = true := by kernel_rfl
theorem w32b_r3 : (Region.ready .any (regOps (inC (hdC (tlC (inC (inC (tlC (nthC 3 (thC (tlC (nthC 1 (bodyC Try.f32)))))))))))) #[true, true, true, false, false, false, false, false, false, false, false, false, false, false, false, false, false, false]).contains 3 = true := by kernel_rfl
theorem w32b_f4 : Region.free .any (regOps (inC (hdC (tlC (inC (inC (tlC (nthC 3 (thC (tlC (nthC 1 (bodyC Try.f32)))))))))))) #[true, true, true, true, false, false, false, false, false, false, false, false, false, false, false, false, false, false] 4 = true := by kernel_rfl
theorem w32b_r4 : (Region.ready .any (regOps (inC (hdC (tlC (inC (inC (tlC (nthC 3 (thC (tlC (nthC 1 (bodyC Try.f32)))))))))))) #[true, true, true, true, false, false, false, false, false, false, false, false, false, false, false, false, false, false]).contains 4 = true := by kernel_rfl
theorem w32b_f5 : Region.free .any (regOps (inC (hdC (tlC (inC (inC (tlC (nthC 3 (thC (tlC (nthC 1 (bodyC Try.f32)))))))))))) #[true, true, true, true, true, false, false, false, false, false, false, false, false, false, false, false, false, false] 5 = true := by kernel_rfl
theorem w32b_r5 : (Region.ready .any (regOps (inC (hdC (tlC (inC (inC (tlC (nthC 3 (thC (tlC (nthC 1 (bodyC Try.f32)))))))))))) #[true, true, true, true, true, false, false, false, false, false, false, false, false, false, false, false, false, false]).contains 5 = true := by kernel_rfl
theorem w32b_f6 : Region.free .any (regOps (inC (hdC (tlC (inC (inC (tlC (nthC 3 (thC (tlC (nthC 1 (bodyC Try.f32)))))))))))) #[true, true, true, true, true, true, false, false, false, false, false, false, false, false, false, false, false, false] 6 = true := by kernel_rfl
theorem w32b_r6 : (Region.ready .any (regOps (inC (hdC (tlC (inC (inC (tlC (nthC 3 (thC (tlC (nthC 1 (bodyC Try.f32)))))))))))) #[true, true, true, true, true, true, false, false, false, false, false, false, false, false, false, false, false, false]).contains 6 = true := by kernel_rfl
theorem w32b_f7 : Region.free .any (regOps (inC (hdC (tlC (inC (inC (tlC (nthC 3 (thC (tlC (nthC 1 (bodyC Try.f32)))))))))))) #[true, true, true, true, true, true, true, false, false, false, false, false, false, false, false, false, false, false] 7 = true := by kernel_rfl
theorem w32b_r7 : (Region.ready .any (regOps (inC (hdC (tlC (inC (inC (tlC (nthC 3 (thC (tlC (nthC 1 (bodyC Try.f32)))))))))))) #[true, true, true, true, true, true, true, false, false, false, false, false, false, false, false, false, false, false]).contains 7 = true := by kernel_rfl
theorem w32b_f8 : Region.free .any (regOps (inC (hdC (tlC (inC (inC (tlC (nthC 3 (thC (tlC (nthC 1 (bodyC Try.f32)))))))))))) #[true, true, true, true, true, true, true, true, false, false, false, false, false, false, false, false, false, false] 8 = true := by kernel_rfl
theorem w32b_r8 : (Region.ready .any (regOps (inC (hdC (tlC (inC (inC (tlC (nthC 3 (thC (tlC (nthC 1 (bodyC Try.f32)))))))))))) #[true, true, true, true, true, true, true, true, false, false, false, false, false, false, false, false, false, false]).contains 8 = true := by kernel_rfl
theorem w32b_f10 : Region.free .any (regOps (inC (hdC (tlC (inC (inC (tlC (nthC 3 (thC (tlC (nthC 1 (bodyC Try.f32)))))))))))) #[true, true, true, true, true, true, true, true, true, false, false, false, false, false, false, false, false, false] 10 = true := by kernel_rfl
theorem w32b_r10 : (Region.ready .any (regOps (inC (hdC (tlC (inC (inC (tlC (nthC 3 (thC (tlC (nthC 1 (bodyC Try.f32)))))))))))) #[true, true, true, true, true, true, true, true, true, false, false, false, false, false, false, false, false, false]).contains 10 = true := by kernel_rfl
theorem w32b_f11 : Region.free .any (regOps (inC (hdC (tlC (inC (inC (tlC (nthC 3 (thC (tlC (nthC 1 (bodyC Try.f32)))))))))))) #[true, true, true, true, true, true, true, true, true, false, true, false, false, false, false, false, false, false] 11 = true := by kernel_rfl
theorem w32b_r11 : (Region.ready .any (regOps (inC (hdC (tlC (inC (inC (tlC (nthC 3 (thC (tlC (nthC 1 (bodyC Try.f32)))))))))))) #[true, true, true, true, true, true, true, true, true, false, true, false, false, false, false, false, false, false]).contains 11 = true := by kernel_rfl
theorem w32b_f12 : Region.free .any (regOps (inC (hdC (tlC (inC (inC (tlC (nthC 3 (thC (tlC (nthC 1 (bodyC Try.f32)))))))))))) #[true, true, true, true, true, true, true, true, true, false, true, true, false, false, false, false, false, false] 12 = true := by kernel_rfl
theorem w32b_r12 : (Region.ready .any (regOps (inC (hdC (tlC (inC (inC (tlC (nthC 3 (thC (tlC (nthC 1 (bodyC Try.f32)))))))))))) #[true, true, true, true, true, true, true, true, true, false, true, true, false, false, false, false, false, false]).contains 12 = true := by kernel_rfl
theorem w32b_rl : Region.ready .any (regOps (inC (hdC (tlC (inC (inC (tlC (nthC 3 (thC (tlC (nthC 1 (bodyC Try.f32)))))))))))) #[true, true, true, true, true, true, true, true, true, false, true, true, true, false, false, false, false, false] = [9, 13] := by kernel_rfl
theorem w32b_ra : Region.ready .any (regOps (inC (hdC (tlC (inC (inC (tlC (nthC 3 (thC (tlC (nthC 1 (bodyC Try.f32)))))))))))) #[true, true, true, true, true, true, true, true, true, true, true, true, true, false, false, false, false, false] = [13] := by kernel_rfl
theorem w32b_rb : Region.ready .any (regOps (inC (hdC (tlC (inC (inC (tlC (nthC 3 (thC (tlC (nthC 1 (bodyC Try.f32)))))))))))) #[true, true, true, true, true, true, true, true, true, false, true, true, true, true, false, false, false, false] = [9] := by kernel_rfl
theorem w32b_f14 : Region.free .any (regOps (inC (hdC (tlC (inC (inC (tlC (nthC 3 (thC (tlC (nthC 1 (bodyC Try.f32)))))))))))) #[true, true, true, true, true, true, true, true, true, true, true, true, true, true, false, false, false, false] 14 = true := by kernel_rfl
theorem w32b_r14 : (Region.ready .any (regOps (inC (hdC (tlC (inC (inC (tlC (nthC 3 (thC (tlC (nthC 1 (bodyC Try.f32)))))))))))) #[true, true, true, true, true, true, true, true, true, true, true, true, true, true, false, false, false, false]).contains 14 = true := by kernel_rfl
theorem w32b_r15 : Region.ready .any (regOps (inC (hdC (tlC (inC (inC (tlC (nthC 3 (thC (tlC (nthC 1 (bodyC Try.f32)))))))))))) #[true, true, true, true, true, true, true, true, true, true, true, true, true, true, true, false, false, false] = [15] := by kernel_rfl
theorem w32b_f16 : Region.free .any (regOps (inC (hdC (tlC (inC (inC (tlC (nthC 3 (thC (tlC (nthC 1 (bodyC Try.f32)))))))))))) #[true, true, true, true, true, true, true, true, true, true, true, true, true, true, true, true, false, false] 16 = true := by kernel_rfl
theorem w32b_r16 : (Region.ready .any (regOps (inC (hdC (tlC (inC (inC (tlC (nthC 3 (thC (tlC (nthC 1 (bodyC Try.f32)))))))))))) #[true, true, true, true, true, true, true, true, true, true, true, true, true, true, true, true, false, false]).contains 16 = true := by kernel_rfl
theorem w32b_r17 : Region.ready .any (regOps (inC (hdC (tlC (inC (inC (tlC (nthC 3 (thC (tlC (nthC 1 (bodyC Try.f32)))))))))))) #[true, true, true, true, true, true, true, true, true, true, true, true, true, true, true, true, true, false] = [17] := by kernel_rfl
theorem w32b_re : Region.ready .any (regOps (inC (hdC (tlC (inC (inC (tlC (nthC 3 (thC (tlC (nthC 1 (bodyC Try.f32)))))))))))) #[true, true, true, true, true, true, true, true, true, true, true, true, true, true, true, true, true, true] = [] := by kernel_rfl

set_option maxRecDepth 10000 in
set_option maxHeartbeats 1000000 in
theorem w32b (b n c lo m hi i k k1 : Nat) (ek1 ek : Hd) (a : Act) (w : World) (Q : Exit → Act → World → Prop) (hfr : Fr 220 a) (hs : Slots [(0, .slice (some ⟨b, 0, none⟩) n c), (1, .int .i64 (lo : Nat)), (2, .int .i64 (m : Nat)), (3, .int .i64 (hi : Nat)), (4, .func (.func 27) #[] #[]), (14, .int .i64 (i : Nat)), (17, .int .i64 (k : Nat))] a)
    (hk10 : IntKind.i64.wrap ((k : Int) - 1) = (k1 : Int))
    (lk1 : (k1 : Int) < n) (ck1 : w.cell? ⟨b, k1 * 2, none⟩ = some (.string ek1.nm)) (kk1 : w.cell? ⟨b, k1 * 2 + 1, none⟩ = some (.slice (some ⟨ek1.vb, 0, none⟩) 2 2)) (lk : (k : Int) < n) (ck : w.cell? ⟨b, k * 2, none⟩ = some (.string ek.nm)) (kk : w.cell? ⟨b, k * 2 + 1, none⟩ = some (.slice (some ⟨ek.vb, 0, none⟩) 2 2)) (hne : k ≠ k1) (fz : ∀ i, w.frozen? ⟨b, i, none⟩ = false)
    (hQ : ∀ a', Fr 220 a' → Slots [(0, .slice (some ⟨b, 0, none⟩) n c), (1, .int .i64 (lo : Nat)), (2, .int .i64 (m : Nat)), (3, .int .i64 (hi : Nat)), (4, .func (.func 27) #[] #[]), (14, .int .i64 (i : Nat)), (17, .int .i64 (k : Nat))] a' → Q .normal a' (put2 (put2 w.drew b k ek1) b k1 ek)) :
    Code.wp Try.prog (inC (hdC (tlC (inC (inC (tlC (nthC 3 (thC (tlC (nthC 1 (bodyC Try.f32))))))))))) Q a w := by
  obtain ⟨t0, t1, t2, t3, t4, t14, t17, -⟩ := hs
  replace t0 : a.tmps[0]?.getD undef = .slice (some ⟨b, 0, none⟩) n c := (sl_at a 0).symm.trans t0
  replace t1 : a.tmps[1]?.getD undef = .int .i64 (lo : Nat) := (sl_at a 1).symm.trans t1
  replace t2 : a.tmps[2]?.getD undef = .int .i64 (m : Nat) := (sl_at a 2).symm.trans t2
  replace t3 : a.tmps[3]?.getD undef = .int .i64 (hi : Nat) := (sl_at a 3).symm.trans t3
  replace t4 : a.tmps[4]?.getD undef = .func (.func 27) #[] #[] := (sl_at a 4).symm.trans t4
  replace t14 : a.tmps[14]?.getD undef = .int .i64 (i : Nat) := (sl_at a 14).symm.trans t14
  replace t17 : a.tmps[17]?.getD undef = .int .i64 (k : Nat) := (sl_at a 17).symm.trans t17
  have o1 : k * 2 ≠ k1 * 2 := by omega
  have o2 : k * 2 + 1 ≠ k1 * 2 := by omega
  have o3 : k * 2 ≠ k1 * 2 + 1 := by omega
  have o4 : k * 2 + 1 ≠ k1 * 2 + 1 := by omega
  have zk10 := fz (k1 * 2)
  have zk11 := fz (k1 * 2 + 1)
  have zk0 := fz (k * 2)
  have zk1 := fz (k * 2 + 1)
  clear fz
  refine wp_navR (fun _ => True) (fun a' w' => w' = put2 (put2 w.drew b k ek1) b k1 ek ∧ Fr 220 a' ∧ Slots [(0, .slice (some ⟨b, 0, none⟩) n c), (1, .int .i64 (lo : Nat)), (2, .int .i64 (m : Nat)), (3, .int .i64 (hi : Nat)), (4, .func (.func 27) #[] #[]), (14, .int .i64 (i : Nat)), (17, .int .i64 (k : Nat))] a') 18 #[false, false, false, false, false, false, false, false, false, false, false, false, false, false, false, false, false, false] (by kernel_rfl) (by kernel_rfl) (by kernel_rfl) rfl ?_ (fun a' w' ⟨h1, h2, h3⟩ => by rw [h1]; exact hQ a' h2 h3)
  clear hQ
  refine take1 0 113 _ (.slice (some ⟨b, 0, none⟩) n c) #[true, false, false, false, false, false, false, false, false, false, false, false, false, false, false, false, false, false] w32b_i0 w32b_d0 (by decide) w32b_s w32b_f0 w32b_r0 w32b_g0 rfl trivial hfr ?_ ?_
  · intro wx _; simp only [execOp, w32b_o0]; go_simp
  intro a1 fr1 t113 ho
  replace t0 := (ho 0 (by decide)).trans t0
  replace t1 := (ho 1 (by decide)).trans t1
  replace t2 := (ho 2 (by decide)).trans t2
  replace t3 := (ho 3 (by decide)).trans t3
  replace t4 := (ho 4 (by decide)).trans t4
  replace t14 := (ho 14 (by decide)).trans t14
  replace t17 := (ho 17 (by decide)).trans t17
  clear hfr ho
  refine take1 1 114 _ (.int .i64 (k : Nat)) #[true, true, false, false, false, false, false, false, false, false, false, false, false, false, false, false, false, false] w32b_i1 w32b_d1 (by decide) w32b_s w32b_f1 w32b_r1 w32b_g1 rfl trivial fr1 ?_ ?_
  · intro wx _; simp only [execOp, w32b_o1]; go_simp
  intro a2 fr2 t114 ho
  replace t0 := (ho 0 (by decide)).trans t0
  replace t1 := (ho 1 (by decide)).trans t1
  replace t2 := (ho 2 (by decide)).trans t2
  replace t3 := (ho 3 (by decide)).trans t3
  replace t4 := (ho 4 (by decide)).trans t4
  replace t14 := (ho 14 (by decide)).trans t14
  replace t17 := (ho 17 (by decide)).trans t17
  replace t113 := (ho 113 (by decide)).trans t113
  clear fr1 ho
  refine take1 2 115 _ (.slice (some ⟨b, 0, none⟩) n c) #[true, true, true, false, false, false, false, false, false, false, false, false, false, false, false, false, false, false] w32b_i2 w32b_d2 (by decide) w32b_s w32b_f2 w32b_r2 w32b_g2 rfl trivial fr2 ?_ ?_
  · intro wx _; simp only [execOp, w32b_o2]; go_simp
  intro a3 fr3 t115 ho
  replace t0 := (ho 0 (by decide)).trans t0
  replace t1 := (ho 1 (by decide)).trans t1
  replace t2 := (ho 2 (by decide)).trans t2
  replace t3 := (ho 3 (by decide)).trans t3
  replace t4 := (ho 4 (by decide)).trans t4
  replace t14 := (ho 14 (by decide)).trans t14
  replace t17 := (ho 17 (by decide)).trans t17
  replace t113 := (ho 113 (by decide)).trans t113
  replace t114 := (ho 114 (by decide)).trans t114
  clear fr2 ho
  refine take1 3 116 _ (.int .i64 (k : Nat)) #[true, true, true, true, false, false, false, false, false, false, false, false, false, false, false, false, false, false] w32b_i3 w32b_d3 (by decide) w32b_s w32b_f3 w32b_r3 w32b_g3 rfl trivial fr3 ?_ ?_
  · intro wx _; simp only [execOp, w32b_o3]; go_simp
  intro a4 fr4 t116 ho
  replace t0 := (ho 0 (by decide)).trans t0
  replace t1 := (ho 1 (by decide)).trans t1
  replace t2 := (ho 2 (by decide)).trans t2
  replace t3 := (ho 3 (by decide)).trans t3
  replace t4 := (ho 4 (by decide)).trans t4
  replace t14 := (ho 14 (by decide)).trans t14
  replace t17 := (ho 17 (by decide)).trans t17
  replace t113 := (ho 113 (by decide)).trans t113
  replace t114 := (ho 114 (by decide)).trans t114
  replace t115 := (ho 115 (by decide)).trans t115
  clear fr3 ho
  refine take1 4 117 _ (.int .i64 (k1 : Nat)) #[true, true, true, true, true, false, false, false, false, false, false, false, false, false, false, false, false, false] w32b_i4 w32b_d4 (by decide) w32b_s w32b_f4 w32b_r4 w32b_g4 rfl trivial fr4 ?_ ?_
  · intro wx _; simp only [execOp, w32b_o4]; go_simp
  intro a5 fr5 t117 ho
  replace t0 := (ho 0 (by decide)).trans t0
  replace t1 := (ho 1 (by decide)).trans t1
  replace t2 := (ho 2 (by decide)).trans t2
  replace t3 := (ho 3 (by decide)).trans t3
  replace t4 := (ho 4 (by decide)).trans t4
  replace t14 := (ho 14 (by decide)).trans t14
  replace t17 := (ho 17 (by decide)).trans t17
  replace t113 := (ho 113 (by decide)).trans t113
  replace t114 := (ho 114 (by decide)).trans t114
  replace t115 := (ho 115 (by decide)).trans t115
  replace t116 := (ho 116 (by decide)).trans t116
  clear fr4 ho
  refine take1 5 118 _ (.slice (some ⟨b, 0, none⟩) n c) #[true, true, true, true, true, true, false, false, false, false, false, false, false, false, false, false, false, false] w32b_i5 w32b_d5 (by decide) w32b_s w32b_f5 w32b_r5 w32b_g5 rfl trivial fr5 ?_ ?_
  · intro wx _; simp only [execOp, w32b_o5]; go_simp
  intro a6 fr6 t118 ho
  replace t0 := (ho 0 (by decide)).trans t0
  replace t1 := (ho 1 (by decide)).trans t1
  replace t2 := (ho 2 (by decide)).trans t2
  replace t3 := (ho 3 (by decide)).trans t3
  replace t4 := (ho 4 (by decide)).trans t4
  replace t14 := (ho 14 (by decide)).trans t14
  replace t17 := (ho 17 (by decide)).trans t17
  replace t113 := (ho 113 (by decide)).trans t113
  replace t114 := (ho 114 (by decide)).trans t114
  replace t115 := (ho 115 (by decide)).trans t115
  replace t116 := (ho 116 (by decide)).trans t116
  replace t117 := (ho 117 (by decide)).trans t117
  clear fr5 ho
  refine take1 6 119 _ (.int .i64 (k : Nat)) #[true, true, true, true, true, true, true, false, false, false, false, false, false, false, false, false, false, false] w32b_i6 w32b_d6 (by decide) w32b_s w32b_f6 w32b_r6 w32b_g6 rfl trivial fr6 ?_ ?_
  · intro wx _; simp only [execOp, w32b_o6]; go_simp
  intro a7 fr7 t119 ho
  replace t0 := (ho 0 (by decide)).trans t0
  replace t1 := (ho 1 (by decide)).trans t1
  replace t2 := (ho 2 (by decide)).trans t2
  replace t3 := (ho 3 (by decide)).trans t3
  replace t4 := (ho 4 (by decide)).trans t4
  replace t14 := (ho 14 (by decide)).trans t14
  replace t17 := (ho 17 (by decide)).trans t17
  replace t113 := (ho 113 (by decide)).trans t113
  replace t114 := (ho 114 (by decide)).trans t114
  replace t115 := (ho 115 (by decide)).trans t115
  replace t116 := (ho 116 (by decide)).trans t116
  replace t117 := (ho 117 (by decide)).trans t117
  replace t118 := (ho 118 (by decide)).trans t118
  clear fr6 ho
  refine take1 7 120 _ (.int .i64 (k1 : Nat)) #[true, true, true, true, true, true, true, true, false, false, false, false, false, false, false, false, false, false] w32b_i7 w32b_d7 (by decide) w32b_s w32b_f7 w32b_r7 w32b_g7 rfl trivial fr7 ?_ ?_
  · intro wx _; simp only [execOp, w32b_o7]; go_simp
  intro a8 fr8 t120 ho
  replace t0 := (ho 0 (by decide)).trans t0
  replace t1 := (ho 1 (by decide)).trans t1
  replace t2 := (ho 2 (by decide)).trans t2
  replace t3 := (ho 3 (by decide)).trans t3
  replace t4 := (ho 4 (by decide)).trans t4
  replace t14 := (ho 14 (by decide)).trans t14
  replace t17 := (ho 17 (by decide)).trans t17
  replace t113 := (ho 113 (by decide)).trans t113
  replace t114 := (ho 114 (by decide)).trans t114
  replace t115 := (ho 115 (by decide)).trans t115
  replace t116 := (ho 116 (by decide)).trans t116
  replace t117 := (ho 117 (by decide)).trans t117
  replace t118 := (ho 118 (by decide)).trans t118
  replace t119 := (ho 119 (by decide)).trans t119
  clear fr7 ho
  refine take1 8 121 _ (.pointer (some ⟨b, k1 * 2, none⟩)) #[true, true, true, true, true, true, true, true, true, false, false, false, false, false, false, false, false, false] w32b_i8 w32b_d8 (by decide) w32b_s w32b_f8 w32b_r8 w32b_g8 rfl trivial fr8 ?_ ?_
  · intro wx _; simp only [execOp, w32b_o8]; go_simp
  intro a9 fr9 t121 ho
  replace t0 := (ho 0 (by decide)).trans t0
  replace t1 := (ho 1 (by decide)).trans t1
  replace t2 := (ho 2 (by decide)).trans t2
  replace t3 := (ho 3 (by decide)).trans t3
  replace t4 := (ho 4 (by decide)).trans t4
  replace t14 := (ho 14 (by decide)).trans t14
  replace t17 := (ho 17 (by decide)).trans t17
  replace t113 := (ho 113 (by decide)).trans t113
  replace t114 := (ho 114 (by decide)).trans t114
  replace t115 := (ho 115 (by decide)).trans t115
  replace t116 := (ho 116 (by decide)).trans t116
  replace t117 := (ho 117 (by decide)).trans t117
  replace t118 := (ho 118 (by decide)).trans t118
  replace t119 := (ho 119 (by decide)).trans t119
  replace t120 := (ho 120 (by decide)).trans t120
  clear fr8 ho
  refine take1 10 123 _ (.slice (some ⟨b, 0, none⟩) n c) #[true, true, true, true, true, true, true, true, true, false, true, false, false, false, false, false, false, false] w32b_i10 w32b_d10 (by decide) w32b_s w32b_f10 w32b_r10 w32b_g10 rfl trivial fr9 ?_ ?_
  · intro wx _; simp only [execOp, w32b_o10]; go_simp
  intro a10 fr10 t123 ho
  replace t0 := (ho 0 (by decide)).trans t0
  replace t1 := (ho 1 (by decide)).trans t1
  replace t2 := (ho 2 (by decide)).trans t2
  replace t3 := (ho 3 (by decide)).trans t3
  replace t4 := (ho 4 (by decide)).trans t4
  replace t14 := (ho 14 (by decide)).trans t14
  replace t17 := (ho 17 (by decide)).trans t17
  replace t113 := (ho 113 (by decide)).trans t113
  replace t114 := (ho 114 (by decide)).trans t114
  replace t115 := (ho 115 (by decide)).trans t115
  replace t116 := (ho 116 (by decide)).trans t116
  replace t117 := (ho 117 (by decide)).trans t117
  replace t118 := (ho 118 (by decide)).trans t118
  replace t119 := (ho 119 (by decide)).trans t119
  replace t120 := (ho 120 (by decide)).trans t120
  replace t121 := (ho 121 (by decide)).trans t121
  clear fr9 ho
  refine take1 11 124 _ (.int .i64 (k : Nat)) #[true, true, true, true, true, true, true, true, true, false, true, true, false, false, false, false, false, false] w32b_i11 w32b_d11 (by decide) w32b_s w32b_f11 w32b_r11 w32b_g11 rfl trivial fr10 ?_ ?_
  · intro wx _; simp only [execOp, w32b_o11]; go_simp
  intro a11 fr11 t124 ho
  replace t0 := (ho 0 (by decide)).trans t0
  replace t1 := (ho 1 (by decide)).trans t1
  replace t2 := (ho 2 (by decide)).trans t2
  replace t3 := (ho 3 (by decide)).trans t3
  replace t4 := (ho 4 (by decide)).trans t4
  replace t14 := (ho 14 (by decide)).trans t14
  replace t17 := (ho 17 (by decide)).trans t17
  replace t113 := (ho 113 (by decide)).trans t113
  replace t114 := (ho 114 (by decide)).trans t114
  replace t115 := (ho 115 (by decide)).trans t115
  replace t116 := (ho 116 (by decide)).trans t116
  replace t117 := (ho 117 (by decide)).trans t117
  replace t118 := (ho 118 (by decide)).trans t118
  replace t119 := (ho 119 (by decide)).trans t119
  replace t120 := (ho 120 (by decide)).trans t120
  replace t121 := (ho 121 (by decide)).trans t121
  replace t123 := (ho 123 (by decide)).trans t123
  clear fr10 ho
  refine take1 12 125 _ (.pointer (some ⟨b, k * 2, none⟩)) #[true, true, true, true, true, true, true, true, true, false, true, true, true, false, false, false, false, false] w32b_i12 w32b_d12 (by decide) w32b_s w32b_f12 w32b_r12 w32b_g12 rfl trivial fr11 ?_ ?_
  · intro wx _; simp only [execOp, w32b_o12]; go_simp
  intro a12 fr12 t125 ho
  replace t0 := (ho 0 (by decide)).trans t0
  replace t1 := (ho 1 (by decide)).trans t1
  replace t2 := (ho 2 (by decide)).trans t2
  replace t3 := (ho 3 (by decide)).trans t3
  replace t4 := (ho 4 (by decide)).trans t4
  replace t14 := (ho 14 (by decide)).trans t14
  replace t17 := (ho 17 (by decide)).trans t17
  replace t113 := (ho 113 (by decide)).trans t113
  replace t114 := (ho 114 (by decide)).trans t114
  replace t115 := (ho 115 (by decide)).trans t115
  replace t116 := (ho 116 (by decide)).trans t116
  replace t117 := (ho 117 (by decide)).trans t117
  replace t118 := (ho 118 (by decide)).trans t118
  replace t119 := (ho 119 (by decide)).trans t119
  replace t120 := (ho 120 (by decide)).trans t120
  replace t121 := (ho 121 (by decide)).trans t121
  replace t123 := (ho 123 (by decide)).trans t123
  replace t124 := (ho 124 (by decide)).trans t124
  clear fr11 ho
  refine both2 9 13 w32b_rl ?_ ?_
  · refine act1 9 122 _ (.agg #[.string ek1.nm, .slice (some ⟨ek1.vb, 0, none⟩) 2 2]) w.drew #[true, true, true, true, true, true, true, true, true, true, true, true, true, false, false, false, false, false] w32b_i9 w32b_d9 (by decide) w32b_g9 rfl fr12 ?_ trivial ?_
    · simp only [execOp, w32b_o9]; go_simp
    intro a13 fr13 t122 ho
    replace t0 := (ho 0 (by decide)).trans t0
    replace t1 := (ho 1 (by decide)).trans t1
    replace t2 := (ho 2 (by decide)).trans t2
    replace t3 := (ho 3 (by decide)).trans t3
    replace t4 := (ho 4 (by decide)).trans t4
    replace t14 := (ho 14 (by decide)).trans t14
    replace t17 := (ho 17 (by decide)).trans t17
    replace t113 := (ho 113 (by decide)).trans t113
    replace t114 := (ho 114 (by decide)).trans t114
    replace t115 := (ho 115 (by decide)).trans t115
    replace t116 := (ho 116 (by decide)).trans t116
    replace t117 := (ho 117 (by decide)).trans t117
    replace t118 := (ho 118 (by decide)).trans t118
    replace t119 := (ho 119 (by decide)).trans t119
    replace t120 := (ho 120 (by decide)).trans t120
    replace t121 := (ho 121 (by decide)).trans t121
    replace t123 := (ho 123 (by decide)).trans t123
    replace t124 := (ho 124 (by decide)).trans t124
    replace t125 := (ho 125 (by decide)).trans t125
    clear ho
    refine only1 13 w32b_ra (act1 13 126 _ (.agg #[.string ek.nm, .slice (some ⟨ek.vb, 0, none⟩) 2 2]) w.drew #[true, true, true, true, true, true, true, true, true, true, true, true, true, true, false, false, false, false] w32b_i13 w32b_d13 (by decide) w32b_g13 rfl fr13 ?_ trivial ?_)
    · simp only [execOp, w32b_o13]; go_simp
    intro a14 fr14 t126 ho
    replace t0 := (ho 0 (by decide)).trans t0
    replace t1 := (ho 1 (by decide)).trans t1
    replace t2 := (ho 2 (by decide)).trans t2
    replace t3 := (ho 3 (by decide)).trans t3
    replace t4 := (ho 4 (by decide)).trans t4
    replace t14 := (ho 14 (by decide)).trans t14
    replace t17 := (ho 17 (by decide)).trans t17
    replace t113 := (ho 113 (by decide)).trans t113
    replace t114 := (ho 114 (by decide)).trans t114
    replace t115 := (ho 115 (by decide)).trans t115
    replace t116 := (ho 116 (by decide)).trans t116
    replace t117 := (ho 117 (by decide)).trans t117
    replace t118 := (ho 118 (by decide)).trans t118
    replace t119 := (ho 119 (by decide)).trans t119
    replace t120 := (ho 120 (by decide)).trans t120
    replace t121 := (ho 121 (by decide)).trans t121
    replace t123 := (ho 123 (by decide)).trans t123
    replace t124 := (ho 124 (by decide)).trans t124
    replace t125 := (ho 125 (by decide)).trans t125
    replace t122 := (ho 122 (by decide)).trans t122
    clear ho
    refine take1 14 127 _ (.pointer (some ⟨b, k * 2, none⟩)) #[true, true, true, true, true, true, true, true, true, true, true, true, true, true, true, false, false, false] w32b_i14 w32b_d14 (by decide) w32b_s w32b_f14 w32b_r14 w32b_g14 rfl trivial fr14 ?_ ?_
    · intro wx _; simp only [execOp, w32b_o14]; go_simp
    intro a15 fr15 t127 ho
    replace t0 := (ho 0 (by decide)).trans t0
    replace t1 := (ho 1 (by decide)).trans t1
    replace t2 := (ho 2 (by decide)).trans t2
    replace t3 := (ho 3 (by decide)).trans t3
    replace t4 := (ho 4 (by decide)).trans t4
    replace t14 := (ho 14 (by decide)).trans t14
    replace t17 := (ho 17 (by decide)).trans t17
    replace t113 := (ho 113 (by decide)).trans t113
    replace t114 := (ho 114 (by decide)).trans t114
    replace t115 := (ho 115 (by decide)).trans t115
    replace t116 := (ho 116 (by decide)).trans t116
    replace t117 := (ho 117 (by decide)).trans t117
    replace t118 := (ho 118 (by decide)).trans t118
    replace t119 := (ho 119 (by decide)).trans t119
    replace t120 := (ho 120 (by decide)).trans t120
    replace t121 := (ho 121 (by decide)).trans t121
    replace t123 := (ho 123 (by decide)).trans t123
    replace t124 := (ho 124 (by decide)).trans t124
    replace t125 := (ho 125 (by decide)).trans t125
    replace t122 := (ho 122 (by decide)).trans t122
    replace t126 := (ho 126 (by decide)).trans t126
    clear ho
    refine only1 15 w32b_r15 (act0 15 _ (put2 w.drew b k ek1) #[true, true, true, true, true, true, true, true, true, true, true, true, true, true, true, true, false, false] w32b_i15 w32b_d15 w32b_g15 rfl ?_ trivial ?_)
    · simp only [execOp, w32b_o15]; unfold put2 Hd.val; go_simp
    refine take1 16 128 _ (.pointer (some ⟨b, k1 * 2, none⟩)) #[true, true, true, true, true, true, true, true, true, true, true, true, true, true, true, true, true, false] w32b_i16 w32b_d16 (by decide) w32b_s w32b_f16 w32b_r16 w32b_g16 rfl trivial fr15 ?_ ?_
    · intro wx _; simp only [execOp, w32b_o16]; go_simp
    intro a16 fr16 t128 ho
    replace t0 := (ho 0 (by decide)).trans t0
    replace t1 := (ho 1 (by decide)).trans t1
    replace t2 := (ho 2 (by decide)).trans t2
    replace t3 := (ho 3 (by decide)).trans t3
    replace t4 := (ho 4 (by decide)).trans t4
    replace t14 := (ho 14 (by decide)).trans t14
    replace t17 := (ho 17 (by decide)).trans t17
    replace t113 := (ho 113 (by decide)).trans t113
    replace t114 := (ho 114 (by decide)).trans t114
    replace t115 := (ho 115 (by decide)).trans t115
    replace t116 := (ho 116 (by decide)).trans t116
    replace t117 := (ho 117 (by decide)).trans t117
    replace t118 := (ho 118 (by decide)).trans t118
    replace t119 := (ho 119 (by decide)).trans t119
    replace t120 := (ho 120 (by decide)).trans t120
    replace t121 := (ho 121 (by decide)).trans t121
    replace t123 := (ho 123 (by decide)).trans t123
    replace t124 := (ho 124 (by decide)).trans t124
    replace t125 := (ho 125 (by decide)).trans t125
    replace t122 := (ho 122 (by decide)).trans t122
    replace t126 := (ho 126 (by decide)).trans t126
    replace t127 := (ho 127 (by decide)).trans t127
    clear ho
    refine only1 17 w32b_r17 (act0 17 _ (put2 (put2 w.drew b k ek1) b k1 ek) #[true, true, true, true, true, true, true, true, true, true, true, true, true, true, true, true, true, true] w32b_i17 w32b_d17 w32b_g17 rfl ?_ trivial ?_)
    · simp only [execOp, w32b_o17]; unfold put2 Hd.val; go_simp
    refine wpAnyH_done w32b_re ?_ _
    exact ⟨rfl, fr16, (sl_at _ _).trans t0, (sl_at _ _).trans t1, (sl_at _ _).trans t2, (sl_at _ _).trans t3, (sl_at _ _).trans t4, (sl_at _ _).trans t14, (sl_at _ _).trans t17, trivial⟩
  · refine act1 13 126 _ (.agg #[.string ek.nm, .slice (some ⟨ek.vb, 0, none⟩) 2 2]) w.drew #[true, true, true, true, true, true, true, true, true, false, true, true, true, true, false, false, false, false] w32b_i13 w32b_d13 (by decide) w32b_g13 rfl fr12 ?_ trivial ?_
    · simp only [execOp, w32b_o13]; go_simp
    intro a13 fr13 t126 ho
    replace t0 := (ho 0 (by decide)).trans t0
    replace t1 := (ho 1 (by decide)).trans t1
    replace t2 := (ho 2 (by decide)).trans t2
    replace t3 := (ho 3 (by decide)).trans t3
    replace t4 := (ho 4 (by decide)).trans t4
    replace t14 := (ho 14 (by decide)).trans t14
    replace t17 := (ho 17 (by decide)).trans t17
    replace t113 := (ho 113 (by decide)).trans t113
    replace t114 := (ho 114 (by decide)).trans t114
    replace t115 := (ho 115 (by decide)).trans t115
    replace t116 := (ho 116 (by decide)).trans t116
    replace t117 := (ho 117 (by decide)).trans t117
    replace t118 := (ho 118 (by decide)).trans t118
    replace t119 := (ho 119 (by decide)).trans t119
    replace t120 := (ho 120 (by decide)).trans t120
    replace t121 := (ho 121 (by decide)).trans t121
    replace t123 := (ho 123 (by decide)).trans t123
    replace t124 := (ho 124 (by decide)).trans t124
    replace t125 := (ho 125 (by decide)).trans t125
    clear ho
    refine only1 9 w32b_rb (act1 9 122 _ (.agg #[.string ek1.nm, .slice (some ⟨ek1.vb, 0, none⟩) 2 2]) w.drew #[true, true, true, true, true, true, true, true, true, true, true, true, true, true, false, false, false, false] w32b_i9 w32b_d9 (by decide) w32b_g9 rfl fr13 ?_ trivial ?_)
    · simp only [execOp, w32b_o9]; go_simp
    intro a14 fr14 t122 ho
    replace t0 := (ho 0 (by decide)).trans t0
    replace t1 := (ho 1 (by decide)).trans t1
    replace t2 := (ho 2 (by decide)).trans t2
    replace t3 := (ho 3 (by decide)).trans t3
    replace t4 := (ho 4 (by decide)).trans t4
    replace t14 := (ho 14 (by decide)).trans t14
    replace t17 := (ho 17 (by decide)).trans t17
    replace t113 := (ho 113 (by decide)).trans t113
    replace t114 := (ho 114 (by decide)).trans t114
    replace t115 := (ho 115 (by decide)).trans t115
    replace t116 := (ho 116 (by decide)).trans t116
    replace t117 := (ho 117 (by decide)).trans t117
    replace t118 := (ho 118 (by decide)).trans t118
    replace t119 := (ho 119 (by decide)).trans t119
    replace t120 := (ho 120 (by decide)).trans t120
    replace t121 := (ho 121 (by decide)).trans t121
    replace t123 := (ho 123 (by decide)).trans t123
    replace t124 := (ho 124 (by decide)).trans t124
    replace t125 := (ho 125 (by decide)).trans t125
    replace t126 := (ho 126 (by decide)).trans t126
    clear ho
    refine take1 14 127 _ (.pointer (some ⟨b, k * 2, none⟩)) #[true, true, true, true, true, true, true, true, true, true, true, true, true, true, true, false, false, false] w32b_i14 w32b_d14 (by decide) w32b_s w32b_f14 w32b_r14 w32b_g14 rfl trivial fr14 ?_ ?_
    · intro wx _; simp only [execOp, w32b_o14]; go_simp
    intro a15 fr15 t127 ho
    replace t0 := (ho 0 (by decide)).trans t0
    replace t1 := (ho 1 (by decide)).trans t1
    replace t2 := (ho 2 (by decide)).trans t2
    replace t3 := (ho 3 (by decide)).trans t3
    replace t4 := (ho 4 (by decide)).trans t4
    replace t14 := (ho 14 (by decide)).trans t14
    replace t17 := (ho 17 (by decide)).trans t17
    replace t113 := (ho 113 (by decide)).trans t113
    replace t114 := (ho 114 (by decide)).trans t114
    replace t115 := (ho 115 (by decide)).trans t115
    replace t116 := (ho 116 (by decide)).trans t116
    replace t117 := (ho 117 (by decide)).trans t117
    replace t118 := (ho 118 (by decide)).trans t118
    replace t119 := (ho 119 (by decide)).trans t119
    replace t120 := (ho 120 (by decide)).trans t120
    replace t121 := (ho 121 (by decide)).trans t121
    replace t123 := (ho 123 (by decide)).trans t123
    replace t124 := (ho 124 (by decide)).trans t124
    replace t125 := (ho 125 (by decide)).trans t125
    replace t122 := (ho 122 (by decide)).trans t122
    replace t126 := (ho 126 (by decide)).trans t126
    clear ho
    refine only1 15 w32b_r15 (act0 15 _ (put2 w.drew b k ek1) #[true, true, true, true, true, true, true, true, true, true, true, true, true, true, true, true, false, false] w32b_i15 w32b_d15 w32b_g15 rfl ?_ trivial ?_)
    · simp only [execOp, w32b_o15]; unfold put2 Hd.val; go_simp
    refine take1 16 128 _ (.pointer (some ⟨b, k1 * 2, none⟩)) #[true, true, true, true, true, true, true, true, true, true, true, true, true, true, true, true, true, false] w32b_i16 w32b_d16 (by decide) w32b_s w32b_f16 w32b_r16 w32b_g16 rfl trivial fr15 ?_ ?_
    · intro wx _; simp only [execOp, w32b_o16]; go_simp
    intro a16 fr16 t128 ho
    replace t0 := (ho 0 (by decide)).trans t0
    replace t1 := (ho 1 (by decide)).trans t1
    replace t2 := (ho 2 (by decide)).trans t2
    replace t3 := (ho 3 (by decide)).trans t3
    replace t4 := (ho 4 (by decide)).trans t4
    replace t14 := (ho 14 (by decide)).trans t14
    replace t17 := (ho 17 (by decide)).trans t17
    replace t113 := (ho 113 (by decide)).trans t113
    replace t114 := (ho 114 (by decide)).trans t114
    replace t115 := (ho 115 (by decide)).trans t115
    replace t116 := (ho 116 (by decide)).trans t116
    replace t117 := (ho 117 (by decide)).trans t117
    replace t118 := (ho 118 (by decide)).trans t118
    replace t119 := (ho 119 (by decide)).trans t119
    replace t120 := (ho 120 (by decide)).trans t120
    replace t121 := (ho 121 (by decide)).trans t121
    replace t123 := (ho 123 (by decide)).trans t123
    replace t124 := (ho 124 (by decide)).trans t124
    replace t125 := (ho 125 (by decide)).trans t125
    replace t122 := (ho 122 (by decide)).trans t122
    replace t126 := (ho 126 (by decide)).trans t126
    replace t127 := (ho 127 (by decide)).trans t127
    clear ho
    refine only1 17 w32b_r17 (act0 17 _ (put2 (put2 w.drew b k ek1) b k1 ek) #[true, true, true, true, true, true, true, true, true, true, true, true, true, true, true, true, true, true] w32b_i17 w32b_d17 w32b_g17 rfl ?_ trivial ?_)
    · simp only [execOp, w32b_o17]; unfold put2 Hd.val; go_simp
    refine wpAnyH_done w32b_re ?_ _
    exact ⟨rfl, fr16, (sl_at _ _).trans t0, (sl_at _ _).trans t1, (sl_at _ _).trans t2, (sl_at _ _).trans t3, (sl_at _ _).trans t4, (sl_at _ _).trans t14, (sl_at _ _).trans t17, trivial⟩

end Go.Proofs.Qxb6601010a
