import Derived.Test.Qxb6601010aU2
namespace Go.Proofs.Qxb6601010a
open Go.RowKit
set_option linter.unusedSimpArgs false
set_option linter.unusedVariables false

theorem r32c_s : Region.noSelect (regOps (nthC 1 (inC (tlC (inC (inC (nthC 7 (bodyC Try.f32)))))))) = true := by kernel_rfl
theorem r32c_i0 : (regOps (nthC 1 (inC (tlC (inC (inC (nthC 7 (bodyC Try.f32))))))))[0]? = some (regOp (nthC 1 (inC (tlC (inC (inC (nthC 7 (bodyC Try.f32))))))) 0) := by kernel_rfl
theorem r32c_d0 : (regOp (nthC 1 (inC (tlC (inC (inC (nthC 7 (bodyC Try.f32))))))) 0).dst = some 158 := by kernel_rfl
theorem r32c_g0 : (regOp (nthC 1 (inC (tlC (inC (inC (nthC 7 (bodyC Try.f32))))))) 0).guard = none := by kernel_rfl
theorem r32c_o0 : (regOp (nthC 1 (inC (tlC (inC (inC (nthC 7 (bodyC Try.f32))))))) 0).op = Op.move (.tmp 4) := by kernel_rfl
theorem r32c_i1 : (regOps (nthC 1 (inC (tlC (inC (inC (nthC 7 (bodyC Try.f32))))))))[1]? = some (regOp (nthC 1 (inC (tlC (inC (inC (nthC 7 (bodyC Try.f32))))))) 1) := by kernel_rfl
theorem r32c_d1 : (regOp (nthC 1 (inC (tlC (inC (inC (nthC 7 (bodyC Try.f32))))))) 1).dst = some 159 := by kernel_rfl
theorem r32c_g1 : (regOp (nthC 1 (inC (tlC (inC (inC (nthC 7 (bodyC Try.f32))))))) 1).guard = none := by kernel_rfl
theorem r32c_o1 : (regOp (nthC 1 (inC (tlC (inC (inC (nthC 7 (bodyC Try.f32))))))) 1).op = Op.move (.tmp 0) := by kernel_rfl
theorem r32c_i2 : (regOps (nthC 1 (inC (tlC (inC (inC (nthC 7 (bodyC Try.f32))))))))[2]? = some (regOp (nthC 1 (inC (tlC (inC (inC (nthC 7 (bodyC Try.f32))))))) 2) := by kernel_rfl
theorem r32c_d2 : (regOp (nthC 1 (inC (tlC (inC (inC (nthC 7 (bodyC Try.f32))))))) 2).dst = some 160 := by kernel_rfl
theorem r32c_g2 : (regOp (nthC 1 (inC (tlC (inC (inC (nthC 7 (bodyC Try.f32))))))) 2).guard = none := by kernel_rfl
theorem r32c_o2 : (regOp (nthC 1 (inC (tlC (inC (inC (nthC 7 (bodyC Try.f32))))))) 2).op = Op.move (.tmp 22) := by kernel_rfl
theorem r32c_i3 : (regOps (nthC 1 (inC (tlC (inC (inC (nthC 7 (bodyC Try.f32))))))))[3]? = some (regOp (nthC 1 (inC (tlC (inC (inC (nthC 7 (bodyC Try.f32))))))) 3) := by kernel_rfl
theorem r32c_d3 : (regOp (nthC 1 (inC (tlC (inC (inC (nthC 7 (bodyC Try.f32))))))) 3).dst = some 161 := by kernel_rfl
theorem r32c_g3 : (regOp (nthC 1 (inC (tlC (inC (inC (nthC 7 (bodyC Try.f32))))))) 3).guard = none := by kernel_rfl
theorem r32c_o3 : (regOp (nthC 1 (inC (tlC (inC (inC (nthC 7 (bodyC Try.f32))))))) 3).op = Op.move (.tmp 23) := by kernel_rfl
theorem r32c_i4 : (regOps (nthC 1 (inC (tlC (inC (inC (nthC 7 (bodyC Try.f32))))))))[4]? = some (regOp (nthC 1 (inC (tlC (inC (inC (nthC 7 (bodyC Try.f32))))))) 4) := by kernel_rfl
theorem r32c_d4 : (regOp (nthC 1 (inC (tlC (inC (inC (nthC 7 (bodyC Try.f32))))))) 4).dst = some 162 := by kernel_rfl
theorem r32c_g4 : (regOp (nthC 1 (inC (tlC (inC (inC (nthC 7 (bodyC Try.f32))))))) 4).guard = none := by kernel_rfl
theorem r32c_o4 : (regOp (nthC 1 (inC (tlC (inC (inC (nthC 7 (bodyC Try.f32))))))) 4).op = Op.binOp .sub 3 (.tmp 160) (.tmp 161) 3 := by kernel_rfl
theorem r32c_i5 : (regOps (nthC 1 (inC (tlC (inC (inC (nthC 7 (bodyC Try.f32))))))))[5]? = some (regOp (nthC 1 (inC (tlC (inC (inC (nthC 7 (bodyC Try.f32))))))) 5) := by kernel_rfl
theorem r32c_d5 : (regOp (nthC 1 (inC (tlC (inC (inC (nthC 7 (bodyC Try.f32))))))) 5).dst = some 163 := by kernel_rfl
theorem r32c_g5 : (regOp (nthC 1 (inC (tlC (inC (inC (nthC 7 (bodyC Try.f32))))))) 5).guard = none := by kernel_rfl
theorem r32c_o5 : (regOp (nthC 1 (inC (tlC (inC (inC (nthC 7 (bodyC Try.f32))))))) 5).op = Op.indexAddr 34 (.tmp 159) (.tmp 162) := by kernel_rfl
theorem r32c_i6 : (regOps (nthC 1 (inC (tlC (inC (inC (nthC 7 (bodyC Try.f32))))))))[6]? = some (regOp (nthC 1 (inC (tlC (inC (inC (nthC 7 (bodyC Try.f32))))))) 6) := by kernel_rfl
theorem r32c_d6 : (regOp (nthC 1 (inC (tlC (inC (inC (nthC 7 (bodyC Try.f32))))))) 6).dst = some 164 := by kernel_rfl
theorem r32c_g6 : (regOp (nthC 1 (inC (tlC (inC (inC (nthC 7 (bodyC Try.f32))))))) 6).guard = none := by kernel_rfl
theorem r32c_o6 : (regOp (nthC 1 (inC (tlC (inC (inC (nthC 7 (bodyC Try.f32))))))) 6).op = Op.load 39 (.tmp 163) := by kernel_rfl
theorem r32c_i7 : (regOps (nthC 1 (inC (tlC (inC (inC (nthC 7 (bodyC Try.f32))))))))[7]? = some (regOp (nthC 1 (inC (tlC (inC (inC (nthC 7 (bodyC Try.f32))))))) 7) := by kernel_rfl
theorem r32c_d7 : (regOp (nthC 1 (inC (tlC (inC (inC (nthC 7 (bodyC Try.f32))))))) 7).dst = some 165 := by kernel_rfl
theorem r32c_g7 : (regOp (nthC 1 (inC (tlC (inC (inC (nthC 7 (bodyC Try.f32))))))) 7).guard = none := by kernel_rfl
theorem r32c_o7 : (regOp (nthC 1 (inC (tlC (inC (inC (nthC 7 (bodyC Try.f32))))))) 7).op = Op.move (.tmp 0) := by kernel_rfl
theorem r32c_i8 : (regOps (nthC 1 (inC (tlC (inC (inC (nthC 7 (bodyC Try.f32))))))))[8]? = some (regOp (nthC 1 (inC (tlC (inC (inC (nthC 7 (bodyC Try.f32))))))) 8) := by kernel_rfl
theorem r32c_d8 : (regOp (nthC 1 (inC (tlC (inC (inC (nthC 7 (bodyC Try.f32))))))) 8).dst = some 166 := by kernel_rfl
theorem r32c_g8 : (regOp (nthC 1 (inC (tlC (inC (inC (nthC 7 (bodyC Try.f32))))))) 8).guard = none := by kernel_rfl
theorem r32c_o8 : (regOp (nthC 1 (inC (tlC (inC (inC (nthC 7 (bodyC Try.f32))))))) 8).op = Op.move (.tmp 23) := by kernel_rfl
theorem r32c_i9 : (regOps (nthC 1 (inC (tlC (inC (inC (nthC 7 (bodyC Try.f32))))))))[9]? = some (regOp (nthC 1 (inC (tlC (inC (inC (nthC 7 (bodyC Try.f32))))))) 9) := by kernel_rfl
theorem r32c_d9 : (regOp (nthC 1 (inC (tlC (inC (inC (nthC 7 (bodyC Try.f32))))))) 9).dst = some 167 := by kernel_rfl
theorem r32c_g9 : (regOp (nthC 1 (inC (tlC (inC (inC (nthC 7 (bodyC Try.f32))))))) 9).guard = none := by kernel_rfl
theorem r32c_o9 : (regOp (nthC 1 (inC (tlC (inC (inC (nthC 7 (bodyC Try.f32))))))) 9).op = Op.indexAddr 34 (.tmp 165) (.tmp 166) := by kernel_rfl
theorem r32c_i10 : (regOps (nthC 1 (inC (tlC (inC (inC (nthC 7 (bodyC Try.f32))))))))[10]? = some (regOp (nthC 1 (inC (tlC (inC (inC (nthC 7 (bodyC Try.f32))))))) 10) := by kernel_rfl
theorem r32c_d10 : (regOp (nthC 1 (inC (tlC (inC (inC (nthC 7 (bodyC Try.f32))))))) 10).dst = some 168 := by kernel_rfl
theorem r32c_g10 : (regOp (nthC 1 (inC (tlC (inC (inC (nthC 7 (bodyC Try.f32))))))) 10).guard = none := by kernel_rfl
theorem r32c_o10 : (regOp (nthC 1 (inC (tlC (inC (inC (nthC 7 (bodyC Try.f32))))))) 10).op = Op.load 39 (.tmp 167) := by kernel_rfl
theorem r32c_i11 : (regOps (nthC 1 (inC (tlC (inC (inC (nthC 7 (bodyC Try.f32))))))))[11]? = some (regOp (nthC 1 (inC (tlC (inC (inC (nthC 7 (bodyC Try.f32))))))) 11) := by kernel_rfl
theorem r32c_d11 : (regOp (nthC 1 (inC (tlC (inC (inC (nthC 7 (bodyC Try.f32))))))) 11).dst = some 169 := by kernel_rfl
theorem r32c_g11 : (regOp (nthC 1 (inC (tlC (inC (inC (nthC 7 (bodyC Try.f32))))))) 11).guard = none := by kernel_rfl
theorem r32c_o11 : (regOp (nthC 1 (inC (tlC (inC (inC (nthC 7 (bodyC Try.f32))))))) 11).op = Op.call { callee := .value (.tmp 158), args := #[.tmp 164, .tmp 168], argTypes := #[39, 39] } := by kernel_rfl
theorem r32c_i12 : (regOps (nthC 1 (inC (tlC (inC (inC (nthC 7 (bodyC Try.f32))))))))[12]? = some (regOp (nthC 1 (inC (tlC (inC (inC (nthC 7 (bodyC Try.f32))))))) 12) := by kernel_rfl
theorem r32c_d12 : (regOp (nthC 1 (inC (tlC (inC (inC (nthC 7 (bodyC Try.f32))))))) 12).dst = some 170 := by kernel_rfl
theorem r32c_g12 : (regOp (nthC 1 (inC (tlC (inC (inC (nthC 7 (bodyC Try.f32))))))) 12).guard = none := by kernel_rfl
theorem r32c_o12 : (regOp (nthC 1 (inC (tlC (inC (inC (nthC 7 (bodyC Try.f32))))))) 12).op = Op.binOp .lss 3 (.tmp 169) (.const (.int .i64 0)) 3 := by kernel_rfl
theorem r32c_i13 : (regOps (nthC 1 (inC (tlC (inC (inC (nthC 7 (bodyC Try.f32))))))))[13]? = some (regOp (nthC 1 (inC (tlC (inC (inC (nthC 7 (bodyC Try.f32))))))) 13) := by kernel_rfl
theorem r32c_d13 : (regOp (nthC 1 (inC (tlC (inC (inC (nthC 7 (bodyC Try.f32))))))) 13).dst = some 171 := by kernel_rfl
theorem r32c_g13 : (regOp (nthC 1 (inC (tlC (inC (inC (nthC 7 (bodyC Try.f32))))))) 13).guard = none := by kernel_rfl
theorem r32c_o13 : (regOp (nthC 1 (inC (tlC (inC (inC (nthC 7 (bodyC Try.f32))))))) 13).op = Op.unOp .not 4 (.tmp 170) := by kernel_rfl
theorem r32c_f0 : Region.free .any (regOps (nthC 1 (inC (tlC (inC (inC (nthC 7 (bodyC Try.f32)))))))) #[false, false, false, false, false, false, false, false, false, false, false, false, false, false] 0 = true := by kernel_rfl
theorem r32c_r0 : (Region.ready .any (regOps (nthC 1 (inC (tlC (inC (inC (nthC 7 (bodyC Try.f32)))))))) #[false, false, false, false, false, false, false, false, false, false, false, false, false, false]).contains 0 = true := by kernel_rfl
theorem r32c_f1 : Region.free .any (regOps (nthC 1 (inC (tlC (inC (inC (nthC 7 (bodyC Try.f32)))))))) #[true, false, false, false, false, false, false, false, false, false, false, false, false, false] 1 = true := by kernel_rfl
theorem r32c_r1 : (Region.ready .any (regOps (nthC 1 (inC (tlC (inC (inC (nthC 7 (bodyC Try.f32)))))))) #[true, false, false, false, false, false, false, false, false, false, false, false, false, false]).contains 1 = true := by kernel_rfl
theorem r32c_f2 : Region.free .any (regOps (nthC 1 (inC (tlC (inC (inC (nthC 7 (bodyC Try.f32)))))))) #[true, true, false, false, false, false, false, false, false, false, false, false, false, false] 2 = true := by kernel_rfl
theorem r32c_r2 : (Region.ready .any (regOps (nthC 1 (inC (tlC (inC (inC (nthC 7 (bodyC Try.f32)))))))) #[true, true, false, false, false, false, false, false, false, false, false, false, false, false]).contains 2 = true := by kernel_rfl
theorem r32c_f3 : Region.free .any (regOps (nthC 1 (inC (tlC (inC (inC (nthC 7 (bodyC Try.f32)))))))) #[true, true, true, false, false, false, false, false, false, false, false, false, false, false] 3 = true := by kernel_rfl
theorem r32c_r3 : (Region.ready .any (regOps (nthC 1 (inC (tlC (inC (inC (nthC 7 (bodyC Try.f32)))))))) #[true, true, true, false, false, false, false, false, false, false, false, false, false, false]).contains 3 = true := by kernel_rfl
theorem r32c_f4 : Region.free .any (regOps (nthC 1 (inC (tlC (inC (inC (nthC 7 (bodyC Try.f32)))))))) #[true, true, true, true, false, false, false, false, false, false, false, false, false, false] 4 = true := by kernel_rfl
theorem r32c_r4 : (Region.ready .any (regOps (nthC 1 (inC (tlC (inC (inC (nthC 7 (bodyC Try.f32)))))))) #[true, true, true, true, false, false, false, false, false, false, false, false, false, false]).contains 4 = true := by kernel_rfl
theorem r32c_f5 : Region.free .any (regOps (nthC 1 (inC (tlC (inC (inC (nthC 7 (bodyC Try.f32)))))))) #[true, true, true, true, true, false, false, false, false, false, false, false, false, false] 5 = true := by kernel_rfl
theorem r32c_r5 : (Region.ready .any (regOps (nthC 1 (inC (tlC (inC (inC (nthC 7 (bodyC Try.f32)))))))) #[true, true, true, true, true, false, false, false, false, false, false, false, false, false]).contains 5 = true := by kernel_rfl
theorem r32c_f6 : Region.free .any (regOps (nthC 1 (inC (tlC (inC (inC (nthC 7 (bodyC Try.f32)))))))) #[true, true, true, true, true, true, false, false, false, false, false, false, false, false] 6 = true := by kernel_rfl
theorem r32c_r6 : (Region.ready .any (regOps (nthC 1 (inC (tlC (inC (inC (nthC 7 (bodyC Try.f32)))))))) #[true, true, true, true, true, true, false, false, false, false, false, false, false, false]).contains 6 = true := by kernel_rfl
theorem r32c_f7 : Region.free .any (regOps (nthC 1 (inC (tlC (inC (inC (nthC 7 (bodyC Try.f32)))))))) #[true, true, true, true, true, true, true, false, false, false, false, false, false, false] 7 = true := by kernel_rfl
theorem r32c_r7 : (Region.ready .any (regOps (nthC 1 (inC (tlC (inC (inC (nthC 7 (bodyC Try.f32)))))))) #[true, true, true, true, true, true, true, false, false, false, false, false, false, false]).contains 7 = true := by kernel_rfl
theorem r32c_f8 : Region.free .any (regOps (nthC 1 (inC (tlC (inC (inC (nthC 7 (bodyC Try.f32)))))))) #[true, true, true, true, true, true, true, true, false, false, false, false, false, false] 8 = true := by kernel_rfl
theorem r32c_r8 : (Region.ready .any (regOps (nthC 1 (inC (tlC (inC (inC (nthC 7 (bodyC Try.f32)))))))) #[true, true, true, true, true, true, true, true, false, false, false, false, false, false]).contains 8 = true := by kernel_rfl
theorem r32c_f9 : Region.free .any (regOps (nthC 1 (inC (tlC (inC (inC (nthC 7 (bodyC Try.f32)))))))) #[true, true, true, true, true, true, true, true, true, false, false, false, false, false] 9 = true := by kernel_rfl
theorem r32c_r9 : (Region.ready .any (regOps (nthC 1 (inC (tlC (inC (inC (nthC 7 (bodyC Try.f32)))))))) #[true, true, true, true, true, true, true, true, true, false, false, false, false, false]).contains 9 = true := by kernel_rfl
theorem r32c_f10 : Region.free .any (regOps (nthC 1 (inC (tlC (inC (inC (nthC 7 (bodyC Try.f32)))))))) #[true, true, true, true, true, true, true, true, true, true, false, false, false, false] 10 = true := by kernel_rfl
theorem r32c_r10 : (Region.ready .any (regOps (nthC 1 (inC (tlC (inC (inC (nthC 7 (bodyC Try.f32)))))))) #[true, true, true, true, true, true, true, true, true, true, false, false, false, false]).contains 10 = true := by kernel_rfl
theorem r32c_r11 : Region.ready .any (regOps (nthC 1 (inC (tlC (inC (inC (nthC 7 (bodyC Try.f32)))))))) #[true, true, true, true, true, true, true, true, true, true, true, false, false, false] = [11] := by kernel_rfl
theorem r32c_f12 : Region.free .any (regOps (nthC 1 (inC (tlC (inC (inC (nthC 7 (bodyC Try.f32)))))))) #[true, true, true, true, true, true, true, true, true, true, true, true, false, false] 12 = true := by kernel_rfl
theorem r32c_r12 : (Region.ready .any (regOps (nthC 1 (inC (tlC (inC (inC (nthC 7 (bodyC Try.f32)))))))) #[true, true, true, true, true, true, true, true, true, true, true, true, false, false]).contains 12 = true := by kernel_rfl
theorem r32c_f13 : Region.free .any (regOps (nthC 1 (inC (tlC (inC (inC (nthC 7 (bodyC Try.f32)))))))) #[true, true, true, true, true, true, true, true, true, true, true, true, true, false] 13 = true := by kernel_rfl
theorem r32c_r13 : (Region.ready .any (regOps (nthC 1 (inC (tlC (inC (inC (nthC 7 (bodyC Try.f32)))))))) #[true, true, true, true, true, true, true, true, true, true, true, true, true, false]).contains 13 = true := by kernel_rfl
theorem r32c_re : Region.ready .any (regOps (nthC 1 (inC (tlC (inC (inC (nthC 7 (bodyC Try.f32)))))))) #[true, true, true, true, true, true, true, true, true, true, true, true, true, true] = [] := by kernel_rfl

set_option maxRecDepth 10000 in
set_option maxHeartbeats 1000000 in
theorem r32c (b n c lo m hi md nn st r p x px : Nat) (epx ex : Hd) (cv : Int) (G : World → Prop) (a : Act) (w : World) (Q : Exit → Act → World → Prop) (hfr : Fr 220 a) (hs : Slots [(0, .slice (some ⟨b, 0, none⟩) n c), (1, .int .i64 (lo : Nat)), (2, .int .i64 (m : Nat)), (3, .int .i64 (hi : Nat)), (4, .func (.func 27) #[] #[]), (18, .int .i64 (md : Nat)), (19, .int .i64 (nn : Nat)), (20, .int .i64 (st : Nat)), (21, .int .i64 (r : Nat)), (22, .int .i64 (p : Nat)), (23, .int .i64 (x : Nat))] a)
    (hpx0 : IntKind.i64.wrap ((p : Int) - (x : Int)) = (px : Int))
    (lpx : (px : Int) < n) (lx : (x : Int) < n) (hSw : (fun w' : World => w'.cell? ⟨b, px * 2, none⟩ = some (.string epx.nm) ∧ w'.cell? ⟨b, px * 2 + 1, none⟩ = some (.slice (some ⟨epx.vb, 0, none⟩) 2 2) ∧ w'.cell? ⟨b, x * 2, none⟩ = some (.string ex.nm) ∧ w'.cell? ⟨b, x * 2 + 1, none⟩ = some (.slice (some ⟨ex.vb, 0, none⟩) 2 2)) w) 
    (hcall : Calls Try.prog 27 #[.agg #[.string epx.nm, .slice (some ⟨epx.vb, 0, none⟩) 2 2], .agg #[.string ex.nm, .slice (some ⟨ex.vb, 0, none⟩) 2 2]] w.drew fun e w' => e = .returned (.int .i64 cv) ∧ (fun w' : World => w'.cell? ⟨b, px * 2, none⟩ = some (.string epx.nm) ∧ w'.cell? ⟨b, px * 2 + 1, none⟩ = some (.slice (some ⟨epx.vb, 0, none⟩) 2 2) ∧ w'.cell? ⟨b, x * 2, none⟩ = some (.string ex.nm) ∧ w'.cell? ⟨b, x * 2 + 1, none⟩ = some (.slice (some ⟨ex.vb, 0, none⟩) 2 2)) w' ∧ G w')
    (hQ : ∀ a' w', G w' → Fr 220 a' → Slots [(0, .slice (some ⟨b, 0, none⟩) n c), (1, .int .i64 (lo : Nat)), (2, .int .i64 (m : Nat)), (3, .int .i64 (hi : Nat)), (4, .func (.func 27) #[] #[]), (18, .int .i64 (md : Nat)), (19, .int .i64 (nn : Nat)), (20, .int .i64 (st : Nat)), (21, .int .i64 (r : Nat)), (22, .int .i64 (p : Nat)), (23, .int .i64 (x : Nat)), (171, .bool (!decide (cv < 0)))] a' → Q .normal a' w') :
    Code.wp Try.prog (nthC 1 (inC (tlC (inC (inC (nthC 7 (bodyC Try.f32))))))) Q a w := by
  obtain ⟨t0, t1, t2, t3, t4, t18, t19, t20, t21, t22, t23, -⟩ := hs
  replace t0 : a.tmps[0]?.getD undef = .slice (some ⟨b, 0, none⟩) n c := (sl_at a 0).symm.trans t0
  replace t1 : a.tmps[1]?.getD undef = .int .i64 (lo : Nat) := (sl_at a 1).symm.trans t1
  replace t2 : a.tmps[2]?.getD undef = .int .i64 (m : Nat) := (sl_at a 2).symm.trans t2
  replace t3 : a.tmps[3]?.getD undef = .int .i64 (hi : Nat) := (sl_at a 3).symm.trans t3
  replace t4 : a.tmps[4]?.getD undef = .func (.func 27) #[] #[] := (sl_at a 4).symm.trans t4
  replace t18 : a.tmps[18]?.getD undef = .int .i64 (md : Nat) := (sl_at a 18).symm.trans t18
  replace t19 : a.tmps[19]?.getD undef = .int .i64 (nn : Nat) := (sl_at a 19).symm.trans t19
  replace t20 : a.tmps[20]?.getD undef = .int .i64 (st : Nat) := (sl_at a 20).symm.trans t20
  replace t21 : a.tmps[21]?.getD undef = .int .i64 (r : Nat) := (sl_at a 21).symm.trans t21
  replace t22 : a.tmps[22]?.getD undef = .int .i64 (p : Nat) := (sl_at a 22).symm.trans t22
  replace t23 : a.tmps[23]?.getD undef = .int .i64 (x : Nat) := (sl_at a 23).symm.trans t23
  have hS0 : (fun w' : World => w'.cell? ⟨b, px * 2, none⟩ = some (.string epx.nm) ∧ w'.cell? ⟨b, px * 2 + 1, none⟩ = some (.slice (some ⟨epx.vb, 0, none⟩) 2 2) ∧ w'.cell? ⟨b, x * 2, none⟩ = some (.string ex.nm) ∧ w'.cell? ⟨b, x * 2 + 1, none⟩ = some (.slice (some ⟨ex.vb, 0, none⟩) 2 2)) w.drew := hSw
  clear hSw
  refine wp_navR (fun w' : World => w'.cell? ⟨b, px * 2, none⟩ = some (.string epx.nm) ∧ w'.cell? ⟨b, px * 2 + 1, none⟩ = some (.slice (some ⟨epx.vb, 0, none⟩) 2 2) ∧ w'.cell? ⟨b, x * 2, none⟩ = some (.string ex.nm) ∧ w'.cell? ⟨b, x * 2 + 1, none⟩ = some (.slice (some ⟨ex.vb, 0, none⟩) 2 2)) (fun a' w' => G w' ∧ Fr 220 a' ∧ Slots [(0, .slice (some ⟨b, 0, none⟩) n c), (1, .int .i64 (lo : Nat)), (2, .int .i64 (m : Nat)), (3, .int .i64 (hi : Nat)), (4, .func (.func 27) #[] #[]), (18, .int .i64 (md : Nat)), (19, .int .i64 (nn : Nat)), (20, .int .i64 (st : Nat)), (21, .int .i64 (r : Nat)), (22, .int .i64 (p : Nat)), (23, .int .i64 (x : Nat)), (171, .bool (!decide (cv < 0)))] a') 14 #[false, false, false, false, false, false, false, false, false, false, false, false, false, false] (by kernel_rfl) (by kernel_rfl) (by kernel_rfl) rfl ?_ (fun a' w' ⟨h1, h2, h3⟩ => hQ a' w' h1 h2 h3)
  clear hQ
  refine take1w 0 158 _ (.func (.func 27) #[] #[]) #[true, false, false, false, false, false, false, false, false, false, false, false, false, false] r32c_i0 r32c_d0 (by decide) r32c_s r32c_f0 r32c_r0 (wanted_none r32c_g0) rfl hS0 hfr ?_ ?_
  · intro wx hx; obtain ⟨h0, h1, h2, h3⟩ := hx; simp only [execOp, r32c_o0]; go_simp
  intro a1 fr1 t158 ho
  replace t0 := (ho 0 (by decide)).trans t0
  replace t1 := (ho 1 (by decide)).trans t1
  replace t2 := (ho 2 (by decide)).trans t2
  replace t3 := (ho 3 (by decide)).trans t3
  replace t4 := (ho 4 (by decide)).trans t4
  replace t18 := (ho 18 (by decide)).trans t18
  replace t19 := (ho 19 (by decide)).trans t19
  replace t20 := (ho 20 (by decide)).trans t20
  replace t21 := (ho 21 (by decide)).trans t21
  replace t22 := (ho 22 (by decide)).trans t22
  replace t23 := (ho 23 (by decide)).trans t23
  clear hfr ho
  refine take1w 1 159 _ (.slice (some ⟨b, 0, none⟩) n c) #[true, true, false, false, false, false, false, false, false, false, false, false, false, false] r32c_i1 r32c_d1 (by decide) r32c_s r32c_f1 r32c_r1 (wanted_none r32c_g1) rfl hS0 fr1 ?_ ?_
  · intro wx hx; obtain ⟨h0, h1, h2, h3⟩ := hx; simp only [execOp, r32c_o1]; go_simp
  intro a2 fr2 t159 ho
  replace t0 := (ho 0 (by decide)).trans t0
  replace t1 := (ho 1 (by decide)).trans t1
  replace t2 := (ho 2 (by decide)).trans t2
  replace t3 := (ho 3 (by decide)).trans t3
  replace t4 := (ho 4 (by decide)).trans t4
  replace t18 := (ho 18 (by decide)).trans t18
  replace t19 := (ho 19 (by decide)).trans t19
  replace t20 := (ho 20 (by decide)).trans t20
  replace t21 := (ho 21 (by decide)).trans t21
  replace t22 := (ho 22 (by decide)).trans t22
  replace t23 := (ho 23 (by decide)).trans t23
  replace t158 := (ho 158 (by decide)).trans t158
  clear fr1 ho
  refine take1w 2 160 _ (.int .i64 (p : Nat)) #[true, true, true, false, false, false, false, false, false, false, false, false, false, false] r32c_i2 r32c_d2 (by decide) r32c_s r32c_f2 r32c_r2 (wanted_none r32c_g2) rfl hS0 fr2 ?_ ?_
  · intro wx hx; obtain ⟨h0, h1, h2, h3⟩ := hx; simp only [execOp, r32c_o2]; go_simp
  intro a3 fr3 t160 ho
  replace t0 := (ho 0 (by decide)).trans t0
  replace t1 := (ho 1 (by decide)).trans t1
  replace t2 := (ho 2 (by decide)).trans t2
  replace t3 := (ho 3 (by decide)).trans t3
  replace t4 := (ho 4 (by decide)).trans t4
  replace t18 := (ho 18 (by decide)).trans t18
  replace t19 := (ho 19 (by decide)).trans t19
  replace t20 := (ho 20 (by decide)).trans t20
  replace t21 := (ho 21 (by decide)).trans t21
  replace t22 := (ho 22 (by decide)).trans t22
  replace t23 := (ho 23 (by decide)).trans t23
  replace t158 := (ho 158 (by decide)).trans t158
  replace t159 := (ho 159 (by decide)).trans t159
  clear fr2 ho
  refine take1w 3 161 _ (.int .i64 (x : Nat)) #[true, true, true, true, false, false, false, false, false, false, false, false, false, false] r32c_i3 r32c_d3 (by decide) r32c_s r32c_f3 r32c_r3 (wanted_none r32c_g3) rfl hS0 fr3 ?_ ?_
  · intro wx hx; obtain ⟨h0, h1, h2, h3⟩ := hx; simp only [execOp, r32c_o3]; go_simp
  intro a4 fr4 t161 ho
  replace t0 := (ho 0 (by decide)).trans t0
  replace t1 := (ho 1 (by decide)).trans t1
  replace t2 := (ho 2 (by decide)).trans t2
  replace t3 := (ho 3 (by decide)).trans t3
  replace t4 := (ho 4 (by decide)).trans t4
  replace t18 := (ho 18 (by decide)).trans t18
  replace t19 := (ho 19 (by decide)).trans t19
  replace t20 := (ho 20 (by decide)).trans t20
  replace t21 := (ho 21 (by decide)).trans t21
  replace t22 := (ho 22 (by decide)).trans t22
  replace t23 := (ho 23 (by decide)).trans t23
  replace t158 := (ho 158 (by decide)).trans t158
  replace t159 := (ho 159 (by decide)).trans t159
  replace t160 := (ho 160 (by decide)).trans t160
  clear fr3 ho
  refine take1w 4 162 _ (.int .i64 (px : Nat)) #[true, true, true, true, true, false, false, false, false, false, false, false, false, false] r32c_i4 r32c_d4 (by decide) r32c_s r32c_f4 r32c_r4 (wanted_none r32c_g4) rfl hS0 fr4 ?_ ?_
  · intro wx hx; obtain ⟨h0, h1, h2, h3⟩ := hx; simp only [execOp, r32c_o4]; go_simp
  intro a5 fr5 t162 ho
  replace t0 := (ho 0 (by decide)).trans t0
  replace t1 := (ho 1 (by decide)).trans t1
  replace t2 := (ho 2 (by decide)).trans t2
  replace t3 := (ho 3 (by decide)).trans t3
  replace t4 := (ho 4 (by decide)).trans t4
  replace t18 := (ho 18 (by decide)).trans t18
  replace t19 := (ho 19 (by decide)).trans t19
  replace t20 := (ho 20 (by decide)).trans t20
  replace t21 := (ho 21 (by decide)).trans t21
  replace t22 := (ho 22 (by decide)).trans t22
  replace t23 := (ho 23 (by decide)).trans t23
  replace t158 := (ho 158 (by decide)).trans t158
  replace t159 := (ho 159 (by decide)).trans t159
  replace t160 := (ho 160 (by decide)).trans t160
  replace t161 := (ho 161 (by decide)).trans t161
  clear fr4 ho
  refine take1w 5 163 _ (.pointer (some ⟨b, px * 2, none⟩)) #[true, true, true, true, true, true, false, false, false, false, false, false, false, false] r32c_i5 r32c_d5 (by decide) r32c_s r32c_f5 r32c_r5 (wanted_none r32c_g5) rfl hS0 fr5 ?_ ?_
  · intro wx hx; obtain ⟨h0, h1, h2, h3⟩ := hx; simp only [execOp, r32c_o5]; go_simp
  intro a6 fr6 t163 ho
  replace t0 := (ho 0 (by decide)).trans t0
  replace t1 := (ho 1 (by decide)).trans t1
  replace t2 := (ho 2 (by decide)).trans t2
  replace t3 := (ho 3 (by decide)).trans t3
  replace t4 := (ho 4 (by decide)).trans t4
  replace t18 := (ho 18 (by decide)).trans t18
  replace t19 := (ho 19 (by decide)).trans t19
  replace t20 := (ho 20 (by decide)).trans t20
  replace t21 := (ho 21 (by decide)).trans t21
  replace t22 := (ho 22 (by decide)).trans t22
  replace t23 := (ho 23 (by decide)).trans t23
  replace t158 := (ho 158 (by decide)).trans t158
  replace t159 := (ho 159 (by decide)).trans t159
  replace t160 := (ho 160 (by decide)).trans t160
  replace t161 := (ho 161 (by decide)).trans t161
  replace t162 := (ho 162 (by decide)).trans t162
  clear fr5 ho
  refine take1w 6 164 _ (.agg #[.string epx.nm, .slice (some ⟨epx.vb, 0, none⟩) 2 2]) #[true, true, true, true, true, true, true, false, false, false, false, false, false, false] r32c_i6 r32c_d6 (by decide) r32c_s r32c_f6 r32c_r6 (wanted_none r32c_g6) rfl hS0 fr6 ?_ ?_
  · intro wx hx; obtain ⟨h0, h1, h2, h3⟩ := hx; simp only [execOp, r32c_o6]; go_simp
  intro a7 fr7 t164 ho
  replace t0 := (ho 0 (by decide)).trans t0
  replace t1 := (ho 1 (by decide)).trans t1
  replace t2 := (ho 2 (by decide)).trans t2
  replace t3 := (ho 3 (by decide)).trans t3
  replace t4 := (ho 4 (by decide)).trans t4
  replace t18 := (ho 18 (by decide)).trans t18
  replace t19 := (ho 19 (by decide)).trans t19
  replace t20 := (ho 20 (by decide)).trans t20
  replace t21 := (ho 21 (by decide)).trans t21
  replace t22 := (ho 22 (by decide)).trans t22
  replace t23 := (ho 23 (by decide)).trans t23
  replace t158 := (ho 158 (by decide)).trans t158
  replace t159 := (ho 159 (by decide)).trans t159
  replace t160 := (ho 160 (by decide)).trans t160
  replace t161 := (ho 161 (by decide)).trans t161
  replace t162 := (ho 162 (by decide)).trans t162
  replace t163 := (ho 163 (by decide)).trans t163
  clear fr6 ho
  refine take1w 7 165 _ (.slice (some ⟨b, 0, none⟩) n c) #[true, true, true, true, true, true, true, true, false, false, false, false, false, false] r32c_i7 r32c_d7 (by decide) r32c_s r32c_f7 r32c_r7 (wanted_none r32c_g7) rfl hS0 fr7 ?_ ?_
  · intro wx hx; obtain ⟨h0, h1, h2, h3⟩ := hx; simp only [execOp, r32c_o7]; go_simp
  intro a8 fr8 t165 ho
  replace t0 := (ho 0 (by decide)).trans t0
  replace t1 := (ho 1 (by decide)).trans t1
  replace t2 := (ho 2 (by decide)).trans t2
  replace t3 := (ho 3 (by decide)).trans t3
  replace t4 := (ho 4 (by decide)).trans t4
  replace t18 := (ho 18 (by decide)).trans t18
  replace t19 := (ho 19 (by decide)).trans t19
  replace t20 := (ho 20 (by decide)).trans t20
  replace t21 := (ho 21 (by decide)).trans t21
  replace t22 := (ho 22 (by decide)).trans t22
  replace t23 := (ho 23 (by decide)).trans t23
  replace t158 := (ho 158 (by decide)).trans t158
  replace t159 := (ho 159 (by decide)).trans t159
  replace t160 := (ho 160 (by decide)).trans t160
  replace t161 := (ho 161 (by decide)).trans t161
  replace t162 := (ho 162 (by decide)).trans t162
  replace t163 := (ho 163 (by decide)).trans t163
  replace t164 := (ho 164 (by decide)).trans t164
  clear fr7 ho
  refine take1w 8 166 _ (.int .i64 (x : Nat)) #[true, true, true, true, true, true, true, true, true, false, false, false, false, false] r32c_i8 r32c_d8 (by decide) r32c_s r32c_f8 r32c_r8 (wanted_none r32c_g8) rfl hS0 fr8 ?_ ?_
  · intro wx hx; obtain ⟨h0, h1, h2, h3⟩ := hx; simp only [execOp, r32c_o8]; go_simp
  intro a9 fr9 t166 ho
  replace t0 := (ho 0 (by decide)).trans t0
  replace t1 := (ho 1 (by decide)).trans t1
  replace t2 := (ho 2 (by decide)).trans t2
  replace t3 := (ho 3 (by decide)).trans t3
  replace t4 := (ho 4 (by decide)).trans t4
  replace t18 := (ho 18 (by decide)).trans t18
  replace t19 := (ho 19 (by decide)).trans t19
  replace t20 := (ho 20 (by decide)).trans t20
  replace t21 := (ho 21 (by decide)).trans t21
  replace t22 := (ho 22 (by decide)).trans t22
  replace t23 := (ho 23 (by decide)).trans t23
  replace t158 := (ho 158 (by decide)).trans t158
  replace t159 := (ho 159 (by decide)).trans t159
  replace t160 := (ho 160 (by decide)).trans t160
  replace t161 := (ho 161 (by decide)).trans t161
  replace t162 := (ho 162 (by decide)).trans t162
  replace t163 := (ho 163 (by decide)).trans t163
  replace t164 := (ho 164 (by decide)).trans t164
  replace t165 := (ho 165 (by decide)).trans t165
  clear fr8 ho
  refine take1w 9 167 _ (.pointer (some ⟨b, x * 2, none⟩)) #[true, true, true, true, true, true, true, true, true, true, false, false, false, false] r32c_i9 r32c_d9 (by decide) r32c_s r32c_f9 r32c_r9 (wanted_none r32c_g9) rfl hS0 fr9 ?_ ?_
  · intro wx hx; obtain ⟨h0, h1, h2, h3⟩ := hx; simp only [execOp, r32c_o9]; go_simp
  intro a10 fr10 t167 ho
  replace t0 := (ho 0 (by decide)).trans t0
  replace t1 := (ho 1 (by decide)).trans t1
  replace t2 := (ho 2 (by decide)).trans t2
  replace t3 := (ho 3 (by decide)).trans t3
  replace t4 := (ho 4 (by decide)).trans t4
  replace t18 := (ho 18 (by decide)).trans t18
  replace t19 := (ho 19 (by decide)).trans t19
  replace t20 := (ho 20 (by decide)).trans t20
  replace t21 := (ho 21 (by decide)).trans t21
  replace t22 := (ho 22 (by decide)).trans t22
  replace t23 := (ho 23 (by decide)).trans t23
  replace t158 := (ho 158 (by decide)).trans t158
  replace t159 := (ho 159 (by decide)).trans t159
  replace t160 := (ho 160 (by decide)).trans t160
  replace t161 := (ho 161 (by decide)).trans t161
  replace t162 := (ho 162 (by decide)).trans t162
  replace t163 := (ho 163 (by decide)).trans t163
  replace t164 := (ho 164 (by decide)).trans t164
  replace t165 := (ho 165 (by decide)).trans t165
  replace t166 := (ho 166 (by decide)).trans t166
  clear fr9 ho
  refine take1w 10 168 _ (.agg #[.string ex.nm, .slice (some ⟨ex.vb, 0, none⟩) 2 2]) #[true, true, true, true, true, true, true, true, true, true, true, false, false, false] r32c_i10 r32c_d10 (by decide) r32c_s r32c_f10 r32c_r10 (wanted_none r32c_g10) rfl hS0 fr10 ?_ ?_
  · intro wx hx; obtain ⟨h0, h1, h2, h3⟩ := hx; simp only [execOp, r32c_o10]; go_simp
  intro a11 fr11 t168 ho
  replace t0 := (ho 0 (by decide)).trans t0
  replace t1 := (ho 1 (by decide)).trans t1
  replace t2 := (ho 2 (by decide)).trans t2
  replace t3 := (ho 3 (by decide)).trans t3
  replace t4 := (ho 4 (by decide)).trans t4
  replace t18 := (ho 18 (by decide)).trans t18
  replace t19 := (ho 19 (by decide)).trans t19
  replace t20 := (ho 20 (by decide)).trans t20
  replace t21 := (ho 21 (by decide)).trans t21
  replace t22 := (ho 22 (by decide)).trans t22
  replace t23 := (ho 23 (by decide)).trans t23
  replace t158 := (ho 158 (by decide)).trans t158
  replace t159 := (ho 159 (by decide)).trans t159
  replace t160 := (ho 160 (by decide)).trans t160
  replace t161 := (ho 161 (by decide)).trans t161
  replace t162 := (ho 162 (by decide)).trans t162
  replace t163 := (ho 163 (by decide)).trans t163
  replace t164 := (ho 164 (by decide)).trans t164
  replace t165 := (ho 165 (by decide)).trans t165
  replace t166 := (ho 166 (by decide)).trans t166
  replace t167 := (ho 167 (by decide)).trans t167
  clear fr10 ho
  refine only1 11 r32c_r11 (actCw 11 169 _ (.int .i64 cv) 27 #[.agg #[.string epx.nm, .slice (some ⟨epx.vb, 0, none⟩) 2 2], .agg #[.string ex.nm, .slice (some ⟨ex.vb, 0, none⟩) 2 2]] G #[true, true, true, true, true, true, true, true, true, true, true, true, false, false] r32c_i11 r32c_d11 (by decide) (wanted_none r32c_g11) rfl fr11 ?_ hcall ?_)
  · simp only [execOp, r32c_o11]; clear hcall; go_simp
  intro a12 w12 hSE hG fr12 t169 ho
  replace t0 := (ho 0 (by decide)).trans t0
  replace t1 := (ho 1 (by decide)).trans t1
  replace t2 := (ho 2 (by decide)).trans t2
  replace t3 := (ho 3 (by decide)).trans t3
  replace t4 := (ho 4 (by decide)).trans t4
  replace t18 := (ho 18 (by decide)).trans t18
  replace t19 := (ho 19 (by decide)).trans t19
  replace t20 := (ho 20 (by decide)).trans t20
  replace t21 := (ho 21 (by decide)).trans t21
  replace t22 := (ho 22 (by decide)).trans t22
  replace t23 := (ho 23 (by decide)).trans t23
  replace t158 := (ho 158 (by decide)).trans t158
  replace t159 := (ho 159 (by decide)).trans t159
  replace t160 := (ho 160 (by decide)).trans t160
  replace t161 := (ho 161 (by decide)).trans t161
  replace t162 := (ho 162 (by decide)).trans t162
  replace t163 := (ho 163 (by decide)).trans t163
  replace t164 := (ho 164 (by decide)).trans t164
  replace t165 := (ho 165 (by decide)).trans t165
  replace t166 := (ho 166 (by decide)).trans t166
  replace t167 := (ho 167 (by decide)).trans t167
  replace t168 := (ho 168 (by decide)).trans t168
  clear fr11 ho hcall
  refine take1w 12 170 _ (.bool (decide (cv < 0))) #[true, true, true, true, true, true, true, true, true, true, true, true, true, false] r32c_i12 r32c_d12 (by decide) r32c_s r32c_f12 r32c_r12 (wanted_none r32c_g12) rfl hSE fr12 ?_ ?_
  · intro wx hx; obtain ⟨h0, h1, h2, h3⟩ := hx; simp only [execOp, r32c_o12]; go_simp
  intro a13 fr13 t170 ho
  replace t0 := (ho 0 (by decide)).trans t0
  replace t1 := (ho 1 (by decide)).trans t1
  replace t2 := (ho 2 (by decide)).trans t2
  replace t3 := (ho 3 (by decide)).trans t3
  replace t4 := (ho 4 (by decide)).trans t4
  replace t18 := (ho 18 (by decide)).trans t18
  replace t19 := (ho 19 (by decide)).trans t19
  replace t20 := (ho 20 (by decide)).trans t20
  replace t21 := (ho 21 (by decide)).trans t21
  replace t22 := (ho 22 (by decide)).trans t22
  replace t23 := (ho 23 (by decide)).trans t23
  replace t158 := (ho 158 (by decide)).trans t158
  replace t159 := (ho 159 (by decide)).trans t159
  replace t160 := (ho 160 (by decide)).trans t160
  replace t161 := (ho 161 (by decide)).trans t161
  replace t162 := (ho 162 (by decide)).trans t162
  replace t163 := (ho 163 (by decide)).trans t163
  replace t164 := (ho 164 (by decide)).trans t164
  replace t165 := (ho 165 (by decide)).trans t165
  replace t166 := (ho 166 (by decide)).trans t166
  replace t167 := (ho 167 (by decide)).trans t167
  replace t168 := (ho 168 (by decide)).trans t168
  replace t169 := (ho 169 (by decide)).trans t169
  clear fr12 ho
  refine take1w 13 171 _ (.bool (!decide (cv < 0))) #[true, true, true, true, true, true, true, true, true, true, true, true, true, true] r32c_i13 r32c_d13 (by decide) r32c_s r32c_f13 r32c_r13 (wanted_none r32c_g13) rfl hSE fr13 ?_ ?_
  · intro wx hx; obtain ⟨h0, h1, h2, h3⟩ := hx; simp only [execOp, r32c_o13]; go_simp
  intro a14 fr14 t171 ho
  replace t0 := (ho 0 (by decide)).trans t0
  replace t1 := (ho 1 (by decide)).trans t1
  replace t2 := (ho 2 (by decide)).trans t2
  replace t3 := (ho 3 (by decide)).trans t3
  replace t4 := (ho 4 (by decide)).trans t4
  replace t18 := (ho 18 (by decide)).trans t18
  replace t19 := (ho 19 (by decide)).trans t19
  replace t20 := (ho 20 (by decide)).trans t20
  replace t21 := (ho 21 (by decide)).trans t21
  replace t22 := (ho 22 (by decide)).trans t22
  replace t23 := (ho 23 (by decide)).trans t23
  replace t158 := (ho 158 (by decide)).trans t158
  replace t159 := (ho 159 (by decide)).trans t159
  replace t160 := (ho 160 (by decide)).trans t160
  replace t161 := (ho 161 (by decide)).trans t161
  replace t162 := (ho 162 (by decide)).trans t162
  replace t163 := (ho 163 (by decide)).trans t163
  replace t164 := (ho 164 (by decide)).trans t164
  replace t165 := (ho 165 (by decide)).trans t165
  replace t166 := (ho 166 (by decide)).trans t166
  replace t167 := (ho 167 (by decide)).trans t167
  replace t168 := (ho 168 (by decide)).trans t168
  replace t169 := (ho 169 (by decide)).trans t169
  replace t170 := (ho 170 (by decide)).trans t170
  clear fr13 ho
  refine wpAnyH_done r32c_re ?_ _
  exact ⟨hG, fr14, (sl_at _ _).trans t0, (sl_at _ _).trans t1, (sl_at _ _).trans t2, (sl_at _ _).trans t3, (sl_at _ _).trans t4, (sl_at _ _).trans t18, (sl_at _ _).trans t19, (sl_at _ _).trans t20, (sl_at _ _).trans t21, (sl_at _ _).trans t22, (sl_at _ _).trans t23, (sl_at _ _).trans t171, trivial⟩

end Go.Proofs.Qxb6601010a
