import Derived.Test.Qxb6601010aU2
namespace Go.Proofs.Qxb6601010a
open Go.RowKit
set_option linter.unusedSimpArgs false
set_option linter.unusedVariables false

theorem r32a_s : Region.noSelect (regOps (nthC 1 (inC (tlC (inC (inC (nthC 2 (thC (tlC (hdC (bodyC Try.f32))))))))))) = true := by kernel_rfl
theorem r32a_i0 : (regOps (nthC 1 (inC (tlC (inC (inC (nthC 2 (thC (tlC (hdC (bodyC Try.f32)))))))))))[0]? = some (regOp (nthC 1 (inC (tlC (inC (inC (nthC 2 (thC (tlC (hdC (bodyC Try.f32)))))))))) 0) := by kernel_rfl
theorem r32a_d0 : (regOp (nthC 1 (inC (tlC (inC (inC (nthC 2 (thC (tlC (hdC (bodyC Try.f32)))))))))) 0).dst = some 40 := by kernel_rfl
theorem r32a_g0 : (regOp (nthC 1 (inC (tlC (inC (inC (nthC 2 (thC (tlC (hdC (bodyC Try.f32)))))))))) 0).guard = none := by kernel_rfl
theorem r32a_o0 : (regOp (nthC 1 (inC (tlC (inC (inC (nthC 2 (thC (tlC (hdC (bodyC Try.f32)))))))))) 0).op = Op.move (.tmp 4) := by kernel_rfl
theorem r32a_i1 : (regOps (nthC 1 (inC (tlC (inC (inC (nthC 2 (thC (tlC (hdC (bodyC Try.f32)))))))))))[1]? = some (regOp (nthC 1 (inC (tlC (inC (inC (nthC 2 (thC (tlC (hdC (bodyC Try.f32)))))))))) 1) := by kernel_rfl
theorem r32a_d1 : (regOp (nthC 1 (inC (tlC (inC (inC (nthC 2 (thC (tlC (hdC (bodyC Try.f32)))))))))) 1).dst = some 41 := by kernel_rfl
theorem r32a_g1 : (regOp (nthC 1 (inC (tlC (inC (inC (nthC 2 (thC (tlC (hdC (bodyC Try.f32)))))))))) 1).guard = none := by kernel_rfl
theorem r32a_o1 : (regOp (nthC 1 (inC (tlC (inC (inC (nthC 2 (thC (tlC (hdC (bodyC Try.f32)))))))))) 1).op = Op.move (.tmp 0) := by kernel_rfl
theorem r32a_i2 : (regOps (nthC 1 (inC (tlC (inC (inC (nthC 2 (thC (tlC (hdC (bodyC Try.f32)))))))))))[2]? = some (regOp (nthC 1 (inC (tlC (inC (inC (nthC 2 (thC (tlC (hdC (bodyC Try.f32)))))))))) 2) := by kernel_rfl
theorem r32a_d2 : (regOp (nthC 1 (inC (tlC (inC (inC (nthC 2 (thC (tlC (hdC (bodyC Try.f32)))))))))) 2).dst = some 42 := by kernel_rfl
theorem r32a_g2 : (regOp (nthC 1 (inC (tlC (inC (inC (nthC 2 (thC (tlC (hdC (bodyC Try.f32)))))))))) 2).guard = none := by kernel_rfl
theorem r32a_o2 : (regOp (nthC 1 (inC (tlC (inC (inC (nthC 2 (thC (tlC (hdC (bodyC Try.f32)))))))))) 2).op = Op.move (.tmp 12) := by kernel_rfl
theorem r32a_i3 : (regOps (nthC 1 (inC (tlC (inC (inC (nthC 2 (thC (tlC (hdC (bodyC Try.f32)))))))))))[3]? = some (regOp (nthC 1 (inC (tlC (inC (inC (nthC 2 (thC (tlC (hdC (bodyC Try.f32)))))))))) 3) := by kernel_rfl
theorem r32a_d3 : (regOp (nthC 1 (inC (tlC (inC (inC (nthC 2 (thC (tlC (hdC (bodyC Try.f32)))))))))) 3).dst = some 43 := by kernel_rfl
theorem r32a_g3 : (regOp (nthC 1 (inC (tlC (inC (inC (nthC 2 (thC (tlC (hdC (bodyC Try.f32)))))))))) 3).guard = none := by kernel_rfl
theorem r32a_o3 : (regOp (nthC 1 (inC (tlC (inC (inC (nthC 2 (thC (tlC (hdC (bodyC Try.f32)))))))))) 3).op = Op.indexAddr 34 (.tmp 41) (.tmp 42) := by kernel_rfl
theorem r32a_i4 : (regOps (nthC 1 (inC (tlC (inC (inC (nthC 2 (thC (tlC (hdC (bodyC Try.f32)))))))))))[4]? = some (regOp (nthC 1 (inC (tlC (inC (inC (nthC 2 (thC (tlC (hdC (bodyC Try.f32)))))))))) 4) := by kernel_rfl
theorem r32a_d4 : (regOp (nthC 1 (inC (tlC (inC (inC (nthC 2 (thC (tlC (hdC (bodyC Try.f32)))))))))) 4).dst = some 44 := by kernel_rfl
theorem r32a_g4 : (regOp (nthC 1 (inC (tlC (inC (inC (nthC 2 (thC (tlC (hdC (bodyC Try.f32)))))))))) 4).guard = none := by kernel_rfl
theorem r32a_o4 : (regOp (nthC 1 (inC (tlC (inC (inC (nthC 2 (thC (tlC (hdC (bodyC Try.f32)))))))))) 4).op = Op.load 39 (.tmp 43) := by kernel_rfl
theorem r32a_i5 : (regOps (nthC 1 (inC (tlC (inC (inC (nthC 2 (thC (tlC (hdC (bodyC Try.f32)))))))))))[5]? = some (regOp (nthC 1 (inC (tlC (inC (inC (nthC 2 (thC (tlC (hdC (bodyC Try.f32)))))))))) 5) := by kernel_rfl
theorem r32a_d5 : (regOp (nthC 1 (inC (tlC (inC (inC (nthC 2 (thC (tlC (hdC (bodyC Try.f32)))))))))) 5).dst = some 45 := by kernel_rfl
theorem r32a_g5 : (regOp (nthC 1 (inC (tlC (inC (inC (nthC 2 (thC (tlC (hdC (bodyC Try.f32)))))))))) 5).guard = none := by kernel_rfl
theorem r32a_o5 : (regOp (nthC 1 (inC (tlC (inC (inC (nthC 2 (thC (tlC (hdC (bodyC Try.f32)))))))))) 5).op = Op.move (.tmp 0) := by kernel_rfl
theorem r32a_i6 : (regOps (nthC 1 (inC (tlC (inC (inC (nthC 2 (thC (tlC (hdC (bodyC Try.f32)))))))))))[6]? = some (regOp (nthC 1 (inC (tlC (inC (inC (nthC 2 (thC (tlC (hdC (bodyC Try.f32)))))))))) 6) := by kernel_rfl
theorem r32a_d6 : (regOp (nthC 1 (inC (tlC (inC (inC (nthC 2 (thC (tlC (hdC (bodyC Try.f32)))))))))) 6).dst = some 46 := by kernel_rfl
theorem r32a_g6 : (regOp (nthC 1 (inC (tlC (inC (inC (nthC 2 (thC (tlC (hdC (bodyC Try.f32)))))))))) 6).guard = none := by kernel_rfl
theorem r32a_o6 : (regOp (nthC 1 (inC (tlC (inC (inC (nthC 2 (thC (tlC (hdC (bodyC Try.f32)))))))))) 6).op = Op.move (.tmp 1) := by kernel_rfl
theorem r32a_i7 : (regOps (nthC 1 (inC (tlC (inC (inC (nthC 2 (thC (tlC (hdC (bodyC Try.f32)))))))))))[7]? = some (regOp (nthC 1 (inC (tlC (inC (inC (nthC 2 (thC (tlC (hdC (bodyC Try.f32)))))))))) 7) := by kernel_rfl
theorem r32a_d7 : (regOp (nthC 1 (inC (tlC (inC (inC (nthC 2 (thC (tlC (hdC (bodyC Try.f32)))))))))) 7).dst = some 47 := by kernel_rfl
theorem r32a_g7 : (regOp (nthC 1 (inC (tlC (inC (inC (nthC 2 (thC (tlC (hdC (bodyC Try.f32)))))))))) 7).guard = none := by kernel_rfl
theorem r32a_o7 : (regOp (nthC 1 (inC (tlC (inC (inC (nthC 2 (thC (tlC (hdC (bodyC Try.f32)))))))))) 7).op = Op.indexAddr 34 (.tmp 45) (.tmp 46) := by kernel_rfl
theorem r32a_i8 : (regOps (nthC 1 (inC (tlC (inC (inC (nthC 2 (thC (tlC (hdC (bodyC Try.f32)))))))))))[8]? = some (regOp (nthC 1 (inC (tlC (inC (inC (nthC 2 (thC (tlC (hdC (bodyC Try.f32)))))))))) 8) := by kernel_rfl
theorem r32a_d8 : (regOp (nthC 1 (inC (tlC (inC (inC (nthC 2 (thC (tlC (hdC (bodyC Try.f32)))))))))) 8).dst = some 48 := by kernel_rfl
theorem r32a_g8 : (regOp (nthC 1 (inC (tlC (inC (inC (nthC 2 (thC (tlC (hdC (bodyC Try.f32)))))))))) 8).guard = none := by kernel_rfl
theorem r32a_o8 : (regOp (nthC 1 (inC (tlC (inC (inC (nthC 2 (thC (tlC (hdC (bodyC Try.f32)))))))))) 8).op = Op.load 39 (.tmp 47) := by kernel_rfl
theorem r32a_i9 : (regOps (nthC 1 (inC (tlC (inC (inC (nthC 2 (thC (tlC (hdC (bodyC Try.f32)))))))))))[9]? = some (regOp (nthC 1 (inC (tlC (inC (inC (nthC 2 (thC (tlC (hdC (bodyC Try.f32)))))))))) 9) := by kernel_rfl
theorem r32a_d9 : (regOp (nthC 1 (inC (tlC (inC (inC (nthC 2 (thC (tlC (hdC (bodyC Try.f32)))))))))) 9).dst = some 49 := by kernel_rfl
theorem r32a_g9 : (regOp (nthC 1 (inC (tlC (inC (inC (nthC 2 (thC (tlC (hdC (bodyC Try.f32)))))))))) 9).guard = none := by kernel_rfl
theorem r32a_o9 : (regOp (nthC 1 (inC (tlC (inC (inC (nthC 2 (thC (tlC (hdC (bodyC Try.f32)))))))))) 9).op = Op.call { callee := .value (.tmp 40), args := #[.tmp 44, .tmp 48], argTypes := #[39, 39] } := by kernel_rfl
theorem r32a_i10 : (regOps (nthC 1 (inC (tlC (inC (inC (nthC 2 (thC (tlC (hdC (bodyC Try.f32)))))))))))[10]? = some (regOp (nthC 1 (inC (tlC (inC (inC (nthC 2 (thC (tlC (hdC (bodyC Try.f32)))))))))) 10) := by kernel_rfl
theorem r32a_d10 : (regOp (nthC 1 (inC (tlC (inC (inC (nthC 2 (thC (tlC (hdC (bodyC Try.f32)))))))))) 10).dst = some 50 := by kernel_rfl
theorem r32a_g10 : (regOp (nthC 1 (inC (tlC (inC (inC (nthC 2 (thC (tlC (hdC (bodyC Try.f32)))))))))) 10).guard = none := by kernel_rfl
theorem r32a_o10 : (regOp (nthC 1 (inC (tlC (inC (inC (nthC 2 (thC (tlC (hdC (bodyC Try.f32)))))))))) 10).op = Op.binOp .lss 3 (.tmp 49) (.const (.int .i64 0)) 3 := by kernel_rfl
theorem r32a_f0 : Region.free .any (regOps (nthC 1 (inC (tlC (inC (inC (nthC 2 (thC (tlC (hdC (bodyC Try.f32))))))))))) #[false, false, false, false, false, false, false, false, false, false, false] 0 = true := by kernel_rfl
theorem r32a_r0 : (Region.ready .any (regOps (nthC 1 (inC (tlC (inC (inC (nthC 2 (thC (tlC (hdC (bodyC Try.f32))))))))))) #[false, false, false, false, false, false, false, false, false, false, false]).contains 0 = true := by kernel_rfl
theorem r32a_f1 : Region.free .any (regOps (nthC 1 (inC (tlC (inC (inC (nthC 2 (thC (tlC (hdC (bodyC Try.f32))))))))))) #[true, false, false, false, false, false, false, false, false, false, false] 1 = true := by kernel_rfl
theorem r32a_r1 : (Region.ready .any (regOps (nthC 1 (inC (tlC (inC (inC (nthC 2 (thC (tlC (hdC (bodyC Try.f32))))))))))) #[true, false, false, false, false, false, false, false, false, false, false]).contains 1 = true := by kernel_rfl
theorem r32a_f2 : Region.free .any (regOps (nthC 1 (inC (tlC (inC (inC (nthC 2 (thC (tlC (hdC (bodyC Try.f32))))))))))) #[true, true, false, false, false, false, false, false, false, false, false] 2 = true := by kernel_rfl
theorem r32a_r2 : (Region.ready .any (regOps (nthC 1 (inC (tlC (inC (inC (nthC 2 (thC (tlC (hdC (bodyC Try.f32))))))))))) #[true, true, false, false, false, false, false, false, false, false, false]).contains 2 = true := by kernel_rfl
theorem r32a_f3 : Region.free .any (regOps (nthC 1 (inC (tlC (inC (inC (nthC 2 (thC (tlC (hdC (bodyC Try.f32))))))))))) #[true, true, true, false, false, false, false, false, false, false, false] 3 = true := by kernel_rfl
theorem r32a_r3 : (Region.ready .any (regOps (nthC 1 (inC (tlC (inC (inC (nthC 2 (thC (tlC (hdC (bodyC Try.f32))))))))))) #[true, true, true, false, false, false, false, false, false, false, false]).contains 3 = true := by kernel_rfl
theorem r32a_f4 : Region.free .any (regOps (nthC 1 (inC (tlC (inC (inC (nthC 2 (thC (tlC (hdC (bodyC Try.f32))))))))))) #[true, true, true, true, false, false, false, false, false, false, false] 4 = true := by kernel_rfl
theorem r32a_r4 : (Region.ready .any (regOps (nthC 1 (inC (tlC (inC (inC (nthC 2 (thC (tlC (hdC (bodyC Try.f32))))))))))) #[true, true, true, true, false, false, false, false, false, false, false]).contains 4 = true := by kernel_rfl
theorem r32a_f5 : Region.free .any (regOps (nthC 1 (inC (tlC (inC (inC (nthC 2 (thC (tlC (hdC (bodyC Try.f32))))))))))) #[true, true, true, true, true, false, false, false, false, false, false] 5 = true := by kernel_rfl
theorem r32a_r5 : (Region.ready .any (regOps (nthC 1 (inC (tlC (inC (inC (nthC 2 (thC (tlC (hdC (bodyC Try.f32))))))))))) #[true, true, true, true, true, false, false, false, false, false, false]).contains 5 = true := by kernel_rfl
theorem r32a_f6 : Region.free .any (regOps (nthC 1 (inC (tlC (inC (inC (nthC 2 (thC (tlC (hdC (bodyC Try.f32))))))))))) #[true, true, true, true, true, true, false, false, false, false, false] 6 = true := by kernel_rfl
theorem r32a_r6 : (Region.ready .any (regOps (nthC 1 (inC (tlC (inC (inC (nthC 2 (thC (tlC (hdC (bodyC Try.f32))))))))))) #[true, true, true, true, true, true, false, false, false, false, false]).contains 6 = true := by kernel_rfl
theorem r32a_f7 : Region.free .any (regOps (nthC 1 (inC (tlC (inC (inC (nthC 2 (thC (tlC (hdC (bodyC Try.f32))))))))))) #[true, true, true, true, true, true, true, false, false, false, false] 7 = true := by kernel_rfl
theorem r32a_r7 : (Region.ready .any (regOps (nthC 1 (inC (tlC (inC (inC (nthC 2 (thC (tlC (hdC (bodyC Try.f32))))))))))) #[true, true, true, true, true, true, true, false, false, false, false]).contains 7 = true := by kernel_rfl
theorem r32a_f8 : Region.free .any (regOps (nthC 1 (inC (tlC (inC (inC (nthC 2 (thC (tlC (hdC (bodyC Try.f32))))))))))) #[true, true, true, true, true, true, true, true, false, false, false] 8 = true := by kernel_rfl
theorem r32a_r8 : (Region.ready .any (regOps (nthC 1 (inC (tlC (inC (inC (nthC 2 (thC (tlC (hdC (bodyC Try.f32))))))))))) #[true, true, true, true, true, true, true, true, false, false, false]).contains 8 = true := by kernel_rfl
theorem r32a_r9 : Region.ready .any (regOps (nthC 1 (inC (tlC (inC (inC (nthC 2 (thC (tlC (hdC (bodyC Try.f32))))))))))) #[true, true, true, true, true, true, true, true, true, false, false] = [9] := by kernel_rfl
theorem r32a_f10 : Region.free .any (regOps (nthC 1 (inC (tlC (inC (inC (nthC 2 (thC (tlC (hdC (bodyC Try.f32))))))))))) #[true, true, true, true, true, true, true, true, true, true, false] 10 = true := by kernel_rfl
theorem r32a_r10 : (Region.ready .any (regOps (nthC 1 (inC (tlC (inC (inC (nthC 2 (thC (tlC (hdC (bodyC Try.f32))))))))))) #[true, true, true, true, true, true, true, true, true, true, false]).contains 10 = true := by kernel_rfl
theorem r32a_re : Region.ready .any (regOps (nthC 1 (inC (tlC (inC (inC (nthC 2 (thC (tlC (hdC (bodyC Try.f32))))))))))) #[true, true, true, true, true, true, true, true, true, true, true] = [] := by kernel_rfl

set_option maxRecDepth 10000 in
set_option maxHeartbeats 1000000 in
theorem r32a (b n c lo m hi i j h : Nat) (eh elo : Hd) (cv : Int) (G : World → Prop) (a : Act) (w : World) (Q : Exit → Act → World → Prop) (hfr : Fr 220 a) (hs : Slots [(0, .slice (some ⟨b, 0, none⟩) n c), (1, .int .i64 (lo : Nat)), (2, .int .i64 (m : Nat)), (3, .int .i64 (hi : Nat)), (4, .func (.func 27) #[] #[]), (10, .int .i64 (i : Nat)), (11, .int .i64 (j : Nat)), (12, .int .i64 (h : Nat))] a)
    
    (lh : (h : Int) < n) (llo : (lo : Int) < n) (hSw : (fun w' : World => w'.cell? ⟨b, h * 2, none⟩ = some (.string eh.nm) ∧ w'.cell? ⟨b, h * 2 + 1, none⟩ = some (.slice (some ⟨eh.vb, 0, none⟩) 2 2) ∧ w'.cell? ⟨b, lo * 2, none⟩ = some (.string elo.nm) ∧ w'.cell? ⟨b, lo * 2 + 1, none⟩ = some (.slice (some ⟨elo.vb, 0, none⟩) 2 2)) w) 
    (hcall : Calls Try.prog 27 #[.agg #[.string eh.nm, .slice (some ⟨eh.vb, 0, none⟩) 2 2], .agg #[.string elo.nm, .slice (some ⟨elo.vb, 0, none⟩) 2 2]] w.drew fun e w' => e = .returned (.int .i64 cv) ∧ (fun w' : World => w'.cell? ⟨b, h * 2, none⟩ = some (.string eh.nm) ∧ w'.cell? ⟨b, h * 2 + 1, none⟩ = some (.slice (some ⟨eh.vb, 0, none⟩) 2 2) ∧ w'.cell? ⟨b, lo * 2, none⟩ = some (.string elo.nm) ∧ w'.cell? ⟨b, lo * 2 + 1, none⟩ = some (.slice (some ⟨elo.vb, 0, none⟩) 2 2)) w' ∧ G w')
    (hQ : ∀ a' w', G w' → Fr 220 a' → Slots [(0, .slice (some ⟨b, 0, none⟩) n c), (1, .int .i64 (lo : Nat)), (2, .int .i64 (m : Nat)), (3, .int .i64 (hi : Nat)), (4, .func (.func 27) #[] #[]), (10, .int .i64 (i : Nat)), (11, .int .i64 (j : Nat)), (12, .int .i64 (h : Nat)), (50, .bool (decide (cv < 0)))] a' → Q .normal a' w') :
    Code.wp Try.prog (nthC 1 (inC (tlC (inC (inC (nthC 2 (thC (tlC (hdC (bodyC Try.f32)))))))))) Q a w := by
  obtain ⟨t0, t1, t2, t3, t4, t10, t11, t12, -⟩ := hs
  replace t0 : a.tmps[0]?.getD undef = .slice (some ⟨b, 0, none⟩) n c := (sl_at a 0).symm.trans t0
  replace t1 : a.tmps[1]?.getD undef = .int .i64 (lo : Nat) := (sl_at a 1).symm.trans t1
  replace t2 : a.tmps[2]?.getD undef = .int .i64 (m : Nat) := (sl_at a 2).symm.trans t2
  replace t3 : a.tmps[3]?.getD undef = .int .i64 (hi : Nat) := (sl_at a 3).symm.trans t3
  replace t4 : a.tmps[4]?.getD undef = .func (.func 27) #[] #[] := (sl_at a 4).symm.trans t4
  replace t10 : a.tmps[10]?.getD undef = .int .i64 (i : Nat) := (sl_at a 10).symm.trans t10
  replace t11 : a.tmps[11]?.getD undef = .int .i64 (j : Nat) := (sl_at a 11).symm.trans t11
  replace t12 : a.tmps[12]?.getD undef = .int .i64 (h : Nat) := (sl_at a 12).symm.trans t12
  have hS0 : (fun w' : World => w'.cell? ⟨b, h * 2, none⟩ = some (.string eh.nm) ∧ w'.cell? ⟨b, h * 2 + 1, none⟩ = some (.slice (some ⟨eh.vb, 0, none⟩) 2 2) ∧ w'.cell? ⟨b, lo * 2, none⟩ = some (.string elo.nm) ∧ w'.cell? ⟨b, lo * 2 + 1, none⟩ = some (.slice (some ⟨elo.vb, 0, none⟩) 2 2)) w.drew := hSw
  clear hSw
  refine wp_navR (fun w' : World => w'.cell? ⟨b, h * 2, none⟩ = some (.string eh.nm) ∧ w'.cell? ⟨b, h * 2 + 1, none⟩ = some (.slice (some ⟨eh.vb, 0, none⟩) 2 2) ∧ w'.cell? ⟨b, lo * 2, none⟩ = some (.string elo.nm) ∧ w'.cell? ⟨b, lo * 2 + 1, none⟩ = some (.slice (some ⟨elo.vb, 0, none⟩) 2 2)) (fun a' w' => G w' ∧ Fr 220 a' ∧ Slots [(0, .slice (some ⟨b, 0, none⟩) n c), (1, .int .i64 (lo : Nat)), (2, .int .i64 (m : Nat)), (3, .int .i64 (hi : Nat)), (4, .func (.func 27) #[] #[]), (10, .int .i64 (i : Nat)), (11, .int .i64 (j : Nat)), (12, .int .i64 (h : Nat)), (50, .bool (decide (cv < 0)))] a') 11 #[false, false, false, false, false, false, false, false, false, false, false] (by kernel_rfl) (by kernel_rfl) (by kernel_rfl) rfl ?_ (fun a' w' ⟨h1, h2, h3⟩ => hQ a' w' h1 h2 h3)
  clear hQ
  refine take1w 0 40 _ (.func (.func 27) #[] #[]) #[true, false, false, false, false, false, false, false, false, false, false] r32a_i0 r32a_d0 (by decide) r32a_s r32a_f0 r32a_r0 (wanted_none r32a_g0) rfl hS0 hfr ?_ ?_
  · intro wx hx; obtain ⟨h0, h1, h2, h3⟩ := hx; simp only [execOp, r32a_o0]; go_simp
  intro a1 fr1 t40 ho
  replace t0 := (ho 0 (by decide)).trans t0
  replace t1 := (ho 1 (by decide)).trans t1
  replace t2 := (ho 2 (by decide)).trans t2
  replace t3 := (ho 3 (by decide)).trans t3
  replace t4 := (ho 4 (by decide)).trans t4
  replace t10 := (ho 10 (by decide)).trans t10
  replace t11 := (ho 11 (by decide)).trans t11
  replace t12 := (ho 12 (by decide)).trans t12
  clear hfr ho
  refine take1w 1 41 _ (.slice (some ⟨b, 0, none⟩) n c) #[true, true, false, false, false, false, false, false, false, false, false] r32a_i1 r32a_d1 (by decide) r32a_s r32a_f1 r32a_r1 (wanted_none r32a_g1) rfl hS0 fr1 ?_ ?_
  · intro wx hx; obtain ⟨h0, h1, h2, h3⟩ := hx; simp only [execOp, r32a_o1]; go_simp
  intro a2 fr2 t41 ho
  replace t0 := (ho 0 (by decide)).trans t0
  replace t1 := (ho 1 (by decide)).trans t1
  replace t2 := (ho 2 (by decide)).trans t2
  replace t3 := (ho 3 (by decide)).trans t3
  replace t4 := (ho 4 (by decide)).trans t4
  replace t10 := (ho 10 (by decide)).trans t10
  replace t11 := (ho 11 (by decide)).trans t11
  replace t12 := (ho 12 (by decide)).trans t12
  replace t40 := (ho 40 (by decide)).trans t40
  clear fr1 ho
  refine take1w 2 42 _ (.int .i64 (h : Nat)) #[true, true, true, false, false, false, false, false, false, false, false] r32a_i2 r32a_d2 (by decide) r32a_s r32a_f2 r32a_r2 (wanted_none r32a_g2) rfl hS0 fr2 ?_ ?_
  · intro wx hx; obtain ⟨h0, h1, h2, h3⟩ := hx; simp only [execOp, r32a_o2]; go_simp
  intro a3 fr3 t42 ho
  replace t0 := (ho 0 (by decide)).trans t0
  replace t1 := (ho 1 (by decide)).trans t1
  replace t2 := (ho 2 (by decide)).trans t2
  replace t3 := (ho 3 (by decide)).trans t3
  replace t4 := (ho 4 (by decide)).trans t4
  replace t10 := (ho 10 (by decide)).trans t10
  replace t11 := (ho 11 (by decide)).trans t11
  replace t12 := (ho 12 (by decide)).trans t12
  replace t40 := (ho 40 (by decide)).trans t40
  replace t41 := (ho 41 (by decide)).trans t41
  clear fr2 ho
  refine take1w 3 43 _ (.pointer (some ⟨b, h * 2, none⟩)) #[true, true, true, true, false, false, false, false, false, false, false] r32a_i3 r32a_d3 (by decide) r32a_s r32a_f3 r32a_r3 (wanted_none r32a_g3) rfl hS0 fr3 ?_ ?_
  · intro wx hx; obtain ⟨h0, h1, h2, h3⟩ := hx; simp only [execOp, r32a_o3]; go_simp
  intro a4 fr4 t43 ho
  replace t0 := (ho 0 (by decide)).trans t0
  replace t1 := (ho 1 (by decide)).trans t1
  replace t2 := (ho 2 (by decide)).trans t2
  replace t3 := (ho 3 (by decide)).trans t3
  replace t4 := (ho 4 (by decide)).trans t4
  replace t10 := (ho 10 (by decide)).trans t10
  replace t11 := (ho 11 (by decide)).trans t11
  replace t12 := (ho 12 (by decide)).trans t12
  replace t40 := (ho 40 (by decide)).trans t40
  replace t41 := (ho 41 (by decide)).trans t41
  replace t42 := (ho 42 (by decide)).trans t42
  clear fr3 ho
  refine take1w 4 44 _ (.agg #[.string eh.nm, .slice (some ⟨eh.vb, 0, none⟩) 2 2]) #[true, true, true, true, true, false, false, false, false, false, false] r32a_i4 r32a_d4 (by decide) r32a_s r32a_f4 r32a_r4 (wanted_none r32a_g4) rfl hS0 fr4 ?_ ?_
  · intro wx hx; obtain ⟨h0, h1, h2, h3⟩ := hx; simp only [execOp, r32a_o4]; go_simp
  intro a5 fr5 t44 ho
  replace t0 := (ho 0 (by decide)).trans t0
  replace t1 := (ho 1 (by decide)).trans t1
  replace t2 := (ho 2 (by decide)).trans t2
  replace t3 := (ho 3 (by decide)).trans t3
  replace t4 := (ho 4 (by decide)).trans t4
  replace t10 := (ho 10 (by decide)).trans t10
  replace t11 := (ho 11 (by decide)).trans t11
  replace t12 := (ho 12 (by decide)).trans t12
  replace t40 := (ho 40 (by decide)).trans t40
  replace t41 := (ho 41 (by decide)).trans t41
  replace t42 := (ho 42 (by decide)).trans t42
  replace t43 := (ho 43 (by decide)).trans t43
  clear fr4 ho
  refine take1w 5 45 _ (.slice (some ⟨b, 0, none⟩) n c) #[true, true, true, true, true, true, false, false, false, false, false] r32a_i5 r32a_d5 (by decide) r32a_s r32a_f5 r32a_r5 (wanted_none r32a_g5) rfl hS0 fr5 ?_ ?_
  · intro wx hx; obtain ⟨h0, h1, h2, h3⟩ := hx; simp only [execOp, r32a_o5]; go_simp
  intro a6 fr6 t45 ho
  replace t0 := (ho 0 (by decide)).trans t0
  replace t1 := (ho 1 (by decide)).trans t1
  replace t2 := (ho 2 (by decide)).trans t2
  replace t3 := (ho 3 (by decide)).trans t3
  replace t4 := (ho 4 (by decide)).trans t4
  replace t10 := (ho 10 (by decide)).trans t10
  replace t11 := (ho 11 (by decide)).trans t11
  replace t12 := (ho 12 (by decide)).trans t12
  replace t40 := (ho 40 (by decide)).trans t40
  replace t41 := (ho 41 (by decide)).trans t41
  replace t42 := (ho 42 (by decide)).trans t42
  replace t43 := (ho 43 (by decide)).trans t43
  replace t44 := (ho 44 (by decide)).trans t44
  clear fr5 ho
  refine take1w 6 46 _ (.int .i64 (lo : Nat)) #[true, true, true, true, true, true, true, false, false, false, false] r32a_i6 r32a_d6 (by decide) r32a_s r32a_f6 r32a_r6 (wanted_none r32a_g6) rfl hS0 fr6 ?_ ?_
  · intro wx hx; obtain ⟨h0, h1, h2, h3⟩ := hx; simp only [execOp, r32a_o6]; go_simp
  intro a7 fr7 t46 ho
  replace t0 := (ho 0 (by decide)).trans t0
  replace t1 := (ho 1 (by decide)).trans t1
  replace t2 := (ho 2 (by decide)).trans t2
  replace t3 := (ho 3 (by decide)).trans t3
  replace t4 := (ho 4 (by decide)).trans t4
  replace t10 := (ho 10 (by decide)).trans t10
  replace t11 := (ho 11 (by decide)).trans t11
  replace t12 := (ho 12 (by decide)).trans t12
  replace t40 := (ho 40 (by decide)).trans t40
  replace t41 := (ho 41 (by decide)).trans t41
  replace t42 := (ho 42 (by decide)).trans t42
  replace t43 := (ho 43 (by decide)).trans t43
  replace t44 := (ho 44 (by decide)).trans t44
  replace t45 := (ho 45 (by decide)).trans t45
  clear fr6 ho
  refine take1w 7 47 _ (.pointer (some ⟨b, lo * 2, none⟩)) #[true, true, true, true, true, true, true, true, false, false, false] r32a_i7 r32a_d7 (by decide) r32a_s r32a_f7 r32a_r7 (wanted_none r32a_g7) rfl hS0 fr7 ?_ ?_
  · intro wx hx; obtain ⟨h0, h1, h2, h3⟩ := hx; simp only [execOp, r32a_o7]; go_simp
  intro a8 fr8 t47 ho
  replace t0 := (ho 0 (by decide)).trans t0
  replace t1 := (ho 1 (by decide)).trans t1
  replace t2 := (ho 2 (by decide)).trans t2
  replace t3 := (ho 3 (by decide)).trans t3
  replace t4 := (ho 4 (by decide)).trans t4
  replace t10 := (ho 10 (by decide)).trans t10
  replace t11 := (ho 11 (by decide)).trans t11
  replace t12 := (ho 12 (by decide)).trans t12
  replace t40 := (ho 40 (by decide)).trans t40
  replace t41 := (ho 41 (by decide)).trans t41
  replace t42 := (ho 42 (by decide)).trans t42
  replace t43 := (ho 43 (by decide)).trans t43
  replace t44 := (ho 44 (by decide)).trans t44
  replace t45 := (ho 45 (by decide)).trans t45
  replace t46 := (ho 46 (by decide)).trans t46
  clear fr7 ho
  refine take1w 8 48 _ (.agg #[.string elo.nm, .slice (some ⟨elo.vb, 0, none⟩) 2 2]) #[true, true, true, true, true, true, true, true, true, false, false] r32a_i8 r32a_d8 (by decide) r32a_s r32a_f8 r32a_r8 (wanted_none r32a_g8) rfl hS0 fr8 ?_ ?_
  · intro wx hx; obtain ⟨h0, h1, h2, h3⟩ := hx; simp only [execOp, r32a_o8]; go_simp
  intro a9 fr9 t48 ho
  replace t0 := (ho 0 (by decide)).trans t0
  replace t1 := (ho 1 (by decide)).trans t1
  replace t2 := (ho 2 (by decide)).trans t2
  replace t3 := (ho 3 (by decide)).trans t3
  replace t4 := (ho 4 (by decide)).trans t4
  replace t10 := (ho 10 (by decide)).trans t10
  replace t11 := (ho 11 (by decide)).trans t11
  replace t12 := (ho 12 (by decide)).trans t12
  replace t40 := (ho 40 (by decide)).trans t40
  replace t41 := (ho 41 (by decide)).trans t41
  replace t42 := (ho 42 (by decide)).trans t42
  replace t43 := (ho 43 (by decide)).trans t43
  replace t44 := (ho 44 (by decide)).trans t44
  replace t45 := (ho 45 (by decide)).trans t45
  replace t46 := (ho 46 (by decide)).trans t46
  replace t47 := (ho 47 (by decide)).trans t47
  clear fr8 ho
  refine only1 9 r32a_r9 (actCw 9 49 _ (.int .i64 cv) 27 #[.agg #[.string eh.nm, .slice (some ⟨eh.vb, 0, none⟩) 2 2], .agg #[.string elo.nm, .slice (some ⟨elo.vb, 0, none⟩) 2 2]] G #[true, true, true, true, true, true, true, true, true, true, false] r32a_i9 r32a_d9 (by decide) (wanted_none r32a_g9) rfl fr9 ?_ hcall ?_)
  · simp only [execOp, r32a_o9]; clear hcall; go_simp
  intro a10 w10 hSE hG fr10 t49 ho
  replace t0 := (ho 0 (by decide)).trans t0
  replace t1 := (ho 1 (by decide)).trans t1
  replace t2 := (ho 2 (by decide)).trans t2
  replace t3 := (ho 3 (by decide)).trans t3
  replace t4 := (ho 4 (by decide)).trans t4
  replace t10 := (ho 10 (by decide)).trans t10
  replace t11 := (ho 11 (by decide)).trans t11
  replace t12 := (ho 12 (by decide)).trans t12
  replace t40 := (ho 40 (by decide)).trans t40
  replace t41 := (ho 41 (by decide)).trans t41
  replace t42 := (ho 42 (by decide)).trans t42
  replace t43 := (ho 43 (by decide)).trans t43
  replace t44 := (ho 44 (by decide)).trans t44
  replace t45 := (ho 45 (by decide)).trans t45
  replace t46 := (ho 46 (by decide)).trans t46
  replace t47 := (ho 47 (by decide)).trans t47
  replace t48 := (ho 48 (by decide)).trans t48
  clear fr9 ho hcall
  refine take1w 10 50 _ (.bool (decide (cv < 0))) #[true, true, true, true, true, true, true, true, true, true, true] r32a_i10 r32a_d10 (by decide) r32a_s r32a_f10 r32a_r10 (wanted_none r32a_g10) rfl hSE fr10 ?_ ?_
  · intro wx hx; obtain ⟨h0, h1, h2, h3⟩ := hx; simp only [execOp, r32a_o10]; go_simp
  intro a11 fr11 t50 ho
  replace t0 := (ho 0 (by decide)).trans t0
  replace t1 := (ho 1 (by decide)).trans t1
  replace t2 := (ho 2 (by decide)).trans t2
  replace t3 := (ho 3 (by decide)).trans t3
  replace t4 := (ho 4 (by decide)).trans t4
  replace t10 := (ho 10 (by decide)).trans t10
  replace t11 := (ho 11 (by decide)).trans t11
  replace t12 := (ho 12 (by decide)).trans t12
  replace t40 := (ho 40 (by decide)).trans t40
  replace t41 := (ho 41 (by decide)).trans t41
  replace t42 := (ho 42 (by decide)).trans t42
  replace t43 := (ho 43 (by decide)).trans t43
  replace t44 := (ho 44 (by decide)).trans t44
  replace t45 := (ho 45 (by decide)).trans t45
  replace t46 := (ho 46 (by decide)).trans t46
  replace t47 := (ho 47 (by decide)).trans t47
  replace t48 := (ho 48 (by decide)).trans t48
  replace t49 := (ho 49 (by decide)).trans t49
  clear fr10 ho
  refine wpAnyH_done r32a_re ?_ _
  exact ⟨hG, fr11, (sl_at _ _).trans t0, (sl_at _ _).trans t1, (sl_at _ _).trans t2, (sl_at _ _).trans t3, (sl_at _ _).trans t4, (sl_at _ _).trans t10, (sl_at _ _).trans t11, (sl_at _ _).trans t12, (sl_at _ _).trans t50, trivial⟩

theorem w32a_s : Region.noSelect (regOps (inC (hdC (tlC (inC (inC (tlC (nthC 3 (thC (tlC (hdC (bodyC Try.f32)))))))))))) = true := by kernel_rfl
theorem w32a_i0 : (regOps (inC (hdC (tlC (inC (inC (tlC (nthC 3 (thC (tlC (hdC (bodyC Try.f32))))))))))))[0]? = some (regOp (inC (hdC (tlC (inC (inC (tlC (nthC 3 (thC (tlC (hdC (bodyC Try.f32))))))))))) 0) := by kernel_rfl
theorem w32a_d0 : (regOp (inC (hdC (tlC (inC (inC (tlC (nthC 3 (thC (tlC (hdC (bodyC Try.f32))))))))))) 0).dst = some 61 := by kernel_rfl
theorem w32a_g0 : (regOp (inC (hdC (tlC (inC (inC (tlC (nthC 3 (thC (tlC (hdC (bodyC Try.f32))))))))))) 0).guard = none := by kernel_rfl
theorem w32a_o0 : (regOp (inC (hdC (tlC (inC (inC (tlC (nthC 3 (thC (tlC (hdC (bodyC Try.f32))))))))))) 0).op = Op.move (.tmp 0) := by kernel_rfl
theorem w32a_i1 : (regOps (inC (hdC (tlC (inC (inC (tlC (nthC 3 (thC (tlC (hdC (bodyC Try.f32))))))))))))[1]? = some (regOp (inC (hdC (tlC (inC (inC (tlC (nthC 3 (thC (tlC (hdC (bodyC Try.f32))))))))))) 1) := by kernel_rfl
theorem w32a_d1 : (regOp (inC (hdC (tlC (inC (inC (tlC (nthC 3 (thC (tlC (hdC (bodyC Try.f32))))))))))) 1).dst = some 62 := by kernel_rfl
theorem w32a_g1 : (regOp (inC (hdC (tlC (inC (inC (tlC (nthC 3 (thC (tlC (hdC (bodyC Try.f32))))))))))) 1).guard = none := by kernel_rfl
theorem w32a_o1 : (regOp (inC (hdC (tlC (inC (inC (tlC (nthC 3 (thC (tlC (hdC (bodyC Try.f32))))))))))) 1).op = Op.move (.tmp 13) := by kernel_rfl
theorem w32a_i2 : (regOps (inC (hdC (tlC (inC (inC (tlC (nthC 3 (thC (tlC (hdC (bodyC Try.f32))))))))))))[2]? = some (regOp (inC (hdC (tlC (inC (inC (tlC (nthC 3 (thC (tlC (hdC (bodyC Try.f32))))))))))) 2) := by kernel_rfl
theorem w32a_d2 : (regOp (inC (hdC (tlC (inC (inC (tlC (nthC 3 (thC (tlC (hdC (bodyC Try.f32))))))))))) 2).dst = some 63 := by kernel_rfl
theorem w32a_g2 : (regOp (inC (hdC (tlC (inC (inC (tlC (nthC 3 (thC (tlC (hdC (bodyC Try.f32))))))))))) 2).guard = none := by kernel_rfl
theorem w32a_o2 : (regOp (inC (hdC (tlC (inC (inC (tlC (nthC 3 (thC (tlC (hdC (bodyC Try.f32))))))))))) 2).op = Op.move (.tmp 0) := by kernel_rfl
theorem w32a_i3 : (regOps (inC (hdC (tlC (inC (inC (tlC (nthC 3 (thC (tlC (hdC (bodyC Try.f32))))))))))))[3]? = some (regOp (inC (hdC (tlC (inC (inC (tlC (nthC 3 (thC (tlC (hdC (bodyC Try.f32))))))))))) 3) := by kernel_rfl
theorem w32a_d3 : (regOp (inC (hdC (tlC (inC (inC (tlC (nthC 3 (thC (tlC (hdC (bodyC Try.f32))))))))))) 3).dst = some 64 := by kernel_rfl
theorem w32a_g3 : (regOp (inC (hdC (tlC (inC (inC (tlC (nthC 3 (thC (tlC (hdC (bodyC Try.f32))))))))))) 3).guard = none := by kernel_rfl
theorem w32a_o3 : (regOp (inC (hdC (tlC (inC (inC (tlC (nthC 3 (thC (tlC (hdC (bodyC Try.f32))))))))))) 3).op = Op.move (.tmp 13) := by kernel_rfl
theorem w32a_i4 : (regOps (inC (hdC (tlC (inC (inC (tlC (nthC 3 (thC (tlC (hdC (bodyC Try.f32))))))))))))[4]? = some (regOp (inC (hdC (tlC (inC (inC (tlC (nthC 3 (thC (tlC (hdC (bodyC Try.f32))))))))))) 4) := by kernel_rfl
theorem w32a_d4 : (regOp (inC (hdC (tlC (inC (inC (tlC (nthC 3 (thC (tlC (hdC (bodyC Try.f32))))))))))) 4).dst = some 65 := by kernel_rfl
theorem w32a_g4 : (regOp (inC (hdC (tlC (inC (inC (tlC (nthC 3 (thC (tlC (hdC (bodyC Try.f32))))))))))) 4).guard = none := by kernel_rfl
theorem w32a_o4 : (regOp (inC (hdC (tlC (inC (inC (tlC (nthC 3 (thC (tlC (hdC (bodyC Try.f32))))))))))) 4).op = Op.binOp .add 3 (.tmp 64) (.const (.int .i64 1)) 3 := by kernel_rfl
theorem w32a_i5 : (regOps (inC (hdC (tlC (inC (inC (tlC (nthC 3 (thC (tlC (hdC (bodyC Try.f32))))))))))))[5]? = some (regOp (inC (hdC (tlC (inC (inC (tlC (nthC 3 (thC (tlC (hdC (bodyC Try.f32))))))))))) 5) := by kernel_rfl
theorem w32a_d5 : (regOp (inC (hdC (tlC (inC (inC (tlC (nthC 3 (thC (tlC (hdC (bodyC Try.f32))))))))))) 5).dst = some 66 := by kernel_rfl
theorem w32a_g5 : (regOp (inC (hdC (tlC (inC (inC (tlC (nthC 3 (thC (tlC (hdC (bodyC Try.f32))))))))))) 5).guard = none := by kernel_rfl
theorem w32a_o5 : (regOp (inC (hdC (tlC (inC (inC (tlC (nthC 3 (thC (tlC (hdC (bodyC Try.f32))))))))))) 5).op = Op.move (.tmp 0) := by kernel_rfl
theorem w32a_i6 : (regOps (inC (hdC (tlC (inC (inC (tlC (nthC 3 (thC (tlC (hdC (bodyC Try.f32))))))))))))[6]? = some (regOp (inC (hdC (tlC (inC (inC (tlC (nthC 3 (thC (tlC (hdC (bodyC Try.f32))))))))))) 6) := by kernel_rfl
theorem w32a_d6 : (regOp (inC (hdC (tlC (inC (inC (tlC (nthC 3 (thC (tlC (hdC (bodyC Try.f32))))))))))) 6).dst = some 67 := by kernel_rfl
theorem w32a_g6 : (regOp (inC (hdC (tlC (inC (inC (tlC (nthC 3 (thC (tlC (hdC (bodyC Try.f32))))))))))) 6).guard = none := by kernel_rfl
theorem w32a_o6 : (regOp (inC (hdC (tlC (inC (inC (tlC (nthC 3 (thC (tlC (hdC (bodyC Try.f32))))))))))) 6).op = Op.move (.tmp 13) := by kernel_rfl
theorem w32a_i7 : (regOps (inC (hdC (tlC (inC (inC (tlC (nthC 3 (thC (tlC (hdC (bodyC Try.f32))))))))))))[7]? = some (regOp (inC (hdC (tlC (inC (inC (tlC (nthC 3 (thC (tlC (hdC (bodyC Try.f32))))))))))) 7) := by kernel_rfl
theorem w32a_d7 : (regOp (inC (hdC (tlC (inC (inC (tlC (nthC 3 (thC (tlC (hdC (bodyC Try.f32))))))))))) 7).dst = some 68 := by kernel_rfl
theorem w32a_g7 : (regOp (inC (hdC (tlC (inC (inC (tlC (nthC 3 (thC (tlC (hdC (bodyC Try.f32))))))))))) 7).guard = none := by kernel_rfl
theorem w32a_o7 : (regOp (inC (hdC (tlC (inC (inC (tlC (nthC 3 (thC (tlC (hdC (bodyC Try.f32))))))))))) 7).op = Op.binOp .add 3 (.tmp 67) (.const (.int .i64 1)) 3 := by kernel_rfl
theorem w32a_i8 : (regOps (inC (hdC (tlC (inC (inC (tlC (nthC 3 (thC (tlC (hdC (bodyC Try.f32))))))))))))[8]? = some (regOp (inC (hdC (tlC (inC (inC (tlC (nthC 3 (thC (tlC (hdC (bodyC Try.f32))))))))))) 8) := by kernel_rfl
theorem w32a_d8 : (regOp (inC (hdC (tlC (inC (inC (tlC (nthC 3 (thC (tlC (hdC (bodyC Try.f32))))))))))) 8).dst = some 69 := by kernel_rfl
theorem w32a_g8 : (regOp (inC (hdC (tlC (inC (inC (tlC (nthC 3 (thC (tlC (hdC (bodyC Try.f32))))))))))) 8).guard = none := by kernel_rfl
theorem w32a_o8 : (regOp (inC (hdC (tlC (inC (inC (tlC (nthC 3 (thC (tlC (hdC (bodyC Try.f32))))))))))) 8).op = Op.indexAddr 34 (.tmp 66) (.tmp 68) := by kernel_rfl
theorem w32a_i9 : (regOps (inC (hdC (tlC (inC (inC (tlC (nthC 3 (thC (tlC (hdC (bodyC Try.f32))))))))))))[9]? = some (regOp (inC (hdC (tlC (inC (inC (tlC (nthC 3 (thC (tlC (hdC (bodyC Try.f32))))))))))) 9) := by kernel_rfl
theorem w32a_d9 : (regOp (inC (hdC (tlC (inC (inC (tlC (nthC 3 (thC (tlC (hdC (bodyC Try.f32))))))))))) 9).dst = some 70 := by kernel_rfl
theorem w32a_g9 : (regOp (inC (hdC (tlC (inC (inC (tlC (nthC 3 (thC (tlC (hdC (bodyC Try.f32))))))))))) 9).guard = none := by kernel_rfl
theorem w32a_o9 : (regOp (inC (hdC (tlC (inC (inC (tlC (nthC 3 (thC (tlC (hdC (bodyC Try.f32))))))))))) 9).op = Op.load 39 (.tmp 69) := by kernel_rfl
theorem w32a_i10 : (regOps (inC (hdC (tlC (inC (inC (tlC (nthC 3 (thC (tlC (hdC (bodyC Try.f32))))))))))))[10]? = some (regOp (inC (hdC (tlC (inC (inC (tlC (nthC 3 (thC (tlC (hdC (bodyC Try.f32))))))))))) 10) := by kernel_rfl
theorem w32a_d10 : (regOp (inC (hdC (tlC (inC (inC (tlC (nthC 3 (thC (tlC (hdC (bodyC Try.f32))))))))))) 10).dst = some 71 := by kernel_rfl
theorem w32a_g10 : (regOp (inC (hdC (tlC (inC (inC (tlC (nthC 3 (thC (tlC (hdC (bodyC Try.f32))))))))))) 10).guard = none := by kernel_rfl
theorem w32a_o10 : (regOp (inC (hdC (tlC (inC (inC (tlC (nthC 3 (thC (tlC (hdC (bodyC Try.f32))))))))))) 10).op = Op.move (.tmp 0) := by kernel_rfl
theorem w32a_i11 : (regOps (inC (hdC (tlC (inC (inC (tlC (nthC 3 (thC (tlC (hdC (bodyC Try.f32))))))))))))[11]? = some (regOp (inC (hdC (tlC (inC (inC (tlC (nthC 3 (thC (tlC (hdC (bodyC Try.f32))))))))))) 11) := by kernel_rfl
theorem w32a_d11 : (regOp (inC (hdC (tlC (inC (inC (tlC (nthC 3 (thC (tlC (hdC (bodyC Try.f32))))))))))) 11).dst = some 72 := by kernel_rfl
theorem w32a_g11 : (regOp (inC (hdC (tlC (inC (inC (tlC (nthC 3 (thC (tlC (hdC (bodyC Try.f32))))))))))) 11).guard = none := by kernel_rfl
theorem w32a_o11 : (regOp (inC (hdC (tlC (inC (inC (tlC (nthC 3 (thC (tlC (hdC (bodyC Try.f32))))))))))) 11).op = Op.move (.tmp 13) := by kernel_rfl
theorem w32a_i12 : (regOps (inC (hdC (tlC (inC (inC (tlC (nthC 3 (thC (tlC (hdC (bodyC Try.f32))))))))))))[12]? = some (regOp (inC (hdC (tlC (inC (inC (tlC (nthC 3 (thC (tlC (hdC (bodyC Try.f32))))))))))) 12) := by kernel_rfl
theorem w32a_d12 : (regOp (inC (hdC (tlC (inC (inC (tlC (nthC 3 (thC (tlC (hdC (bodyC Try.f32))))))))))) 12).dst = some 73 := by kernel_rfl
theorem w32a_g12 : (regOp (inC (hdC (tlC (inC (inC (tlC (nthC 3 (thC (tlC (hdC (bodyC Try.f32))))))))))) 12).guard = none := by kernel_rfl
theorem w32a_o12 : (regOp (inC (hdC (tlC (inC (inC (tlC (nthC 3 (thC (tlC (hdC (bodyC Try.f32))))))))))) 12).op = Op.indexAddr 34 (.tmp 71) (.tmp 72) := by kernel_rfl
theorem w32a_i13 : (regOps (inC (hdC (tlC (inC (inC (tlC (nthC 3 (thC (tlC (hdC (bodyC Try.f32))))))))))))[13]? = some (regOp (inC (hdC (tlC (inC (inC (tlC (nthC 3 (thC (tlC (hdC (bodyC Try.f32))))))))))) 13) := by kernel_rfl
theorem w32a_d13 : (regOp (inC (hdC (tlC (inC (inC (tlC (nthC 3 (thC (tlC (hdC (bodyC Try.f32))))))))))) 13).dst = some 74 := by kernel_rfl
theorem w32a_g13 : (regOp (inC (hdC (tlC (inC (inC (tlC (nthC 3 (thC (tlC (hdC (bodyC Try.f32))))))))))) 13).guard = none := by kernel_rfl
theorem w32a_o13 : (regOp (inC (hdC (tlC (inC (inC (tlC (nthC 3 (thC (tlC (hdC (bodyC Try.f32))))))))))) 13).op = Op.load 39 (.tmp 73) := by kernel_rfl
theorem w32a_i14 : (regOps (inC (hdC (tlC (inC (inC (tlC (nthC 3 (thC (tlC (hdC (bodyC Try.f32))))))))))))[14]? = some (regOp (inC (hdC (tlC (inC (inC (tlC (nthC 3 (thC (tlC (hdC (bodyC Try.f32))))))))))) 14) := by kernel_rfl
theorem w32a_d14 : (regOp (inC (hdC (tlC (inC (inC (tlC (nthC 3 (thC (tlC (hdC (bodyC Try.f32))))))))))) 14).dst = some 75 := by kernel_rfl
theorem w32a_g14 : (regOp (inC (hdC (tlC (inC (inC (tlC (nthC 3 (thC (tlC (hdC (bodyC Try.f32))))))))))) 14).guard = none := by kernel_rfl
theorem w32a_o14 : (regOp (inC (hdC (tlC (inC (inC (tlC (nthC 3 (thC (tlC (hdC (bodyC Try.f32))))))))))) 14).op = Op.indexAddr 34 (.tmp 61) (.tmp 62) := by kernel_rfl
theorem w32a_i15 : (regOps (inC (hdC (tlC (inC (inC (tlC (nthC 3 (thC (tlC (hdC (bodyC Try.f32))))))))))))[15]? = some (regOp (inC (hdC (tlC (inC (inC (tlC (nthC 3 (thC (tlC (hdC (bodyC Try.f32))))))))))) 15) := by kernel_rfl
theorem w32a_d15 : (regOp (inC (hdC (tlC (inC (inC (tlC (nthC 3 (thC (tlC (hdC (bodyC Try.f32))))))))))) 15).dst = none := by kernel_rfl
theorem w32a_g15 : (regOp (inC (hdC (tlC (inC (inC (tlC (nthC 3 (thC (tlC (hdC (bodyC Try.f32))))))))))) 15).guard = none := by kernel_rfl
theorem w32a_o15 : (regOp (inC (hdC (tlC (inC (inC (tlC (nthC 3 (thC (tlC (hdC (bodyC Try.f32))))))))))) 15).op = Op.store 39 (.tmp 75) (.tmp 70) := by kernel_rfl
theorem w32a_i16 : (regOps (inC (hdC (tlC (inC (inC (tlC (nthC 3 (thC (tlC (hdC (bodyC Try.f32))))))))))))[16]? = some (regOp (inC (hdC (tlC (inC (inC (tlC (nthC 3 (thC (tlC (hdC (bodyC Try.f32))))))))))) 16) := by kernel_rfl
theorem w32a_d16 : (regOp (inC (hdC (tlC (inC (inC (tlC (nthC 3 (thC (tlC (hdC (bodyC Try.f32))))))))))) 16).dst = some 76 := by kernel_rfl
theorem w32a_g16 : (regOp (inC (hdC (tlC (inC (inC (tlC (nthC 3 (thC (tlC (hdC (bodyC Try.f32))))))))))) 16).guard = none := by kernel_rfl
theorem w32a_o16 : (regOp (inC (hdC (tlC (inC (inC (tlC (nthC 3 (thC (tlC (hdC (bodyC Try.f32))))))))))) 16).op = Op.indexAddr 34 (.tmp 63) (.tmp 65) := by kernel_rfl
theorem w32a_i17 : (regOps (inC (hdC (tlC (inC (inC (tlC (nthC 3 (thC (tlC (hdC (bodyC Try.f32))))))))))))[17]? = some (regOp (inC (hdC (tlC (inC (inC (tlC (nthC 3 (thC (tlC (hdC (bodyC Try.f32))))))))))) 17) := by kernel_rfl
theorem w32a_d17 : (regOp (inC (hdC (tlC (inC (inC (tlC (nthC 3 (thC (tlC (hdC (bodyC Try.f32))))))))))) 17).dst = none := by kernel_rfl
theorem w32a_g17 : (regOp (inC (hdC (tlC (inC (inC (tlC (nthC 3 (thC (tlC (hdC (bodyC Try.f32))))))))))) 17).guard = none := by kernel_rfl
theorem w32a_o17 : (regOp (inC (hdC (tlC (inC (inC (tlC (nthC 3 (thC (tlC (hdC (bodyC Try.f32))))))))))) 17).op = Op.store 39 (.tmp 76) (.tmp 74) := by kernel_rfl
theorem w32a_f0 : Region.free .any (regOps (inC (hdC (tlC (inC (inC (tlC (nthC 3 (thC (tlC (hdC (bodyC Try.f32)))))))))))) #[false, false, false, false, false, false, false, false, false, false, false, false, false, false, false, false, false, false] 0 = true := by kernel_rfl
theorem w32a_r0 : (Region.ready .any (regOps (inC (hdC (tlC (inC (inC (tlC (nthC 3 (thC (tlC (hdC (bodyC Try.f32)))))))))))) #[false, false, false, false, false, false, false, false, false, false, false, false, false, false, false, false, false, false]).contains 0 = true := by kernel_rfl
theorem w32a_f1 : Region.free .any (regOps (inC (hdC (tlC (inC (inC (tlC (nthC 3 (thC (tlC (hdC (bodyC Try.f32)))))))))))) #[true, false, false, false, false, false, false, false, false, false, false, false, false, false, false, false, false, false] 1 = true := by kernel_rfl
theorem w32a_r1 : (Region.ready .any (regOps (inC (hdC (tlC (inC (inC (tlC (nthC 3 (thC (tlC (hdC (bodyC Try.f32)))))))))))) #[true, false, false, false, false, false, false, false, false, false, false, false, false, false, false, false, false, false]).contains 1 = true := by kernel_rfl
theorem w32a_f2 : Region.free .any (regOps (inC (hdC (tlC (inC (inC (tlC (nthC 3 (thC (tlC (hdC (bodyC Try.f32)))))))))))) #[true, true, false, false, false, false, false, false, false, false, false, false, false, false, false, false, false, false] 2 = true := by kernel_rfl
theorem w32a_r2 : (Region.ready .any (regOps (inC (hdC (tlC (inC (inC (tlC (nthC 3 (thC (tlC (hdC (bodyC Try.f32)))))))))))) #[true, true, false, false, false, false, false, false, false, false, false, false, false, false, false, false, false, false]).contains 2 = true := by kernel_rfl
theorem w32a_f3 : Region.free .any (regOps (inC (hdC (tlC (inC (inC (tlC (nthC 3 (thC (tlC (hdC (bodyC Try.f32)))))))))))) #[true, true, true, false, false, false, false, false, false, false, false, false, false, false, false, false, false, false] 3 = true := by kernel_rfl
theorem w32a_r3 : (Region.ready .any (regOps (inC (hdC (tlC (inC (inC (tlC (nthC 3 (thC (tlC (hdC (bodyC Try.f32)))))))))))) #[true, true, true, false, false, false, false, false, false, false, false, false, false, false, false, false, false, false]).contains 3 = true := by kernel_rfl
theorem w32a_f4 : Region.free .any (regOps (inC (hdC (tlC (inC (inC (tlC (nthC 3 (thC (tlC (hdC (bodyC Try.f32)))))))))))) #[true, true, true, true, false, false, false, false, false, false, false, false, false, false, false, false, false, false] 4 = true := by kernel_rfl
theorem w32a_r4 : (Region.ready .any (regOps (inC (hdC (tlC (inC (inC (tlC (nthC 3 (thC (tlC (hdC (bodyC Try.f32)))))))))))) #[true, true, true, true, false, false, false, false, false, false, false, false, false, false, false, false, false, false]).contains 4 = true := by kernel_rfl
theorem w32a_f5 : Region.free .any (regOps (inC (hdC (tlC (inC (inC (tlC (nthC 3 (thC (tlC (hdC (bodyC Try.f32)))))))))))) #[true, true, true, true, true, false, false, false, false, false, false, false, false, false, false, false, false, false] 5 = true := by kernel_rfl
theorem w32a_r5 : (Region.ready .any (regOps (inC (hdC (tlC (inC (inC (tlC (nthC 3 (thC (tlC (hdC (bodyC Try.f32)))))))))))) #[true, true, true, true, true, false, false, false, false, false, false, false, false, false, false, false, false, false]).contains 5 = true := by kernel_rfl
theorem w32a_f6 : Region.free .any (regOps (inC (hdC (tlC (inC (inC (tlC (nthC 3 (thC (tlC (hdC (bodyC Try.f32)))))))))))) #[true, true, true, true, true, true, false, false, false, false, false, false, false, false, false, false, false, false] 6 = true := by kernel_rfl
theorem w32a_r6 : (Region.ready .any (regOps (inC (hdC (tlC (inC (inC (tlC (nthC 3 (thC (tlC (hdC (bodyC Try.f32)))))))))))) #[true, true, true, true, true, true, false, false, false, false, false, false, false, false, false, false, false, false]).contains 6 = true := by kernel_rfl
theorem w32a_f7 : Region.free .any (regOps (inC (hdC (tlC (inC (inC (tlC (nthC 3 (thC (tlC (hdC (bodyC Try.f32)))))))))))) #[true, true, true, true, true, true, true, false, false, false, false, false, false, false, false, false, false, false] 7 = true := by kernel_rfl
theorem w32a_r7 : (Region.ready .any (regOps (inC (hdC (tlC (inC (inC (tlC (nthC 3 (thC (tlC (hdC (bodyC Try.f32)))))))))))) #[true, true, true, true, true, true, true, false, false, false, false, false, false, false, false, false, false, false]).contains 7 = true := by kernel_rfl
theorem w32a_f8 : Region.free .any (regOps (inC (hdC (tlC (inC (inC (tlC (nthC 3 (thC (tlC (hdC (bodyC Try.f32)))))))))))) #[true, true, true, true, true, true, true, true, false, false, false, false, false, false, false, false, false, false] 8 = true := by kernel_rfl
theorem w32a_r8 : (Region.ready .any (regOps (inC (hdC (tlC (inC (inC (tlC (nthC 3 (thC (tlC (hdC (bodyC Try.f32)))))))))))) #[true, true, true, true, true, true, true, true, false, false, false, false, false, false, false, false, false, false]).contains 8 = true := by kernel_rfl
theorem w32a_f10 : Region.free .any (regOps (inC (hdC (tlC (inC (inC (tlC (nthC 3 (thC (tlC (hdC (bodyC Try.f32)))))))))))) #[true, true, true, true, true, true, true, true, true, false, false, false, false, false, false, false, false, false] 10 = true := by kernel_rfl
theorem w32a_r10 : (Region.ready .any (regOps (inC (hdC (tlC (inC (inC (tlC (nthC 3 (thC (tlC (hdC (bodyC Try.f32)))))))))))) #[true, true, true, true, true, true, true, true, true, false, false, false, false, false, false, false, false, false]).contains 10 = true := by kernel_rfl
theorem w32a_f11 : Region.free .any (regOps (inC (hdC (tlC (inC (inC (tlC (nthC 3 (thC (tlC (hdC (bodyC Try.f32)))))))))))) #[true, true, true, true, true, true, true, true, true, false, true, false, false, false, false, false, false, false] 11 = true := by kernel_rfl
theorem w32a_r11 : (Region.ready .any (regOps (inC (hdC (tlC (inC (inC (tlC (nthC 3 (thC (tlC (hdC (bodyC Try.f32)))))))))))) #[true, true, true, true, true, true, true, true, true, false, true, false, false, false, false, false, false, false]).contains 11 = true := by kernel_rfl
theorem w32a_f12 : Region.free .any (regOps (inC (hdC (tlC (inC (inC (tlC (nthC 3 (thC (tlC (hdC (bodyC Try.f32)))))))))))) #[true, true, true, true, true, true, true, true, true, false, true, true, false, false, false, false, false, false] 12 = true := by kernel_rfl
theorem w32a_r12 : (Region.ready .any (regOps (inC (hdC (tlC (inC (inC (tlC (nthC 3 (thC (tlC (hdC (bodyC Try.f32)))))))))))) #[true, true, true, true, true, true, true, true, true, false, true, true, false, false, false, false, false, false]).contains 12 = true := by kernel_rfl
theorem w32a_rl : Region.ready .any (regOps (inC (hdC (tlC (inC (inC (tlC (nthC 3 (thC (tlC (hdC (bodyC Try.f32)))))))))))) #[true, true, true, true, true, true, true, true, true, false, true, true, true, false, false, false, false, false] = [9, 13] := by kernel_rfl
theorem w32a_ra : Region.ready .any (regOps (inC (hdC (tlC (inC (inC (tlC (nthC 3 (thC (tlC (hdC (bodyC Try.f32)))))))))))) #[true, true, true, true, true, true, true, true, true, true, true, true, true, false, false, false, false, false] = [13] := by kernel_rfl
theorem w32a_rb : Region.ready .any (regOps (inC (hdC (tlC (inC (inC (tlC (nthC 3 (thC (tlC (hdC (bodyC Try.f32)))))))))))) #[true, true, true, true, true, true, true, true, true, false, true, true, true, true, false, false, false, false] = [9] := by kernel_rfl
theorem w32a_f14 : Region.free .any (regOps (inC (hdC (tlC (inC (inC (tlC (nthC 3 (thC (tlC (hdC (bodyC Try.f32)))))))))))) #[true, true, true, true, true, true, true, true, true, true, true, true, true, true, false, false, false, false] 14 = true := by kernel_rfl
theorem w32a_r14 : (Region.ready .any (regOps (inC (hdC (tlC (inC (inC (tlC (nthC 3 (thC (tlC (hdC (bodyC Try.f32)))))))))))) #[true, true, true, true, true, true, true, true, true, true, true, true, true, true, false, false, false, false]).contains 14 = true := by kernel_rfl
theorem w32a_r15 : Region.ready .any (regOps (inC (hdC (tlC (inC (inC (tlC (nthC 3 (thC (tlC (hdC (bodyC Try.f32)))))))))))) #[true, true, true, true, true, true, true, true, true, true, true, true, true, true, true, false, false, false] = [15] := by kernel_rfl
theorem w32a_f16 : Region.free .any (regOps (inC (hdC (tlC (inC (inC (tlC (nthC 3 (thC (tlC (hdC (bodyC Try.f32)))))))))))) #[true, true, true, true, true, true, true, true, true, true, true, true, true, true, true, true, false, false] 16 = true := by kernel_rfl
theorem w32a_r16 : (Region.ready .any (regOps (inC (hdC (tlC (inC (inC (tlC (nthC 3 (thC (tlC (hdC (bodyC Try.f32)))))))))))) #[true, true, true, true, true, true, true, true, true, true, true, true, true, true, true, true, false, false]).contains 16 = true := by kernel_rfl
theorem w32a_r17 : Region.ready .any (regOps (inC (hdC (tlC (inC (inC (tlC (nthC 3 (thC (tlC (hdC (bodyC Try.f32)))))))))))) #[true, true, true, true, true, true, true, true, true, true, true, true, true, true, true, true, true, false] = [17] := by kernel_rfl
theorem w32a_re : Region.ready .any (regOps (inC (hdC (tlC (inC (inC (tlC (nthC 3 (thC (tlC (hdC (bodyC Try.f32)))))))))))) #[true, true, true, true, true, true, true, true, true, true, true, true, true, true, true, true, true, true] = [] := by kernel_rfl

set_option maxRecDepth 10000 in
set_option maxHeartbeats 1000000 in
theorem w32a (b n c lo m hi i k k1 : Nat) (ek1 ek : Hd) (a : Act) (w : World) (Q : Exit → Act → World → Prop) (hfr : Fr 220 a) (hs : Slots [(0, .slice (some ⟨b, 0, none⟩) n c), (1, .int .i64 (lo : Nat)), (2, .int .i64 (m : Nat)), (3, .int .i64 (hi : Nat)), (4, .func (.func 27) #[] #[]), (10, .int .i64 (i : Nat)), (13, .int .i64 (k : Nat))] a)
    (hk10 : IntKind.i64.wrap ((k : Int) + 1) = (k1 : Int))
    (lk1 : (k1 : Int) < n) (ck1 : w.cell? ⟨b, k1 * 2, none⟩ = some (.string ek1.nm)) (kk1 : w.cell? ⟨b, k1 * 2 + 1, none⟩ = some (.slice (some ⟨ek1.vb, 0, none⟩) 2 2)) (lk : (k : Int) < n) (ck : w.cell? ⟨b, k * 2, none⟩ = some (.string ek.nm)) (kk : w.cell? ⟨b, k * 2 + 1, none⟩ = some (.slice (some ⟨ek.vb, 0, none⟩) 2 2)) (hne : k ≠ k1) (fz : ∀ i, w.frozen? ⟨b, i, none⟩ = false)
    (hQ : ∀ a', Fr 220 a' → Slots [(0, .slice (some ⟨b, 0, none⟩) n c), (1, .int .i64 (lo : Nat)), (2, .int .i64 (m : Nat)), (3, .int .i64 (hi : Nat)), (4, .func (.func 27) #[] #[]), (10, .int .i64 (i : Nat)), (13, .int .i64 (k : Nat))] a' → Q .normal a' (put2 (put2 w.drew b k ek1) b k1 ek)) :
    Code.wp Try.prog (inC (hdC (tlC (inC (inC (tlC (nthC 3 (thC (tlC (hdC (bodyC Try.f32))))))))))) Q a w := by
  obtain ⟨t0, t1, t2, t3, t4, t10, t13, -⟩ := hs
  replace t0 : a.tmps[0]?.getD undef = .slice (some ⟨b, 0, none⟩) n c := (sl_at a 0).symm.trans t0
  replace t1 : a.tmps[1]?.getD undef = .int .i64 (lo : Nat) := (sl_at a 1).symm.trans t1
  replace t2 : a.tmps[2]?.getD undef = .int .i64 (m : Nat) := (sl_at a 2).symm.trans t2
  replace t3 : a.tmps[3]?.getD undef = .int .i64 (hi : Nat) := (sl_at a 3).symm.trans t3
  replace t4 : a.tmps[4]?.getD undef = .func (.func 27) #[] #[] := (sl_at a 4).symm.trans t4
  replace t10 : a.tmps[10]?.getD undef = .int .i64 (i : Nat) := (sl_at a 10).symm.trans t10
  replace t13 : a.tmps[13]?.getD undef = .int .i64 (k : Nat) := (sl_at a 13).symm.trans t13
  have o1 : k * 2 ≠ k1 * 2 := by omega
  have o2 : k * 2 + 1 ≠ k1 * 2 := by omega
  have o3 : k * 2 ≠ k1 * 2 + 1 := by omega
  have o4 : k * 2 + 1 ≠ k1 * 2 + 1 := by omega
  have zk10 := fz (k1 * 2)
  have zk11 := fz (k1 * 2 + 1)
  have zk0 := fz (k * 2)
  have zk1 := fz (k * 2 + 1)
  clear fz
  refine wp_navR (fun _ => True) (fun a' w' => w' = put2 (put2 w.drew b k ek1) b k1 ek ∧ Fr 220 a' ∧ Slots [(0, .slice (some ⟨b, 0, none⟩) n c), (1, .int .i64 (lo : Nat)), (2, .int .i64 (m : Nat)), (3, .int .i64 (hi : Nat)), (4, .func (.func 27) #[] #[]), (10, .int .i64 (i : Nat)), (13, .int .i64 (k : Nat))] a') 18 #[false, false, false, false, false, false, false, false, false, false, false, false, false, false, false, false, false, false] (by kernel_rfl) (by kernel_rfl) (by kernel_rfl) rfl ?_ (fun a' w' ⟨h1, h2, h3⟩ => by rw [h1]; exact hQ a' h2 h3)
  clear hQ
  refine take1 0 61 _ (.slice (some ⟨b, 0, none⟩) n c) #[true, false, false, false, false, false, false, false, false, false, false, false, false, false, false, false, false, false] w32a_i0 w32a_d0 (by decide) w32a_s w32a_f0 w32a_r0 w32a_g0 rfl trivial hfr ?_ ?_
  · intro wx _; simp only [execOp, w32a_o0]; go_simp
  intro a1 fr1 t61 ho
  replace t0 := (ho 0 (by decide)).trans t0
  replace t1 := (ho 1 (by decide)).trans t1
  replace t2 := (ho 2 (by decide)).trans t2
  replace t3 := (ho 3 (by decide)).trans t3
  replace t4 := (ho 4 (by decide)).trans t4
  replace t10 := (ho 10 (by decide)).trans t10
  replace t13 := (ho 13 (by decide)).trans t13
  clear hfr ho
  refine take1 1 62 _ (.int .i64 (k : Nat)) #[true, true, false, false, false, false, false, false, false, false, false, false, false, false, false, false, false, false] w32a_i1 w32a_d1 (by decide) w32a_s w32a_f1 w32a_r1 w32a_g1 rfl trivial fr1 ?_ ?_
  · intro wx _; simp only [execOp, w32a_o1]; go_simp
  intro a2 fr2 t62 ho
  replace t0 := (ho 0 (by decide)).trans t0
  replace t1 := (ho 1 (by decide)).trans t1
  replace t2 := (ho 2 (by decide)).trans t2
  replace t3 := (ho 3 (by decide)).trans t3
  replace t4 := (ho 4 (by decide)).trans t4
  replace t10 := (ho 10 (by decide)).trans t10
  replace t13 := (ho 13 (by decide)).trans t13
  replace t61 := (ho 61 (by decide)).trans t61
  clear fr1 ho
  refine take1 2 63 _ (.slice (some ⟨b, 0, none⟩) n c) #[true, true, true, false, false, false, false, false, false, false, false, false, false, false, false, false, false, false] w32a_i2 w32a_d2 (by decide) w32a_s w32a_f2 w32a_r2 w32a_g2 rfl trivial fr2 ?_ ?_
  · intro wx _; simp only [execOp, w32a_o2]; go_simp
  intro a3 fr3 t63 ho
  replace t0 := (ho 0 (by decide)).trans t0
  replace t1 := (ho 1 (by decide)).trans t1
  replace t2 := (ho 2 (by decide)).trans t2
  replace t3 := (ho 3 (by decide)).trans t3
  replace t4 := (ho 4 (by decide)).trans t4
  replace t10 := (ho 10 (by decide)).trans t10
  replace t13 := (ho 13 (by decide)).trans t13
  replace t61 := (ho 61 (by decide)).trans t61
  replace t62 := (ho 62 (by decide)).trans t62
  clear fr2 ho
  refine take1 3 64 _ (.int .i64 (k : Nat)) #[true, true, true, true, false, false, false, false, false, false, false, false, false, false, false, false, false, false] w32a_i3 w32a_d3 (by decide) w32a_s w32a_f3 w32a_r3 w32a_g3 rfl trivial fr3 ?_ ?_
  · intro wx _; simp only [execOp, w32a_o3]; go_simp
  intro a4 fr4 t64 ho
  replace t0 := (ho 0 (by decide)).trans t0
  replace t1 := (ho 1 (by decide)).trans t1
  replace t2 := (ho 2 (by decide)).trans t2
  replace t3 := (ho 3 (by decide)).trans t3
  replace t4 := (ho 4 (by decide)).trans t4
  replace t10 := (ho 10 (by decide)).trans t10
  replace t13 := (ho 13 (by decide)).trans t13
  replace t61 := (ho 61 (by decide)).trans t61
  replace t62 := (ho 62 (by decide)).trans t62
  replace t63 := (ho 63 (by decide)).trans t63
  clear fr3 ho
  refine take1 4 65 _ (.int .i64 (k1 : Nat)) #[true, true, true, true, true, false, false, false, false, false, false, false, false, false, false, false, false, false] w32a_i4 w32a_d4 (by decide) w32a_s w32a_f4 w32a_r4 w32a_g4 rfl trivial fr4 ?_ ?_
  · intro wx _; simp only [execOp, w32a_o4]; go_simp
  intro a5 fr5 t65 ho
  replace t0 := (ho 0 (by decide)).trans t0
  replace t1 := (ho 1 (by decide)).trans t1
  replace t2 := (ho 2 (by decide)).trans t2
  replace t3 := (ho 3 (by decide)).trans t3
  replace t4 := (ho 4 (by decide)).trans t4
  replace t10 := (ho 10 (by decide)).trans t10
  replace t13 := (ho 13 (by decide)).trans t13
  replace t61 := (ho 61 (by decide)).trans t61
  replace t62 := (ho 62 (by decide)).trans t62
  replace t63 := (ho 63 (by decide)).trans t63
  replace t64 := (ho 64 (by decide)).trans t64
  clear fr4 ho
  refine take1 5 66 _ (.slice (some ⟨b, 0, none⟩) n c) #[true, true, true, true, true, true, false, false, false, false, false, false, false, false, false, false, false, false] w32a_i5 w32a_d5 (by decide) w32a_s w32a_f5 w32a_r5 w32a_g5 rfl trivial fr5 ?_ ?_
  · intro wx _; simp only [execOp, w32a_o5]; go_simp
  intro a6 fr6 t66 ho
  replace t0 := (ho 0 (by decide)).trans t0
  replace t1 := (ho 1 (by decide)).trans t1
  replace t2 := (ho 2 (by decide)).trans t2
  replace t3 := (ho 3 (by decide)).trans t3
  replace t4 := (ho 4 (by decide)).trans t4
  replace t10 := (ho 10 (by decide)).trans t10
  replace t13 := (ho 13 (by decide)).trans t13
  replace t61 := (ho 61 (by decide)).trans t61
  replace t62 := (ho 62 (by decide)).trans t62
  replace t63 := (ho 63 (by decide)).trans t63
  replace t64 := (ho 64 (by decide)).trans t64
  replace t65 := (ho 65 (by decide)).trans t65
  clear fr5 ho
  refine take1 6 67 _ (.int .i64 (k : Nat)) #[true, true, true, true, true, true, true, false, false, false, false, false, false, false, false, false, false, false] w32a_i6 w32a_d6 (by decide) w32a_s w32a_f6 w32a_r6 w32a_g6 rfl trivial fr6 ?_ ?_
  · intro wx _; simp only [execOp, w32a_o6]; go_simp
  intro a7 fr7 t67 ho
  replace t0 := (ho 0 (by decide)).trans t0
  replace t1 := (ho 1 (by decide)).trans t1
  replace t2 := (ho 2 (by decide)).trans t2
  replace t3 := (ho 3 (by decide)).trans t3
  replace t4 := (ho 4 (by decide)).trans t4
  replace t10 := (ho 10 (by decide)).trans t10
  replace t13 := (ho 13 (by decide)).trans t13
  replace t61 := (ho 61 (by decide)).trans t61
  replace t62 := (ho 62 (by decide)).trans t62
  replace t63 := (ho 63 (by decide)).trans t63
  replace t64 := (ho 64 (by decide)).trans t64
  replace t65 := (ho 65 (by decide)).trans t65
  replace t66 := (ho 66 (by decide)).trans t66
  clear fr6 ho
  refine take1 7 68 _ (.int .i64 (k1 : Nat)) #[true, true, true, true, true, true, true, true, false, false, false, false, false, false, false, false, false, false] w32a_i7 w32a_d7 (by decide) w32a_s w32a_f7 w32a_r7 w32a_g7 rfl trivial fr7 ?_ ?_
  · intro wx _; simp only [execOp, w32a_o7]; go_simp
  intro a8 fr8 t68 ho
  replace t0 := (ho 0 (by decide)).trans t0
  replace t1 := (ho 1 (by decide)).trans t1
  replace t2 := (ho 2 (by decide)).trans t2
  replace t3 := (ho 3 (by decide)).trans t3
  replace t4 := (ho 4 (by decide)).trans t4
  replace t10 := (ho 10 (by decide)).trans t10
  replace t13 := (ho 13 (by decide)).trans t13
  replace t61 := (ho 61 (by decide)).trans t61
  replace t62 := (ho 62 (by decide)).trans t62
  replace t63 := (ho 63 (by decide)).trans t63
  replace t64 := (ho 64 (by decide)).trans t64
  replace t65 := (ho 65 (by decide)).trans t65
  replace t66 := (ho 66 (by decide)).trans t66
  replace t67 := (ho 67 (by decide)).trans t67
  clear fr7 ho
  refine take1 8 69 _ (.pointer (some ⟨b, k1 * 2, none⟩)) #[true, true, true, true, true, true, true, true, true, false, false, false, false, false, false, false, false, false] w32a_i8 w32a_d8 (by decide) w32a_s w32a_f8 w32a_r8 w32a_g8 rfl trivial fr8 ?_ ?_
  · intro wx _; simp only [execOp, w32a_o8]; go_simp
  intro a9 fr9 t69 ho
  replace t0 := (ho 0 (by decide)).trans t0
  replace t1 := (ho 1 (by decide)).trans t1
  replace t2 := (ho 2 (by decide)).trans t2
  replace t3 := (ho 3 (by decide)).trans t3
  replace t4 := (ho 4 (by decide)).trans t4
  replace t10 := (ho 10 (by decide)).trans t10
  replace t13 := (ho 13 (by decide)).trans t13
  replace t61 := (ho 61 (by decide)).trans t61
  replace t62 := (ho 62 (by decide)).trans t62
  replace t63 := (ho 63 (by decide)).trans t63
  replace t64 := (ho 64 (by decide)).trans t64
  replace t65 := (ho 65 (by decide)).trans t65
  replace t66 := (ho 66 (by decide)).trans t66
  replace t67 := (ho 67 (by decide)).trans t67
  replace t68 := (ho 68 (by decide)).trans t68
  clear fr8 ho
  refine take1 10 71 _ (.slice (some ⟨b, 0, none⟩) n c) #[true, true, true, true, true, true, true, true, true, false, true, false, false, false, false, false, false, false] w32a_i10 w32a_d10 (by decide) w32a_s w32a_f10 w32a_r10 w32a_g10 rfl trivial fr9 ?_ ?_
  · intro wx _; simp only [execOp, w32a_o10]; go_simp
  intro a10 fr10 t71 ho
  replace t0 := (ho 0 (by decide)).trans t0
  replace t1 := (ho 1 (by decide)).trans t1
  replace t2 := (ho 2 (by decide)).trans t2
  replace t3 := (ho 3 (by decide)).trans t3
  replace t4 := (ho 4 (by decide)).trans t4
  replace t10 := (ho 10 (by decide)).trans t10
  replace t13 := (ho 13 (by decide)).trans t13
  replace t61 := (ho 61 (by decide)).trans t61
  replace t62 := (ho 62 (by decide)).trans t62
  replace t63 := (ho 63 (by decide)).trans t63
  replace t64 := (ho 64 (by decide)).trans t64
  replace t65 := (ho 65 (by decide)).trans t65
  replace t66 := (ho 66 (by decide)).trans t66
  replace t67 := (ho 67 (by decide)).trans t67
  replace t68 := (ho 68 (by decide)).trans t68
  replace t69 := (ho 69 (by decide)).trans t69
  clear fr9 ho
  refine take1 11 72 _ (.int .i64 (k : Nat)) #[true, true, true, true, true, true, true, true, true, false, true, true, false, false, false, false, false, false] w32a_i11 w32a_d11 (by decide) w32a_s w32a_f11 w32a_r11 w32a_g11 rfl trivial fr10 ?_ ?_
  · intro wx _; simp only [execOp, w32a_o11]; go_simp
  intro a11 fr11 t72 ho
  replace t0 := (ho 0 (by decide)).trans t0
  replace t1 := (ho 1 (by decide)).trans t1
  replace t2 := (ho 2 (by decide)).trans t2
  replace t3 := (ho 3 (by decide)).trans t3
  replace t4 := (ho 4 (by decide)).trans t4
  replace t10 := (ho 10 (by decide)).trans t10
  replace t13 := (ho 13 (by decide)).trans t13
  replace t61 := (ho 61 (by decide)).trans t61
  replace t62 := (ho 62 (by decide)).trans t62
  replace t63 := (ho 63 (by decide)).trans t63
  replace t64 := (ho 64 (by decide)).trans t64
  replace t65 := (ho 65 (by decide)).trans t65
  replace t66 := (ho 66 (by decide)).trans t66
  replace t67 := (ho 67 (by decide)).trans t67
  replace t68 := (ho 68 (by decide)).trans t68
  replace t69 := (ho 69 (by decide)).trans t69
  replace t71 := (ho 71 (by decide)).trans t71
  clear fr10 ho
  refine take1 12 73 _ (.pointer (some ⟨b, k * 2, none⟩)) #[true, true, true, true, true, true, true, true, true, false, true, true, true, false, false, false, false, false] w32a_i12 w32a_d12 (by decide) w32a_s w32a_f12 w32a_r12 w32a_g12 rfl trivial fr11 ?_ ?_
  · intro wx _; simp only [execOp, w32a_o12]; go_simp
  intro a12 fr12 t73 ho
  replace t0 := (ho 0 (by decide)).trans t0
  replace t1 := (ho 1 (by decide)).trans t1
  replace t2 := (ho 2 (by decide)).trans t2
  replace t3 := (ho 3 (by decide)).trans t3
  replace t4 := (ho 4 (by decide)).trans t4
  replace t10 := (ho 10 (by decide)).trans t10
  replace t13 := (ho 13 (by decide)).trans t13
  replace t61 := (ho 61 (by decide)).trans t61
  replace t62 := (ho 62 (by decide)).trans t62
  replace t63 := (ho 63 (by decide)).trans t63
  replace t64 := (ho 64 (by decide)).trans t64
  replace t65 := (ho 65 (by decide)).trans t65
  replace t66 := (ho 66 (by decide)).trans t66
  replace t67 := (ho 67 (by decide)).trans t67
  replace t68 := (ho 68 (by decide)).trans t68
  replace t69 := (ho 69 (by decide)).trans t69
  replace t71 := (ho 71 (by decide)).trans t71
  replace t72 := (ho 72 (by decide)).trans t72
  clear fr11 ho
  refine both2 9 13 w32a_rl ?_ ?_
  · refine act1 9 70 _ (.agg #[.string ek1.nm, .slice (some ⟨ek1.vb, 0, none⟩) 2 2]) w.drew #[true, true, true, true, true, true, true, true, true, true, true, true, true, false, false, false, false, false] w32a_i9 w32a_d9 (by decide) w32a_g9 rfl fr12 ?_ trivial ?_
    · simp only [execOp, w32a_o9]; go_simp
    intro a13 fr13 t70 ho
    replace t0 := (ho 0 (by decide)).trans t0
    replace t1 := (ho 1 (by decide)).trans t1
    replace t2 := (ho 2 (by decide)).trans t2
    replace t3 := (ho 3 (by decide)).trans t3
    replace t4 := (ho 4 (by decide)).trans t4
    replace t10 := (ho 10 (by decide)).trans t10
    replace t13 := (ho 13 (by decide)).trans t13
    replace t61 := (ho 61 (by decide)).trans t61
    replace t62 := (ho 62 (by decide)).trans t62
    replace t63 := (ho 63 (by decide)).trans t63
    replace t64 := (ho 64 (by decide)).trans t64
    replace t65 := (ho 65 (by decide)).trans t65
    replace t66 := (ho 66 (by decide)).trans t66
    replace t67 := (ho 67 (by decide)).trans t67
    replace t68 := (ho 68 (by decide)).trans t68
    replace t69 := (ho 69 (by decide)).trans t69
    replace t71 := (ho 71 (by decide)).trans t71
    replace t72 := (ho 72 (by decide)).trans t72
    replace t73 := (ho 73 (by decide)).trans t73
    clear ho
    refine only1 13 w32a_ra (act1 13 74 _ (.agg #[.string ek.nm, .slice (some ⟨ek.vb, 0, none⟩) 2 2]) w.drew #[true, true, true, true, true, true, true, true, true, true, true, true, true, true, false, false, false, false] w32a_i13 w32a_d13 (by decide) w32a_g13 rfl fr13 ?_ trivial ?_)
    · simp only [execOp, w32a_o13]; go_simp
    intro a14 fr14 t74 ho
    replace t0 := (ho 0 (by decide)).trans t0
    replace t1 := (ho 1 (by decide)).trans t1
    replace t2 := (ho 2 (by decide)).trans t2
    replace t3 := (ho 3 (by decide)).trans t3
    replace t4 := (ho 4 (by decide)).trans t4
    replace t10 := (ho 10 (by decide)).trans t10
    replace t13 := (ho 13 (by decide)).trans t13
    replace t61 := (ho 61 (by decide)).trans t61
    replace t62 := (ho 62 (by decide)).trans t62
    replace t63 := (ho 63 (by decide)).trans t63
    replace t64 := (ho 64 (by decide)).trans t64
    replace t65 := (ho 65 (by decide)).trans t65
    replace t66 := (ho 66 (by decide)).trans t66
    replace t67 := (ho 67 (by decide)).trans t67
    replace t68 := (ho 68 (by decide)).trans t68
    replace t69 := (ho 69 (by decide)).trans t69
    replace t71 := (ho 71 (by decide)).trans t71
    replace t72 := (ho 72 (by decide)).trans t72
    replace t73 := (ho 73 (by decide)).trans t73
    replace t70 := (ho 70 (by decide)).trans t70
    clear ho
    refine take1 14 75 _ (.pointer (some ⟨b, k * 2, none⟩)) #[true, true, true, true, true, true, true, true, true, true, true, true, true, true, true, false, false, false] w32a_i14 w32a_d14 (by decide) w32a_s w32a_f14 w32a_r14 w32a_g14 rfl trivial fr14 ?_ ?_
    · intro wx _; simp only [execOp, w32a_o14]; go_simp
    intro a15 fr15 t75 ho
    replace t0 := (ho 0 (by decide)).trans t0
    replace t1 := (ho 1 (by decide)).trans t1
    replace t2 := (ho 2 (by decide)).trans t2
    replace t3 := (ho 3 (by decide)).trans t3
    replace t4 := (ho 4 (by decide)).trans t4
    replace t10 := (ho 10 (by decide)).trans t10
    replace t13 := (ho 13 (by decide)).trans t13
    replace t61 := (ho 61 (by decide)).trans t61
    replace t62 := (ho 62 (by decide)).trans t62
    replace t63 := (ho 63 (by decide)).trans t63
    replace t64 := (ho 64 (by decide)).trans t64
    replace t65 := (ho 65 (by decide)).trans t65
    replace t66 := (ho 66 (by decide)).trans t66
    replace t67 := (ho 67 (by decide)).trans t67
    replace t68 := (ho 68 (by decide)).trans t68
    replace t69 := (ho 69 (by decide)).trans t69
    replace t71 := (ho 71 (by decide)).trans t71
    replace t72 := (ho 72 (by decide)).trans t72
    replace t73 := (ho 73 (by decide)).trans t73
    replace t70 := (ho 70 (by decide)).trans t70
    replace t74 := (ho 74 (by decide)).trans t74
    clear ho
    refine only1 15 w32a_r15 (act0 15 _ (put2 w.drew b k ek1) #[true, true, true, true, true, true, true, true, true, true, true, true, true, true, true, true, false, false] w32a_i15 w32a_d15 w32a_g15 rfl ?_ trivial ?_)
    · simp only [execOp, w32a_o15]; unfold put2 Hd.val; go_simp
    refine take1 16 76 _ (.pointer (some ⟨b, k1 * 2, none⟩)) #[true, true, true, true, true, true, true, true, true, true, true, true, true, true, true, true, true, false] w32a_i16 w32a_d16 (by decide) w32a_s w32a_f16 w32a_r16 w32a_g16 rfl trivial fr15 ?_ ?_
    · intro wx _; simp only [execOp, w32a_o16]; go_simp
    intro a16 fr16 t76 ho
    replace t0 := (ho 0 (by decide)).trans t0
    replace t1 := (ho 1 (by decide)).trans t1
    replace t2 := (ho 2 (by decide)).trans t2
    replace t3 := (ho 3 (by decide)).trans t3
    replace t4 := (ho 4 (by decide)).trans t4
    replace t10 := (ho 10 (by decide)).trans t10
    replace t13 := (ho 13 (by decide)).trans t13
    replace t61 := (ho 61 (by decide)).trans t61
    replace t62 := (ho 62 (by decide)).trans t62
    replace t63 := (ho 63 (by decide)).trans t63
    replace t64 := (ho 64 (by decide)).trans t64
    replace t65 := (ho 65 (by decide)).trans t65
    replace t66 := (ho 66 (by decide)).trans t66
    replace t67 := (ho 67 (by decide)).trans t67
    replace t68 := (ho 68 (by decide)).trans t68
    replace t69 := (ho 69 (by decide)).trans t69
    replace t71 := (ho 71 (by decide)).trans t71
    replace t72 := (ho 72 (by decide)).trans t72
    replace t73 := (ho 73 (by decide)).trans t73
    replace t70 := (ho 70 (by decide)).trans t70
    replace t74 := (ho 74 (by decide)).trans t74
    replace t75 := (ho 75 (by decide)).trans t75
    clear ho
    refine only1 17 w32a_r17 (act0 17 _ (put2 (put2 w.drew b k ek1) b k1 ek) #[true, true, true, true, true, true, true, true, true, true, true, true, true, true, true, true, true, true] w32a_i17 w32a_d17 w32a_g17 rfl ?_ trivial ?_)
    · simp only [execOp, w32a_o17]; unfold put2 Hd.val; go_simp
    refine wpAnyH_done w32a_re ?_ _
    exact ⟨rfl, fr16, (sl_at _ _).trans t0, (sl_at _ _).trans t1, (sl_at _ _).trans t2, (sl_at _ _).trans t3, (sl_at _ _).trans t4, (sl_at _ _).trans t10, (sl_at _ _).trans t13, trivial⟩
  · refine act1 13 74 _ (.agg #[.string ek.nm, .slice (some ⟨ek.vb, 0, none⟩) 2 2]) w.drew #[true, true, true, true, true, true, true, true, true, false, true, true, true, true, false, false, false, false] w32a_i13 w32a_d13 (by decide) w32a_g13 rfl fr12 ?_ trivial ?_
    · simp only [execOp, w32a_o13]; go_simp
    intro a13 fr13 t74 ho
    replace t0 := (ho 0 (by decide)).trans t0
    replace t1 := (ho 1 (by decide)).trans t1
    replace t2 := (ho 2 (by decide)).trans t2
    replace t3 := (ho 3 (by decide)).trans t3
    replace t4 := (ho 4 (by decide)).trans t4
    replace t10 := (ho 10 (by decide)).trans t10
    replace t13 := (ho 13 (by decide)).trans t13
    replace t61 := (ho 61 (by decide)).trans t61
    replace t62 := (ho 62 (by decide)).trans t62
    replace t63 := (ho 63 (by decide)).trans t63
    replace t64 := (ho 64 (by decide)).trans t64
    replace t65 := (ho 65 (by decide)).trans t65
    replace t66 := (ho 66 (by decide)).trans t66
    replace t67 := (ho 67 (by decide)).trans t67
    replace t68 := (ho 68 (by decide)).trans t68
    replace t69 := (ho 69 (by decide)).trans t69
    replace t71 := (ho 71 (by decide)).trans t71
    replace t72 := (ho 72 (by decide)).trans t72
    replace t73 := (ho 73 (by decide)).trans t73
    clear ho
    refine only1 9 w32a_rb (act1 9 70 _ (.agg #[.string ek1.nm, .slice (some ⟨ek1.vb, 0, none⟩) 2 2]) w.drew #[true, true, true, true, true, true, true, true, true, true, true, true, true, true, false, false, false, false] w32a_i9 w32a_d9 (by decide) w32a_g9 rfl fr13 ?_ trivial ?_)
    · simp only [execOp, w32a_o9]; go_simp
    intro a14 fr14 t70 ho
    replace t0 := (ho 0 (by decide)).trans t0
    replace t1 := (ho 1 (by decide)).trans t1
    replace t2 := (ho 2 (by decide)).trans t2
    replace t3 := (ho 3 (by decide)).trans t3
    replace t4 := (ho 4 (by decide)).trans t4
    replace t10 := (ho 10 (by decide)).trans t10
    replace t13 := (ho 13 (by decide)).trans t13
    replace t61 := (ho 61 (by decide)).trans t61
    replace t62 := (ho 62 (by decide)).trans t62
    replace t63 := (ho 63 (by decide)).trans t63
    replace t64 := (ho 64 (by decide)).trans t64
    replace t65 := (ho 65 (by decide)).trans t65
    replace t66 := (ho 66 (by decide)).trans t66
    replace t67 := (ho 67 (by decide)).trans t67
    replace t68 := (ho 68 (by decide)).trans t68
    replace t69 := (ho 69 (by decide)).trans t69
    replace t71 := (ho 71 (by decide)).trans t71
    replace t72 := (ho 72 (by decide)).trans t72
    replace t73 := (ho 73 (by decide)).trans t73
    replace t74 := (ho 74 (by decide)).trans t74
    clear ho
    refine take1 14 75 _ (.pointer (some ⟨b, k * 2, none⟩)) #[true, true, true, true, true, true, true, true, true, true, true, true, true, true, true, false, false, false] w32a_i14 w32a_d14 (by decide) w32a_s w32a_f14 w32a_r14 w32a_g14 rfl trivial fr14 ?_ ?_
    · intro wx _; simp only [execOp, w32a_o14]; go_simp
    intro a15 fr15 t75 ho
    replace t0 := (ho 0 (by decide)).trans t0
    replace t1 := (ho 1 (by decide)).trans t1
    replace t2 := (ho 2 (by decide)).trans t2
    replace t3 := (ho 3 (by decide)).trans t3
    replace t4 := (ho 4 (by decide)).trans t4
    replace t10 := (ho 10 (by decide)).trans t10
    replace t13 := (ho 13 (by decide)).trans t13
    replace t61 := (ho 61 (by decide)).trans t61
    replace t62 := (ho 62 (by decide)).trans t62
    replace t63 := (ho 63 (by decide)).trans t63
    replace t64 := (ho 64 (by decide)).trans t64
    replace t65 := (ho 65 (by decide)).trans t65
    replace t66 := (ho 66 (by decide)).trans t66
    replace t67 := (ho 67 (by decide)).trans t67
    replace t68 := (ho 68 (by decide)).trans t68
    replace t69 := (ho 69 (by decide)).trans t69
    replace t71 := (ho 71 (by decide)).trans t71
    replace t72 := (ho 72 (by decide)).trans t72
    replace t73 := (ho 73 (by decide)).trans t73
    replace t70 := (ho 70 (by decide)).trans t70
    replace t74 := (ho 74 (by decide)).trans t74
    clear ho
    refine only1 15 w32a_r15 (act0 15 _ (put2 w.drew b k ek1) #[true, true, true, true, true, true, true, true, true, true, true, true, true, true, true, true, false, false] w32a_i15 w32a_d15 w32a_g15 rfl ?_ trivial ?_)
    · simp only [execOp, w32a_o15]; unfold put2 Hd.val; go_simp
    refine take1 16 76 _ (.pointer (some ⟨b, k1 * 2, none⟩)) #[true, true, true, true, true, true, true, true, true, true, true, true, true, true, true, true, true, false] w32a_i16 w32a_d16 (by decide) w32a_s w32a_f16 w32a_r16 w32a_g16 rfl trivial fr15 ?_ ?_
    · intro wx _; simp only [execOp, w32a_o16]; go_simp
    intro a16 fr16 t76 ho
    replace t0 := (ho 0 (by decide)).trans t0
    replace t1 := (ho 1 (by decide)).trans t1
    replace t2 := (ho 2 (by decide)).trans t2
    replace t3 := (ho 3 (by decide)).trans t3
    replace t4 := (ho 4 (by decide)).trans t4
    replace t10 := (ho 10 (by decide)).trans t10
    replace t13 := (ho 13 (by decide)).trans t13
    replace t61 := (ho 61 (by decide)).trans t61
    replace t62 := (ho 62 (by decide)).trans t62
    replace t63 := (ho 63 (by decide)).trans t63
    replace t64 := (ho 64 (by decide)).trans t64
    replace t65 := (ho 65 (by decide)).trans t65
    replace t66 := (ho 66 (by decide)).trans t66
    replace t67 := (ho 67 (by decide)).trans t67
    replace t68 := (ho 68 (by decide)).trans t68
    replace t69 := (ho 69 (by decide)).trans t69
    replace t71 := (ho 71 (by decide)).trans t71
    replace t72 := (ho 72 (by decide)).trans t72
    replace t73 := (ho 73 (by decide)).trans t73
    replace t70 := (ho 70 (by decide)).trans t70
    replace t74 := (ho 74 (by decide)).trans t74
    replace t75 := (ho 75 (by decide)).trans t75
    clear ho
    refine only1 17 w32a_r17 (act0 17 _ (put2 (put2 w.drew b k ek1) b k1 ek) #[true, true, true, true, true, true, true, true, true, true, true, true, true, true, true, true, true, true] w32a_i17 w32a_d17 w32a_g17 rfl ?_ trivial ?_)
    · simp only [execOp, w32a_o17]; unfold put2 Hd.val; go_simp
    refine wpAnyH_done w32a_re ?_ _
    exact ⟨rfl, fr16, (sl_at _ _).trans t0, (sl_at _ _).trans t1, (sl_at _ _).trans t2, (sl_at _ _).trans t3, (sl_at _ _).trans t4, (sl_at _ _).trans t10, (sl_at _ _).trans t13, trivial⟩

end Go.Proofs.Qxb6601010a
