import Derived.Test.Qxb6602526aB8
namespace Go.Proofs.Qxb6602526a
open Go.RowKit
set_option linter.unusedSimpArgs false
set_option linter.unusedVariables false

/-- THE LAW: FnSummaryAddScriptRounds returns true and turns nothing that was there. -/
theorem l3_walk (mi : Int) (x1 : Option Addr) (n1 c1 b1 o1 : Nat) (x2 : Option Addr) (n2 c2 b2 o2 : Nat) (x3 : Option Addr) (n3 c3 b3 o3 : Nat) (x4 : Option Addr) (n4 c4 b4 o4 : Nat) (x5 : Option Addr) (n5 c5 b5 o5 : Nat) (f1 f2 rd : Nat → Int) (g1 g2 : Nat → Bool) (w : World)
    (i1 : SlIn x1 b1 o1 n1 c1 w) (i2 : SlIn x2 b2 o2 n2 c2 w) (i3 : SlIn x3 b3 o3 n3 c3 w) (i4 : SlIn x4 b4 o4 n4 c4 w) (i5 : SlIn x5 b5 o5 n5 c5 w)
    (v1 : ∀ i, i < n1 → w.cell? ⟨b1, o1 + i, none⟩ = some (.int .u64 (f1 i))) (v2 : ∀ i, i < n2 → w.cell? ⟨b2, o2 + i, none⟩ = some (.bool (g1 i))) (v3 : ∀ i, i < n3 → w.cell? ⟨b3, o3 + i, none⟩ = some (.int .u64 (f2 i)))
    (v4 : ∀ i, i < n4 → w.cell? ⟨b4, o4 + i, none⟩ = some (.bool (g2 i))) (v5 : ∀ i, i < n5 → w.cell? ⟨b5, o5 + i, none⟩ = some (.int .u32 (rd i)))
    (q0 : 0 ≤ mi) (q1 : ∀ i, i < n1 → 0 ≤ f1 i) (q3 : ∀ i, i < n3 → 0 ≤ f2 i) (q5 : ∀ i, i < n5 → 0 ≤ rd i) :
    Calls Try.prog 3 #[.int .u32 mi, .slice x1 n1 c1, .slice x2 n2 c2, .slice x3 n3 c3, .slice x4 n4 c4, .slice x5 n5 c5] w fun e w' => e = .returned (.bool true) ∧ Below w.heap.size w w' := by
  refine calls_nav 285 Try.func3 rfl rfl (by simp) fun a fr ha => ?_
  have s0 : Slots [(0, .int .u32 mi), (1, .slice x1 n1 c1), (2, .slice x2 n2 c2), (3, .slice x3 n3 c3), (4, .slice x4 n4 c4), (5, .slice x5 n5 c5)] a := ⟨ha 0 (by simp), ha 1 (by simp), ha 2 (by simp), ha 3 (by simp), ha 4 (by simp), ha 5 (by simp), trivial⟩
  show Code.wp _ _ (Fin3 w) _ _
  have hret : ∀ a' w', Fr 285 a' → sl a' 12 = .bool true → Kept [] w w' → Fin3 w .ret a' w' := fun a' w' f' s' k' => fin3 f' s' k'
  have e1 := i1.len
  have e2 := i2.len
  have e3 := i3.len
  have e4 := i4.len
  have e5 := i5.len
  refine wp_nav rfl (l3_0 _ _ _ _ _ _ _ _ _ _ _ _ _ _ _ _ _ _ _ fr s0 fun a1 f1' s1 => ?_)
  refine wp_nav rfl (l3_1 _ _ _ _ _ _ _ _ _ _ _ _ _ _ _ _ _ _ _ f1' s1 e1 e2 e3 e4 e5 (fun a2 hle f2' s2 => ?_) hret)
  refine wp_nav rfl (l3_2 _ _ _ _ _ _ _ _ _ _ _ _ _ _ _ _ _ _ _ f2' s2 (by omega) (by omega) (by omega) (by omega) (by omega) (fun a3 t1 t2 t3 t4 t5 f3' s3 => ?_) hret)
  refine wp_nav rfl (l3_3 _ _ _ _ _ _ _ _ _ _ _ _ _ _ _ _ _ _ _ f3' s3 (by omega) (by omega) (by omega) (by omega) (by omega) (fun a4 f4' s4 => ?_) hret)
  refine wp_nav rfl (l3_4 _ _ _ _ _ _ _ _ _ _ _ _ _ _ _ _ _ _ _ f4' s4 (fun a5 hm f5' s5 => ?_) hret)
  refine wp_nav rfl (l3_5 _ _ _ _ _ _ _ _ _ _ _ _ _ _ _ _ _ _ _ f5' s5 fun a6 f6' s6 => ?_)
  refine wp_nav rfl (l3_6 _ _ _ _ _ _ _ _ _ _ _ _ _ _ _ _ _ _ _ f6' s6 (fun a7 h1 h2 h3 h4 f7' s7 => ?_) hret)
  subst h1 h2 h3 h4
  refine wp_nav rfl (wp_nav rfl (l3_7i _ _ _ _ _ _ _ _ _ _ _ _ _ _ _ _ _ _ _ f7' s7 fun a8 f8' s8 => ?_))
  refine wp_navB (id := 0) rfl ?_
  refine l3_loop1 _ _ _ _ _ _ _ _ _ _ _ _ _ _ _ _ b5 o5 rd a8 w _ f8' s8 (by omega) i5.ptr v5 (fun a9 hle9 f9' s9 => ?_) (fun a' w' f' s' k' => by exact hret a' w' f' s' k')
  simp only [Exit.inBlock, Exit.then, if_true]
  -- the copies
  refine wp_nav rfl (l3_8 _ _ _ _ _ _ _ _ _ _ _ _ _ _ _ _ _ _ _ _ f9' s9 (copyU64_all x1 b1 o1 _ c1 f1 w (by omega) i1.nil i1.ptr v1 i1.lt) (fun a10 y1 w1 hG f10' s10 => ?_))
  obtain ⟨k1, -, d1⟩ := hG
  refine wp_nav rfl (l3_9 _ _ _ _ _ _ _ _ _ _ _ _ _ _ _ _ _ _ _ _ f10' s10 (copyBool_all x2 b2 o2 _ c2 g1 w1 (by omega) i2.nil i2.ptr (fun i hi => (k1.cell (p := ⟨b2, o2 + i, none⟩) (i2.lt (by omega)) (by simp)).trans (v2 i hi)) (fun h => Nat.lt_of_lt_of_le (i2.lt h) k1.size)) (fun a11 y2 w2 hG f11' s11 => ?_))
  obtain ⟨kk2, -, d2⟩ := hG
  have k2 := k1.trans kk2
  refine wp_nav rfl (l3_10 _ _ _ _ _ _ _ _ _ _ _ _ _ _ _ _ _ _ _ _ f11' s11 (copyU64_all x3 b3 o3 _ c3 f2 w2 (by omega) i3.nil i3.ptr (fun i hi => (k2.cell (p := ⟨b3, o3 + i, none⟩) (i3.lt (by omega)) (by simp)).trans (v3 i hi)) (fun h => Nat.lt_of_lt_of_le (i3.lt h) k2.size)) (fun a12 y3 w3 hG f12' s12 => ?_))
  obtain ⟨kk3, -, d3⟩ := hG
  have k3 := k2.trans kk3
  refine wp_nav rfl (l3_11 _ _ _ _ _ _ _ _ _ _ _ _ _ _ _ _ _ _ _ _ f12' s12 (copyBool_all x4 b4 o4 _ c4 g2 w3 (by omega) i4.nil i4.ptr (fun i hi => (k3.cell (p := ⟨b4, o4 + i, none⟩) (i4.lt (by omega)) (by simp)).trans (v4 i hi)) (fun h => Nat.lt_of_lt_of_le (i4.lt h) k3.size)) (fun a13 y4 w4 hG f13' s13 => ?_))
  obtain ⟨kk4, -, d4⟩ := hG
  have k4 := k3.trans kk4
  refine wp_nav rfl (l3_12 _ _ _ _ _ _ _ _ _ _ _ _ _ _ _ _ _ _ _ _ f13' s13 (copyU32_all x5 b5 o5 _ c5 rd w4 (by omega) i5.nil i5.ptr (fun i hi => (k4.cell (p := ⟨b5, o5 + i, none⟩) (i5.lt (by omega)) (by simp)).trans (v5 i hi)) (fun h => Nat.lt_of_lt_of_le (i5.lt h) k4.size)) (fun a14 y5 w5 hG f14' s14 => ?_))
  obtain ⟨kk5, -, d5⟩ := hG
  have k5 := k4.trans kk5
  obtain ⟨m, rfl⟩ : ∃ m : Nat, mi = m := ⟨mi.toNat, by omega⟩
  have B1 := fun h => ((kk2.trans kk3).trans (kk4.trans kk5)).isB (d1 h).2 (by simp)
  have B2 := fun h => (kk3.trans (kk4.trans kk5)).isB (d2 h).2 (by simp)
  have B3 := fun h => (kk4.trans kk5).isB (d3 h).2 (by simp)
  have B4 := fun h => kk5.isB (d4 h).2 (by simp)
  have B5 := fun h => (d5 h).2
  refine l3_tail m _ y1 y2 y3 y4 y5 w.heap.size w1.heap.size w2.heap.size w3.heap.size w4.heap.size rd f1 f2 g1 g2 a14 w w5 k5 f14' s14
    ⟨fun h => ⟨(d1 h).1, (B1 h).lt⟩, fun h => ⟨(d2 h).1, (B2 h).lt⟩, fun h => ⟨(d3 h).1, (B3 h).lt⟩, fun h => ⟨(d4 h).1, (B4 h).lt⟩, fun h => ⟨(d5 h).1, (B5 h).lt⟩,
     fun k hk => by rw [(B1 (by omega)).cell, rowA_at _ _ _ hk], fun k hk => by rw [(B2 (by omega)).cell, rowA_at _ _ _ hk], fun k hk => by rw [(B3 (by omega)).cell, rowA_at _ _ _ hk], fun k hk => by rw [(B4 (by omega)).cell, rowA_at _ _ _ hk], fun k hk => by rw [(B5 (by omega)).cell, rowA_at _ _ _ hk]⟩
    (by omega) (by omega) (fun i hi => ⟨q5 i hi, hle9 i hi⟩) q1 q3

end Go.Proofs.Qxb6602526a
