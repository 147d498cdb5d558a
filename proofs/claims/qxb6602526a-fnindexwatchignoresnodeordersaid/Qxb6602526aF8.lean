import Derived.Test.Qxb6602526aF7
namespace Go.Proofs.Qxb6602526a
open Go.RowKit
set_option linter.unusedSimpArgs false
set_option linter.unusedVariables false

theorem Held.congr {w : World} {v : Value} {n : Nat} {f g : Nat → Int} (h : Held w v n f) (he : ∀ i, i < n → f i = g i) : Held w v n g := by
  rcases h with h | ⟨b, lc, cur, h1, h2, h3, h4, h5, h6, h7⟩
  · exact .inl h
  · exact .inr ⟨b, lc, cur, h1, h2, h3, h4, h5, h6, fun i hi => by rw [← he i hi]; exact h7 i hi⟩

def Fin7 (w0 : World) : Exit → Act → World → Prop := bodyPost Try.prog Try.f7 fun e w' => e = .returned (.bool true) ∧ Below w0.heap.size w0 w'
theorem fin7 {w0 w : World} {a : Act} (hf : Fr 282 a) (h : sl a 14 = .bool true) (hk : Kept [] w0 w) : Fin7 w0 .ret a w :=
  bodyPost_ret (results_tmp rfl _ _ _) hf.defers ⟨by rw [show a.tmps.getD 14 undef = .bool true from h], hk.below _ (Nat.le_refl _) (by simp)⟩
/-- Behind the copies. -/
theorem l7_rest (kap st : Int) (m K I : Nat) (xp xc xr xi : Option Addr) (pb cb rb ib : Nat) (p ck fr fi : Nat → Int) (w0 w : World) (a : Act) (hfr : Fr 282 a) (hs : Slots [(0, .int .i64 kap), (1, .int .u32 st), (2, .int .i64 (m : Nat)), (3, .slice xp K K), (4, .slice xc K K), (5, .slice xr I I), (6, .slice xi I I)] a) (k0 : Kept [] w0 w)
    (hP : RowR .u64 xp pb 0 K p w) (hC : RowR .i64 xc cb 0 K ck w) (hR : RowR .u8 xr rb 0 I fr w) (hX : RowR .u32 xi ib 0 I fi w)
    (r8 : ∀ i, i < I → 0 ≤ fr i ∧ fr i < 256) (x32 : ∀ i, i < I → 0 ≤ fi i ∧ fi i < 4294967296) (t0 : 0 < st) (t1 : st < 4294967296) (lK : (K : Int) ≤ 65536) (hI : I = m * K) (lI : (I : Int) ≤ 1048576) (lm : (m : Int) ≤ 65536) :
    Code.wp Try.prog (dropC 9 (bodyC Try.f7)) (Fin7 w0) a w := by
  have hIK : 0 < I → 0 < K := fun h => by
    rcases Nat.eq_zero_or_pos K with e | e
    · subst e; simp at hI; omega
    · exact e
  have zz := k0.size
  refine wp_nav rfl (l7_9 _ _ _ _ _ _ _ _ _ _ _ _ hfr hs (by omega) fun a1 f1 s1 => ?_)
  have kq1 : Kept [] w (w.alloc (.cells (madeCells #[.int .u8 0] I) 5)) := (Kept.refl _ _).alloc _
  have q1 := IsB.new w (madeCells #[.int .u8 0] I) 5
  have z1 : (w.alloc (.cells (madeCells #[.int .u8 0] I) 5)).heap.size = w.heap.size + 1 := by simp
  generalize w.alloc (.cells (madeCells #[.int .u8 0] I) 5) = w1 at *
  refine wp_nav rfl (l7_10 _ _ _ _ _ _ _ _ _ _ _ _ _ f1 s1 (by omega) fun a2 f2 s2 => ?_)
  have kq2 : Kept [] w1 (w1.alloc (.cells (madeCells #[.int .u32 0] I) 22)) := (Kept.refl _ _).alloc _
  have q1' := q1.alloc (.cells (madeCells #[.int .u32 0] I) 22)
  have q2 := IsB.new w1 (madeCells #[.int .u32 0] I) 22
  have z2 : (w1.alloc (.cells (madeCells #[.int .u32 0] I) 22)).heap.size = w1.heap.size + 1 := by simp
  generalize w1.alloc (.cells (madeCells #[.int .u32 0] I) 22) = w2 at *
  rw [z1] at q2 s2 z2
  have k02 := kq1.trans kq2
  refine wp_nav rfl (wp_nav rfl (l7_11i _ _ _ _ _ _ _ _ _ _ _ _ _ _ f2 s2 fun a3 f3 s3 => ?_))
  refine wp_navB (id := 0) rfl ?_
  refine l7_fill _ _ _ _ _ _ _ _ _ w.heap.size (w.heap.size + 1) rb ib fr fi a3 w2 _ f3 s3 hI lI lm (hR.keep k02 (by simp)) (hX.keep k02 (by simp)) (fun h => ?_) (by omega) lK ⟨by rw [← part_zero]; exact q1', by rw [← part_zero]; exact q2⟩ (fun a4 w4 k4 B4 f4 s4 => ?_)
  · have a1 := hR.lt h
    have a2 := hX.lt h
    simp; omega
  simp only [Exit.inBlock, Exit.then, if_true]
  obtain ⟨G1, G2⟩ := B4
  rw [part_full] at G1 G2
  have k04 : Kept [] w w4 := k02.anew k4 (by simp)
  have z4 := k4.size
  refine wp_nav rfl (l7_12 _ _ _ _ _ _ _ _ _ _ _ _ _ _ f4 s4 fun a5 f5 s5 => ?_)
  have k5 : Kept [] w4 (w4.alloc (.cells (IW.new kap st).arr 93)) := (Kept.refl _ _).alloc _
  have N1 := IsB.new w4 (IW.new kap st).arr 93
  have z5 : (w4.alloc (.cells (IW.new kap st).arr 93)).heap.size = w4.heap.size + 1 := by simp
  generalize w4.alloc (.cells (IW.new kap st).arr 93) = w5 at *
  refine wp_nav rfl (l7_13 _ _ _ _ _ _ _ _ _ _ _ _ _ _ _ f5 s5 fun a6 f6 s6 => ?_)
  have k6 : Kept [] w5 (w5.alloc (.cells (IW.new kap st).arr 93)) := (Kept.refl _ _).alloc _
  have N1' := N1.alloc (.cells (IW.new kap st).arr 93)
  have N2 := IsB.new w5 (IW.new kap st).arr 93
  have z6 : (w5.alloc (.cells (IW.new kap st).arr 93)).heap.size = w5.heap.size + 1 := by simp
  generalize w5.alloc (.cells (IW.new kap st).arr 93) = w6 at *
  rw [z5] at N2 s6 z6
  have k46 := k5.trans k6
  have k06 := k04.trans k46
  have Q1 : RowR .u8 (some ⟨w.heap.size, 0, none⟩) w.heap.size 0 I (fun j => fr (rev m j)) w6 := ⟨fun _ => rfl, fun _ => by omega, fun i hi => by rw [Nat.zero_add, (k46.isB G1 (by simp)).cell, rowA_at _ _ _ hi]⟩
  have Q2 : RowR .u32 (some ⟨w.heap.size + 1, 0, none⟩) (w.heap.size + 1) 0 I (fun j => fi (rev m j)) w6 := ⟨fun _ => rfl, fun _ => by omega, fun i hi => by rw [Nat.zero_add, (k46.isB G2 (by simp)).cell, rowA_at _ _ _ hi]⟩
  refine wp_nav rfl (wp_nav rfl (l7_14i _ _ _ _ _ _ _ _ _ _ _ _ _ _ _ _ f6 s6 fun a7 f7 s7 => ?_))
  refine wp_navB (id := 4) rfl ?_
  refine l7_loop _ _ _ _ _ _ _ _ _ _ _ w4.heap.size (w4.heap.size + 1) (w4.heap.size + 2) pb cb rb ib p ck fr fi a7 w6 _ f7 s7 (hP.keep k06 (by simp)) (hC.keep k06 (by simp)) (hR.keep k06 (by simp)) (hX.keep k06 (by simp)) Q1 Q2 r8 x32 t0 t1 (by omega) (by omega) (fun h => ?_) (fun h => ?_) lK hI lI lm (by omega)
    ⟨.slice none 0 0, .slice none 0 0, ⟨N1', Held.nil _ _, fun g hg => by cases hg⟩, ⟨N2, Held.nil _ _, fun g hg => by cases hg⟩, fun g hg => by cases hg⟩ (fun a8 w8 k8 hW f8 s8 => ?_)
  · have a1 := hP.lt h
    have a2 := hC.lt h
    simp; omega
  · have a1 := hR.lt h
    have a2 := hX.lt h
    simp; omega
  simp only [Exit.inBlock, Exit.then, if_true]
  obtain ⟨lv1, lv2, A1, A2, -⟩ := hW
  have hrun : IW.run kap st m p ck (fun k i => fr (k * m + (m - 1 - i))) (fun k i => fi (k * m + (m - 1 - i))) K = IW.run kap st m p ck (fun k i => fr (k * m + i)) (fun k i => fi (k * m + i)) K := IW.run_rev kap st m p ck (fun k i => fr (k * m + i)) (fun k i => fi (k * m + i)) K
  rw [hrun] at A2
  have k08 : Kept [] w0 w8 := (k0.trans k06).anew k8 (by simp; omega)
  obtain ⟨u1, c1, rfl, -⟩ := A1.L.form
  obtain ⟨u2, c2, rfl, -⟩ := A2.L.form
  have l1 : ((if K = 0 then 0 else m : Nat) : Int) ≤ 65536 := by split <;> omega
  have H2 : Held w8 (.slice u2 (if K = 0 then 0 else m) c2) (if K = 0 then 0 else m) (fun i => (fun i => fi ((K - 1) * m + i)) ((if K = 0 then 0 else m) - 1 - i)) := A2.L.congr (fun i hi => by
    by_cases hK : K = 0
    · rw [if_pos hK] at hi; omega
    · rw [if_neg hK])
  have H1 := A1.L
  generalize (if K = 0 then 0 else m : Nat) = n1 at *
  refine wp_nav rfl (l7_15 _ _ _ _ _ _ _ _ _ _ f8 ⟨s8.2.2.2.2.2.2.2.2.2.1, s8.2.2.2.2.2.2.2.2.2.2.1, trivial⟩ (read28 _ _ _ A1.B) fun a9 v1 f9 s9 => ?_)
  have rd2 := read28 _ _ _ (A2.B.drewN v1)
  refine wp_nav rfl (l7_16 _ _ _ _ _ _ _ _ _ _ f9 s9 rd2 fun a10 v2 f10 s10 => ?_)
  refine wp_nav rfl (l7_17 _ _ _ _ _ _ _ _ _ _ f10 s10 fun a11 f11 s11 => ?_)
  refine wp_nav rfl (l7_18b _ _ _ u2 _ _ c2 _ _ _ f11 s11 (last30 _ _ _ _ _ _ ((A1.B.drewN v1).drewN v2) rfl) fun a12 f12 s12 => ?_)
  refine wp_nav rfl (l7_19 _ _ _ _ _ _ _ _ _ _ f12 s12 (last30 _ _ _ _ _ _ ((A2.B.drewN v1).drewN v2) rfl) fun a13 f13 s13 => ?_)
  refine wp_nav rfl (l7_20 _ _ _ _ _ _ _ _ f13 ⟨s13.2.2.1, s13.2.2.2.1, trivial⟩ fun a14 f14 s14 => ?_)
  refine wp_nav rfl (l7_21b _ _ _ _ _ _ _ _ f14 s14 fun a15 f15 s15 => ?_)
  refine wp_nav rfl (wp_nav rfl (l7_22i _ _ _ _ _ _ _ _ f15 s15 fun a16 f16 s16 => ?_))
  refine wp_navB (id := 6) rfl ?_
  refine l7_cmp _ _ _ _ _ (fun i => fi ((K - 1) * m + i)) a16 _ _ f16 s16 l1 H1 H2 (fun a17 v3 f17 => ?_)
  simp only [Exit.inBlock, Exit.then, if_true]
  exact l7_23 _ _ _ f17 fun a18 f18 s18 => fin7 f18 s18 (((k08.drewN v1).drewN v2).drewN v3)


/-- THE LAW. -/
theorem l7_walk (kap st n : Int) (xp : Option Addr) (K kc pb po : Nat) (xc : Option Addr) (C cc cb co : Nat) (xr : Option Addr) (R rc rb ro : Nat) (xi : Option Addr) (I ic ib io : Nat) (p ck fr fi : Nat → Int) (w : World)
    (i1 : RowIn xp pb po K kc w) (i2 : RowIn xc cb co C cc w) (i3 : RowIn xr rb ro R rc w) (i4 : RowIn xi ib io I ic w)
    (v1 : ∀ i, i < K → w.cell? ⟨pb, po + i, none⟩ = some (.int .u64 (p i))) (v2 : ∀ i, i < C → w.cell? ⟨cb, co + i, none⟩ = some (.int .i64 (ck i)))
    (v3 : ∀ i, i < R → w.cell? ⟨rb, ro + i, none⟩ = some (.int .u8 (fr i))) (v4 : ∀ i, i < I → w.cell? ⟨ib, io + i, none⟩ = some (.int .u32 (fi i)))
    (r8 : ∀ i, i < R → 0 ≤ fr i ∧ fr i < 256) (x32 : ∀ i, i < I → 0 ≤ fi i ∧ fi i < 4294967296) (st0 : 0 ≤ st) (st1 : st < 4294967296) :
    Calls Try.prog 7 #[.int .i64 kap, .int .u32 st, .int .i64 n, .slice xp K kc, .slice xc C cc, .slice xr R rc, .slice xi I ic] w fun e w' => e = .returned (.bool true) ∧ Below w.heap.size w w' := by
  refine calls_nav 282 Try.func7 rfl rfl (by simp) fun a fr0 ha => ?_
  have s0 : Slots [(0, .int .i64 kap), (1, .int .u32 st), (2, .int .i64 n), (3, .slice xp K kc), (4, .slice xc C cc), (5, .slice xr R rc), (6, .slice xi I ic)] a := ⟨ha 0 (by simp), ha 1 (by simp), ha 2 (by simp), ha 3 (by simp), ha 4 (by simp), ha 5 (by simp), ha 6 (by simp), trivial⟩
  show Code.wp _ _ (Fin7 w) _ _
  have hret : ∀ a' w', Fr 282 a' → sl a' 14 = .bool true → Kept [] w w' → Fin7 w .ret a' w' := fun a' w' f' s' k' => fin7 f' s' k'
  have e1 := i1.len
  have e2 := i2.len
  have e3 := i3.len
  have e4 := i4.len
  refine wp_nav rfl (l7_0 _ _ _ _ _ _ _ _ _ _ _ _ _ _ _ _ _ _ fr0 s0 fun a1 f1 s1 => ?_)
  refine wp_nav rfl (l7_1 _ _ _ _ _ _ _ _ _ _ _ _ _ _ _ _ _ _ f1 s1 e1 e2 e3 e4 (fun a2 hle f2 s2 => ?_) hret)
  refine wp_nav rfl (l7_2 _ _ _ _ _ _ _ _ _ _ _ _ _ _ _ _ _ _ f2 s2 (by omega) (by omega) (by omega) (by omega) (fun a3 t1 t2 t3 f3 s3 => ?_) hret)
  refine wp_nav rfl (l7_3 _ _ _ _ _ _ _ _ _ _ _ _ _ _ _ _ _ _ f3 s3 (by omega) (by omega) (by omega) (by omega) (fun a4 f4 s4 => ?_) hret)
  refine wp_nav rfl (l7_4 _ _ _ _ _ _ _ _ _ _ _ _ _ _ _ _ _ _ f4 s4 (by omega) (by omega) (by omega) (by omega) (fun a5 hsh f5 s5 => ?_) hret)
  obtain ⟨gst, g1, g2, rfl, g3, g4⟩ := hsh
  obtain ⟨m, rfl⟩ : ∃ m : Nat, n = m := ⟨n.toNat, by omega⟩
  have gI : I = m * C := by rw [← Int.natCast_mul] at g4; exact Int.ofNat.inj g4
  have gR : I = R := by rw [← g3] at g4; exact Int.ofNat.inj g4
  subst gR
  refine wp_nav rfl (l7_5 _ _ _ _ _ _ _ _ _ _ _ _ _ _ _ _ _ _ _ f5 s5 (copyU64_all xp pb po _ kc p w (by omega) i1.nil i1.ptr v1 i1.lt) (fun a7 y1 w1 hG f7 s7 => ?_))
  obtain ⟨k1, -, d1⟩ := hG
  refine wp_nav rfl (l7_6 _ _ _ _ _ _ _ _ _ _ _ _ _ _ _ _ _ _ _ f7 s7 (copyInt_all xc cb co _ cc ck w1 (by omega) i2.nil i2.ptr (fun i hi => (k1.cell (p := ⟨cb, co + i, none⟩) (i2.lt (by omega)) (by simp)).trans (v2 i hi)) (fun h => Nat.lt_of_lt_of_le (i2.lt h) k1.size)) (fun a8 y2 w2 hG f8 s8 => ?_))
  obtain ⟨kk2, -, d2⟩ := hG
  have k2 := k1.trans kk2
  refine wp_nav rfl (l7_7 _ _ _ _ _ _ _ _ _ _ _ _ _ _ _ _ _ _ _ f8 s8 (copyU8_all xr rb ro _ rc fr w2 (by omega) i3.nil i3.ptr (fun i hi => (k2.cell (p := ⟨rb, ro + i, none⟩) (i3.lt (by omega)) (by simp)).trans (v3 i hi)) (fun h => Nat.lt_of_lt_of_le (i3.lt h) k2.size)) (fun a9 y3 w3 hG f9 s9 => ?_))
  obtain ⟨kk3, -, d3⟩ := hG
  have k3 := k2.trans kk3
  refine wp_nav rfl (l7_8 _ _ _ _ _ _ _ _ _ _ _ _ _ _ _ _ _ _ _ f9 s9 (copyU32_all xi ib io _ ic fi w3 (by omega) i4.nil i4.ptr (fun i hi => (k3.cell (p := ⟨ib, io + i, none⟩) (i4.lt (by omega)) (by simp)).trans (v4 i hi)) (fun h => Nat.lt_of_lt_of_le (i4.lt h) k3.size)) (fun a10 y4 w4 hG f10 s10 => ?_))
  obtain ⟨kk4, -, d4⟩ := hG
  have k4 := k3.trans kk4
  have hIK : 0 < I → 0 < C := fun h => by
    rcases Nat.eq_zero_or_pos C with e | e
    · subst e; simp at gI; omega
    · exact e
  have B1 := fun h => (kk2.trans (kk3.trans kk4)).isB (d1 h).2 (by simp)
  have B2 := fun h => (kk3.trans kk4).isB (d2 h).2 (by simp)
  have B3 := fun h => kk4.isB (d3 h).2 (by simp)
  have B4 := fun h => (d4 h).2
  have P4 : RowR .u64 y1 w.heap.size 0 C p w4 := ⟨fun h => (d1 h).1, fun h => (B1 h).lt, fun k hk => by rw [Nat.zero_add, (B1 (by omega)).cell, rowA_at _ _ _ hk]⟩
  have C4 : RowR .i64 y2 w1.heap.size 0 C ck w4 := ⟨fun h => (d2 h).1, fun h => (B2 h).lt, fun k hk => by rw [Nat.zero_add, (B2 (by omega)).cell, rowA_at _ _ _ hk]⟩
  have R4 : RowR .u8 y3 w2.heap.size 0 I fr w4 := ⟨fun h => (d3 h).1, fun h => (B3 h).lt, fun k hk => by rw [Nat.zero_add, (B3 (by omega)).cell, rowA_at _ _ _ hk]⟩
  have X4 : RowR .u32 y4 w3.heap.size 0 I fi w4 := ⟨fun h => (d4 h).1, fun h => (B4 h).lt, fun k hk => by rw [Nat.zero_add, (B4 (by omega)).cell, rowA_at _ _ _ hk]⟩
  exact l7_rest kap st m C I y1 y2 y3 y4 _ _ _ _ p ck fr fi w w4 a10 f10 s10 k4 P4 C4 R4 X4 r8 x32 (by omega) st1 (by omega) gI (by omega) (by omega)

end Go.Proofs.Qxb6602526a
