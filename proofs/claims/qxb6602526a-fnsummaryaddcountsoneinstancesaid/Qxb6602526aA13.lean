import Derived.Test.Qxb6602526aA12
namespace Go.Proofs.Qxb6602526a
open Go.RowKit
set_option linter.unusedSimpArgs false
set_option linter.unusedVariables false

/-- A slice that came in. -/
structure SliceIn (na : Option Addr) (b off n cap : Nat) (w : World) : Prop where
  nil : na = none → n = 0 ∧ cap = 0
  ptr : 0 < n → na = some ⟨b, off, none⟩
  lt : 0 < n → b < w.heap.size
  len : n ≤ 9223372036854775807

/-- Writes into what was not there at the start. -/
theorem Kept.new {S : List Nat} {a b c : World} (h : Kept [] a b) (k : Kept S b c) (hS : ∀ x ∈ S, a.heap.size ≤ x) : Kept [] a c :=
  ⟨k.os.trans h.os, k.tape.trans h.tape, k.output.trans h.output, Nat.le_trans h.size k.size,
    fun i hi hn => (k.block i (Nat.lt_of_lt_of_le hi h.size) (fun hm => by have := hS i hm; omega)).trans (h.block i hi hn)⟩

/-- THE LAW: FnSummaryAddCountsOneInstance returns true and turns nothing that was there. -/
theorem l8_walk (na ra : Option Addr) (nn ncap rn rcap nb noff rb roff : Nat) (nc : Nat → NodeC) (f : Nat → Int) (p0 p1 p2 p3 p4 p5 p6 p8 : Int) (p7 : Bool) (w : World)
    (hN : SliceIn na nb noff nn ncap w) (hR : SliceIn ra rb roff rn rcap w)
    (hnc : ∀ i, i < nn → (nc i).at w nb (noff + i * 6)) (hf : ∀ i, i < rn → w.cell? ⟨rb, roff + i, none⟩ = some (.int .u64 (f i))) (hf0 : ∀ i, i < rn → 0 ≤ f i)
    (hpv : ∀ i, i < nn → 0 ≤ (nc i).pv) (hrd : ∀ i, i < nn → 0 ≤ (nc i).rd ∧ (nc i).rd < 4294967296)
    (r0 : 0 ≤ p0 ∧ p0 < 18446744073709551616) (r1 : 0 ≤ p1 ∧ p1 < 18446744073709551616) (r2 : 0 ≤ p2 ∧ p2 < 18446744073709551616) (r3 : 0 ≤ p3 ∧ p3 < 18446744073709551616)
    (r4 : 0 ≤ p4 ∧ p4 < 18446744073709551616) (r5 : 0 ≤ p5 ∧ p5 < 18446744073709551616) (r6 : 0 ≤ p6 ∧ p6 < 18446744073709551616) (r8 : 0 ≤ p8 ∧ p8 < 18446744073709551616) :
    Calls Try.prog 8 #[.agg (priorA p0 p1 p2 p3 p4 p5 p6 p7 p8), .slice na nn ncap, .slice ra rn rcap] w fun e w' => e = .returned (.bool true) ∧ Below w.heap.size w w' := by
  refine calls_nav 375 Try.func8 rfl rfl (by simp) fun a fr ha => ?_
  have s0 : Slots [(0, .agg (priorA p0 p1 p2 p3 p4 p5 p6 p7 p8)), (1, .slice na nn ncap), (2, .slice ra rn rcap)] a := ⟨ha 0 (by simp), ha 1 (by simp), ha 2 (by simp), trivial⟩
  show Code.wp _ _ (Fin8 w) _ _
  refine wp_nav rfl (l8_0 _ _ _ _ _ _ _ _ _ _ fr s0 rfl fun a1 f1 s1 => ?_)
  have kA : Kept [] w (w.alloc (.cells (priorA p0 p1 p2 p3 p4 p5 p6 p7 p8) 78)) := (Kept.refl _ _).alloc _
  have pA : IsB (w.alloc (.cells (priorA p0 p1 p2 p3 p4 p5 p6 p7 p8) 78)) w.heap.size (priorA p0 p1 p2 p3 p4 p5 p6 p7 p8) 78 := IsB.new _ _ _
  generalize w.alloc (.cells (priorA p0 p1 p2 p3 p4 p5 p6 p7 p8) 78) = w1 at *
  have hret : ∀ (wx : World), Kept [] w wx → ∀ a' w', Fr 375 a' → sl a' 6 = .bool true → Kept [] wx w' → Fin8 w .ret a' w' := fun wx kx a' w' f' s' k' => fin8 f' s' (kx.trans k')
  have n1 := hN.len
  have n2 := hR.len
  refine wp_nav rfl (l8_1 _ _ _ _ _ _ _ p0 p1 p2 p3 p4 p5 p6 p8 p7 _ _ _ f1 s1 pA (by omega) (by omega) (fun a2 w2 hle f2 s2 k2 => ?_) (hret _ kA))
  have kB := kA.trans k2
  have pB := k2.isB pA (by simp)
  clear kA pA k2
  refine wp_nav rfl (l8_2 _ _ _ _ _ _ _ _ _ _ f2 s2 (by omega) (by omega) (fun a3 hn3 hr3 f3 s3 => ?_) (hret _ kB))
  refine wp_nav rfl (l8_3 _ _ _ _ _ _ _ _ _ _ f3 s3 (by omega) (by omega) (fun a4 f4 s4 => ?_) (hret _ kB))
  -- the first loop
  refine wp_nav rfl (wp_nav rfl (l8_4i _ _ _ _ _ _ _ _ _ _ f4 s4 fun a5 f5 s5 => ?_))
  refine wp_navB (id := 0) rfl ?_
  refine l8_loop1 na ra nn ncap rn rcap w.heap.size rb roff f w2 _ (by omega) hR.ptr (fun k hk => (kB.cell (p := ⟨rb, roff + k, none⟩) (hR.lt (by omega)) (by simp)).trans (hf k hk)) (fun a6 hle6 f6 s6 => ?_) (fun a' w' f' s' k' => by exact hret _ kB a' w' f' s' k') _ f5 s5
  simp only [Exit.inBlock, Exit.then, if_true]
  refine wp_nav rfl (l8_5 _ _ _ _ _ _ _ _ _ _ f6 s6 fun a7 f7 s7 => ?_)
  refine wp_nav rfl (l8_6 _ _ _ _ _ _ _ _ _ _ f7 s7 fun a8 f8 s8 => ?_)
  refine wp_nav rfl (wp_nav rfl (l8_7i _ _ _ _ _ _ _ _ _ _ f8 s8 fun a9 f9 s9 => ?_))
  refine wp_navB (id := 2) rfl ?_
  refine l8_loop2 na ra nn ncap rn rcap w.heap.size nb noff nc w2 _ (by omega) hN.ptr (fun h => Nat.lt_of_lt_of_le (hN.lt h) kB.size) (fun k hk => at6_keep (hnc k hk) kB (hN.lt (by omega)) (by simp)) (fun a10 w10 hle10 k10 f10 s10 => ?_) (fun a' w' f' s' k' => by exact hret _ kB a' w' f' s' k') _ f9 s9
  simp only [Exit.inBlock, Exit.then, if_true]
  have kC := kB.trans k10
  have pC := k10.isB pB (by simp)
  clear pB k10
  have hbl := lastTo_bd (fun i => (nc i).toD) 4294967295 (by omega) nn (fun i hi => by have := hrd i hi; show 0 ≤ (nc i).rd ∧ (nc i).rd ≤ _; omega)
  refine wp_nav rfl (l8_8 _ _ _ _ _ _ _ _ _ _ _ _ f10 s10 (by omega) (by omega) (by omega) (fun a11 hdec f11 s11 => ?_) (hret _ kC))
  -- the copies
  refine wp_nav rfl (l8_9 _ _ _ _ _ _ _ _ _ _ _ _ _ f11 s11 (copyNodes_all na nb noff nn ncap nc w10 (by omega) hN.nil hN.ptr (fun k hk => at6_keep (hnc k hk) kC (hN.lt (by omega)) (by simp)) (fun h => Nat.lt_of_lt_of_le (hN.lt h) kC.size)) (fun a12 na' w12 hG f12 s12 => ?_))
  obtain ⟨k12, g1, g2, g3⟩ := hG
  have kD := kC.trans k12
  have pD := k12.isB pC (by simp)
  refine wp_nav rfl (l8_10 _ _ _ _ _ _ _ _ _ _ _ _ _ f12 s12 (copyU64_all ra rb roff rn rcap f w12 (by omega) hR.nil hR.ptr (fun k hk => (kD.cell (p := ⟨rb, roff + k, none⟩) (hR.lt (by omega)) (by simp)).trans (hf k hk)) (fun h => Nat.lt_of_lt_of_le (hR.lt h) kD.size)) (fun a13 ra' w13 hG f13 s13 => ?_))
  obtain ⟨k13, e1, e2⟩ := hG
  have kE := kD.trans k13
  have pE := k13.isB pD (by simp)
  have hsz1 := kC.size
  have hsz2 := k12.size
  have hsz3 := k13.size
  have hpb : w.heap.size < w10.heap.size := pC.lt
  have cE : ∀ k, k < nn → (nc k).at w13 w10.heap.size (k * 6) := fun k hk => at6_keep (g3 k hk) k13 (g2 (by omega)).2 (by simp)
  have hpv' : ∀ i, i < nn → (nc i).fa = false → (nc i).hp = true → (nc i).pv = 0 ∨ (nc i).pv = 1 := fun i hi h1 h2 => by
    have := hle10 i hi h1 h2
    have := hpv i hi
    omega
  clear kC pC kD pD
  refine wp_nav rfl (l8_11 _ _ _ _ _ _ _ _ _ _ _ _ f13 s13 fun a14 f14 s14 => ?_)
  refine wp_nav rfl (l8_12 _ _ _ _ _ _ _ _ _ _ _ _ f14 s14 fun a15 f15 s15 => ?_)
  refine wp_nav rfl (wp_nav rfl (l8_13i _ _ _ _ _ _ _ _ _ _ _ _ f15 s15 fun a16 f16 s16 => ?_))
  refine wp_navB (id := 4) rfl ?_
  refine l8_loop3 na' ra' nn rn w.heap.size w10.heap.size _ _ nc w13 _ (by omega) (fun h => (g2 h).1) (fun h => by have := (g2 h).2; omega) cE hpv' (fun a17 w17 k17 f17 s17 => ?_) _ f16 s16
  simp only [Exit.inBlock, Exit.then, if_true]
  have kF := kE.trans k17
  have pF := k17.isB pE (by simp)
  have cF : ∀ k, k < nn → (nc k).at w17 w10.heap.size (k * 6) := fun k hk => at6_keep (cE k hk) k17 (by have := (g2 (by omega)).2; omega) (by simp)
  have rF : 0 < rn → ra' = some ⟨w12.heap.size, 0, none⟩ ∧ IsB w17 w12.heap.size (rowA (fun i => .int .u64 (f i)) rn) 31 := fun h => ⟨(e2 h).1, k17.isB (e2 h).2 (by simp)⟩
  have hsz4 := k17.size
  clear kE pE cE
  -- the Summary
  refine wp_nav rfl (l8_14 _ _ _ _ _ _ _ _ _ _ _ _ _ p0 p1 p2 p3 p4 p5 p6 p8 p7 _ _ _ f17 s17 (by omega) pF (fun a18 w18 bs drb f18 s18 k18 b1 b2 b3 B18 D18 => ?_))
  have kG := kF.trans k18
  have pG := k18.isB pF (by simp)
  have cG : ∀ k, k < nn → (nc k).at w18 w10.heap.size (k * 6) := fun k hk => at6_keep (cF k hk) k18 (by have := (g2 (by omega)).2; omega) (by simp)
  have rG : 0 < rn → ra' = some ⟨w12.heap.size, 0, none⟩ ∧ IsB w18 w12.heap.size (rowA (fun i => .int .u64 (f i)) rn) 31 := fun h => ⟨(rF h).1, k18.isB (rF h).2 (by simp)⟩
  have hrb : 0 < rn → w12.heap.size < w17.heap.size := fun h => by have := (e2 h).2.lt; omega
  have hcb : 0 < nn → w10.heap.size < w17.heap.size := fun h => by have := (g2 h).2; omega
  have hpb2 : w.heap.size < w17.heap.size := by omega
  have hbs := B18.lt
  have hdr := D18.lt
  have hsz5 := k18.size
  clear kF pF cF rF
  refine wp_nav rfl (wp_nav rfl (l8_15i _ _ _ _ _ _ _ _ _ _ _ _ _ _ _ _ _ f18 s18 fun a19 f19 s19 => ?_))
  refine wp_navB (id := 6) rfl ?_
  refine l8_loop4 na' ra' nn rn w.heap.size bs _ _ _ _ _ _ _ _ w12.heap.size (sumOf p0 p1 p2 p3 p4 p5 p6 none drb rn) f w18 _ (by omega) rG B18 rfl D18 b3 (fun h => by have := hrb h; show _ ≠ drb; omega) (fun a20 w20 k20 D20 f20 s20 => ?_) _ f19 s19
  simp only [Exit.inBlock, Exit.then, if_true]
  replace k20 : Kept [drb] w18 w20 := k20
  replace D20 : IsB w20 drb (rowA (fun i => .int .u64 (f i)) rn) 31 := D20
  have kH : Kept [] w w20 := kG.new k20 (by simp; omega)
  have pH := k20.isB pG (by simp; omega)
  have cH : ∀ k, k < nn → (nc k).at w20 w10.heap.size (k * 6) := fun k hk => at6_keep (cG k hk) k20 (by have := hcb (by omega); omega) (by have := hcb (by omega); simp; omega)
  have rH : 0 < rn → ra' = some ⟨w12.heap.size, 0, none⟩ ∧ IsB w20 w12.heap.size (rowA (fun i => .int .u64 (f i)) rn) 31 := fun h => ⟨(rG h).1, k20.isB (rG h).2 (by have := hrb h; simp; omega)⟩
  have bH := k20.isB B18 (by simpa using b3)
  have hsz6 := k20.size
  clear kG pG cG rG
  -- the count of invalid instances
  refine wp_nav rfl (l8_16 _ _ _ _ _ _ _ _ _ _ _ _ _ _ p8 _ _ _ f20 s20 (pH.cell 8) fun a21 f21 s21 => ?_)
  have kI := kH.alloc (.cells #[.int .u64 p8] 31)
  have pI := pH.alloc (.cells #[.int .u64 p8] 31)
  have cI : ∀ k, k < nn → (nc k).at (w20.alloc (.cells #[.int .u64 p8] 31)) w10.heap.size (k * 6) := fun k hk => at6_keep (S := []) (cH k hk) ((Kept.refl _ _).alloc _) (by have := hcb (by omega); omega) (by simp)
  have rI : 0 < rn → ra' = some ⟨w12.heap.size, 0, none⟩ ∧ IsB (w20.alloc (.cells #[.int .u64 p8] 31)) w12.heap.size (rowA (fun i => .int .u64 (f i)) rn) 31 := fun h => ⟨(rH h).1, (rH h).2.alloc _⟩
  have bI := bH.alloc (.cells #[.int .u64 p8] 31)
  have dI := D20.alloc (.cells #[.int .u64 p8] 31)
  have vI := IsB.new w20 #[.int .u64 p8] 31
  have zI : (w20.alloc (.cells #[.int .u64 p8] 31)).heap.size = w20.heap.size + 1 := by simp
  generalize w20.alloc (.cells #[.int .u64 p8] 31) = w21 at *
  clear kH pH cH rH bH D20
  refine wp_nav rfl (l8_17 _ _ _ _ _ _ _ _ _ _ _ _ _ _ w20.heap.size p7 (sumOf p0 p1 p2 p3 p4 p5 p6 none drb rn) _ _ _ f21 s21 (pI.cell 7) bI fun a22 w22 f22 s22 k22 z22 b22 => ?_)
  have kJ := kI.new k22 (by simp; omega)
  have pJ := k22.isB pI (by simp; omega)
  have cJ : ∀ k, k < nn → (nc k).at w22 w10.heap.size (k * 6) := fun k hk => at6_keep (cI k hk) k22 (by have := hcb (by omega); omega) (by have := hcb (by omega); simp; omega)
  have rJ : 0 < rn → ra' = some ⟨w12.heap.size, 0, none⟩ ∧ IsB w22 w12.heap.size (rowA (fun i => .int .u64 (f i)) rn) 31 := fun h => ⟨(rI h).1, k22.isB (rI h).2 (by have := hrb h; simp; omega)⟩
  have dJ := k22.isB dI (by simpa using fun e => b3 e.symm)
  have vJ := k22.isB vI (by simp; omega)
  have bJ : IsB w22 bs (sumOf p0 p1 p2 p3 p4 p5 p6 (if p7 then some ⟨w20.heap.size, 0, none⟩ else none) drb rn).arr 41 := b22
  clear kI pI cI rI bI dI vI b22
  -- the instance
  refine wp_nav rfl (l8_18 _ _ _ _ _ _ _ _ _ _ _ _ _ _ p0 _ _ _ f22 s22 (by omega) pJ.lt (pJ.cell 0) fun a23 w23 ib nb2 f23 s23 k23 i1 i2 i3 i4 i5 => ?_)
  have kK := kJ.trans k23
  have pK := k23.isB pJ (by simp)
  have cK : ∀ k, k < nn → (nc k).at w23 w10.heap.size (k * 6) := fun k hk => at6_keep (cJ k hk) k23 (by have := hcb (by omega); omega) (by simp)
  have rK : 0 < rn → ra' = some ⟨w12.heap.size, 0, none⟩ ∧ IsB w23 w12.heap.size (rowA (fun i => .int .u64 (f i)) rn) 31 := fun h => ⟨(rJ h).1, k23.isB (rJ h).2 (by simp)⟩
  have dK := k23.isB dJ (by simp)
  have vK := k23.isB vJ (by simp)
  have bK := k23.isB bJ (by simp)
  have hnb2 : nb2 < w23.heap.size := by obtain ⟨c, _, h⟩ := i5; exact h.lt
  have hsz7 := k23.size
  clear kJ pJ cJ rJ dJ vJ bJ
  refine wp_nav rfl (wp_nav rfl (l8_19i _ _ _ _ _ _ _ _ _ _ _ _ _ _ _ _ _ _ f23 s23 fun a24 f24 s24 => ?_))
  refine wp_navB (id := 8) rfl ?_
  refine l8_loop5 na' ra' nn rn w.heap.size bs _ _ _ _ _ _ _ _ ib w10.heap.size nb2 nc p0 w23 _ (by omega) (fun h => (g2 h).1) (fun h => by have := hcb h; omega) cK i4 i3 i5 (fun a25 w25 N k25 hN25 f25 s25 => ?_) _ f24 s24
  simp only [Exit.inBlock, Exit.then, if_true]
  have kL := kK.new k25 (by simp; omega)
  refine l8_add na' ra' nn rn w.heap.size bs drb w20.heap.size w12.heap.size ib nb2 w23.heap.size nc N f p0 p1 p2 p3 p4 p5 p6 p8 p7 w w25 ?_ kL (by omega) a25 f25 s25
  have hsz8 := k25.size
  refine ⟨k25.isB i4 (by simpa using i3), k25.isB pK (by simp; omega), k25.isB bK (by simp; omega), k25.isB vK (by simp; omega), k25.isB dK (by simp; omega),
    fun h => ⟨(rK h).1, k25.isB (rK h).2 (by have := hrb h; simp; omega)⟩, hN25, by omega, by omega, by omega, by omega, fun e => b3 e.symm, by omega, by omega, by omega, by omega, fun h => by have := hrb h; omega,
    fun i hi => ⟨hf0 i hi, hle6 i hi⟩, r0, r1, r2, r3, r4, r5, r6, r8, hpv', hrd, fun hu => ?_⟩
  have := hdec (by rw [hu]; rfl)
  exact this

end Go.Proofs.Qxb6602526a
