import Derived.Test.Qxb6602526aA9
namespace Go.Proofs.Qxb6602526a
open Go.RowKit
set_option linter.unusedSimpArgs false
set_option linter.unusedVariables false

/-- The sixth loop. -/
theorem l8_loop6 (na ra : Option Addr) (nn rn pb bs : Nat) (ad : Bool) (l z o e p : Int) (q0 q1 : Bool) (rb : Nat) (T : SumS) (f g : Nat → Int) (w : World) (Q : Exit → Act → World → Prop)
    (l2 : (rn : Int) ≤ 65536) (hra : 0 < rn → ra = some ⟨rb, 0, none⟩) (hB : IsB w bs T.arr 41) (hdn : T.drn = rn) (hc : ∀ k, k < rn → w.cell? ⟨rb, k, none⟩ = some (.int .u64 (f k))) (hd : ∀ k, k < rn → w.cell? ⟨T.drb, k, none⟩ = some (.int .u64 (g k)))
    (hl : 0 ≤ l ∧ l < 4294967296) (hg : ∀ k : Nat, g k = if ad = true ∧ l = (k : Int) + 1 then f k + 1 else f k) (hff : ∀ k, k < rn → 0 ≤ f k ∧ f k ≤ 1099511627776)
    (hexit : ∀ a', Fr 375 a' → Slots [(1, .slice na nn nn), (2, .slice ra rn rn), (3, .pointer (some ⟨pb, 0, none⟩)), (8, .bool ad), (9, .int .u32 l), (12, .int .u64 z), (13, .int .u64 o), (14, .int .u64 e), (15, .int .u64 p), (16, .bool q0), (17, .bool q1), (20, .pointer (some ⟨bs, 0, none⟩))] a' → Q (.exit 10) a' w) (a : Act) (hfr : Fr 375 a) (hs : Slots [(1, .slice na nn nn), (2, .slice ra rn rn), (3, .pointer (some ⟨pb, 0, none⟩)), (8, .bool ad), (9, .int .u32 l), (12, .int .u64 z), (13, .int .u64 o), (14, .int .u64 e), (15, .int .u64 p), (16, .bool q0), (17, .bool q1), (20, .pointer (some ⟨bs, 0, none⟩)), (34, .int .i64 (0 : Nat))] a) :
    Code.wp Try.prog (inC (tlC (nthC 32 (bodyC Try.f8)))) Q a w := by
  refine wp_navL rfl (wp_loop (fun a' w' => w' = w ∧ ∃ k, k ≤ rn ∧ Fr 375 a' ∧ Slots [(1, .slice na nn nn), (2, .slice ra rn rn), (3, .pointer (some ⟨pb, 0, none⟩)), (8, .bool ad), (9, .int .u32 l), (12, .int .u64 z), (13, .int .u64 o), (14, .int .u64 e), (15, .int .u64 p), (16, .bool q0), (17, .bool q1), (20, .pointer (some ⟨bs, 0, none⟩)), (34, .int .i64 (k : Nat))] a') (fun a' _ => rn - (intOf (sl a' 34)).toNat) ⟨rfl, 0, Nat.zero_le _, hfr, hs⟩ ?_)
  rintro a1 w1 ⟨rfl, k, hk, fr, sl1⟩
  have mu : (intOf (sl a1 34)).toNat = k := by
    have : sl a1 34 = .int .i64 (k : Nat) := sl1.2.2.2.2.2.2.2.2.2.2.2.2.1
    rw [this]; simp [intOf]
  refine l8_32r _ _ _ _ _ _ _ _ _ _ _ _ _ _ k rb T f g a1 w1 _ fr sl1 hk l2 hra hB hdn (hc k) (hd k) hl (hg k) (hff k) (fun a2 hlt fr2 sl2 => ?_) (fun a2 hke fr2 sl2 => hexit a2 fr2 sl2)
  refine ⟨⟨rfl, k + 1, by omega, fr2, sl2⟩, ?_⟩
  have mu2 : (intOf (sl a2 34)).toNat = k + 1 := by
    have : sl a2 34 = .int .i64 (k + 1 : Nat) := sl2.2.2.2.2.2.2.2.2.2.2.2.2.1
    rw [this]; simp only [intOf]; omega
  rw [mu, mu2]; omega

/-- What is known when 'add' has been called. -/
structure Checks (na ra : Option Addr) (nn rn pb bs : Nat) (ad : Bool) (l z o e p : Int) (q0 q1 : Bool) (rb : Nat) (f g : Nat → Int) (vb : Nat) (nv : Int) (T : SumS) (p0 p1 p2 p3 p4 p5 p6 p8 : Int) (p7 : Bool) (w : World) : Prop where
  hB : IsB w bs T.arr 41
  hP : IsB w pb (priorA p0 p1 p2 p3 p4 p5 p6 p7 p8) 78
  l2 : (rn : Int) ≤ 65536
  c1 : IntKind.u64.wrap (p0 + 1) = T.inst
  c2 : IntKind.u64.wrap (p1 + z) = T.zero
  c3 : IntKind.u64.wrap (p2 + o) = T.one
  c4 : IntKind.u64.wrap (p3 + e) = T.err
  c5 : IntKind.u64.wrap (p4 + p) = T.pend
  c6 : IntKind.u64.wrap (p5 + ind (decide (0 < z) && decide (0 < o))) = T.dis
  c7 : IntKind.u64.wrap (p6 + ind (decide (0 < e))) = T.ei
  c8 : p7 = false → T.inv = none
  c9 : p7 = true → T.inv = some ⟨vb, 0, none⟩ ∧ IsB w vb #[.int .u64 nv] 31 ∧ IntKind.u64.wrap (p8 + ind (decide (0 < z) && !q0 || decide (0 < o) && !q1)) = nv
  dn : T.drn = rn
  hra : 0 < rn → ra = some ⟨rb, 0, none⟩
  hc : ∀ k, k < rn → w.cell? ⟨rb, k, none⟩ = some (.int .u64 (f k))
  hd : ∀ k, k < rn → w.cell? ⟨T.drb, k, none⟩ = some (.int .u64 (g k))
  hl : 0 ≤ l ∧ l < 4294967296
  hg : ∀ k : Nat, g k = if ad = true ∧ l = (k : Int) + 1 then f k + 1 else f k
  hff : ∀ k, k < rn → 0 ≤ f k ∧ f k ≤ 1099511627776
  mean : T.mean.isSome = ad
  rm : T.rmax = none
  sm : T.smax = none

theorem l8_checks (na ra : Option Addr) (nn rn pb bs : Nat) (ad : Bool) (l z o e p : Int) (q0 q1 : Bool) (rb : Nat) (f g : Nat → Int) (vb : Nat) (nv : Int) (T : SumS) (p0 p1 p2 p3 p4 p5 p6 p8 : Int) (p7 : Bool) (w0 w : World) (h : Checks na ra nn rn pb bs ad l z o e p q0 q1 rb f g vb nv T p0 p1 p2 p3 p4 p5 p6 p8 p7 w) (hk0 : Kept [] w0 w)
    (a : Act) (hfr : Fr 375 a) (hs : Slots [(1, .slice na nn nn), (2, .slice ra rn rn), (3, .pointer (some ⟨pb, 0, none⟩)), (8, .bool ad), (9, .int .u32 l), (12, .int .u64 z), (13, .int .u64 o), (14, .int .u64 e), (15, .int .u64 p), (16, .bool q0), (17, .bool q1), (20, .pointer (some ⟨bs, 0, none⟩))] a) : Code.wp Try.prog (dropC 21 (bodyC Try.f8)) (Fin8 w0) a w := by
  obtain ⟨hB, hP, l2, c1, c2, c3, c4, c5, c6, c7, c8, c9, dn, hra, hc, hd, hl, hg, hff, mean, rm, sm⟩ := h
  refine wp_nav rfl (l8_21 _ _ _ _ _ _ _ _ _ _ _ _ _ _ T p0 p1 p2 p3 p4 p5 p6 p8 p7 _ _ _ hfr hs hB hP c1 fun a1 f1 s1 => ?_)
  refine wp_nav rfl (l8_22 _ _ _ _ _ _ _ _ _ _ _ _ _ _ T p0 p1 p2 p3 p4 p5 p6 p8 p7 _ _ _ f1 s1 hB hP c2 c3 fun a2 f2 s2 => ?_)
  refine wp_nav rfl (l8_23 _ _ _ _ _ _ _ _ _ _ _ _ _ _ T p0 p1 p2 p3 p4 p5 p6 p8 p7 _ _ _ f2 s2 hB hP c4 c5 fun a3 f3 s3 => ?_)
  refine wp_nav rfl (l8_24 _ _ _ _ _ _ _ _ _ _ _ _ _ _ _ _ _ f3 s3 fun a4 f4 s4 => ?_)
  refine wp_nav rfl (l8_25 _ _ _ _ _ _ _ _ _ _ _ _ _ _ _ _ _ f4 s4 fun a5 f5 s5 => ?_)
  refine wp_nav rfl (l8_26 _ _ _ _ _ _ _ _ _ _ _ _ _ _ _ T p0 p1 p2 p3 p4 p5 p6 p8 p7 _ _ _ f5 s5 hB hP c6 fun a6 f6 s6 => ?_)
  refine wp_nav rfl (l8_27 _ _ _ _ _ _ _ _ _ _ _ _ _ _ _ _ _ f6 s6 fun a7 f7 s7 => ?_)
  refine wp_nav rfl (l8_28 _ _ _ _ _ _ _ _ _ _ _ _ _ _ _ _ _ f7 s7 fun a8 f8 s8 => ?_)
  refine wp_nav rfl (l8_29 _ _ _ _ _ _ _ _ _ _ _ _ _ _ _ T p0 p1 p2 p3 p4 p5 p6 p8 p7 _ _ _ f8 s8 hB hP c7 fun a9 f9 s9 => ?_)
  have rest : ∀ a10 n, Fr 375 a10 → Slots [(1, .slice na nn nn), (2, .slice ra rn rn), (3, .pointer (some ⟨pb, 0, none⟩)), (8, .bool ad), (9, .int .u32 l), (12, .int .u64 z), (13, .int .u64 o), (14, .int .u64 e), (15, .int .u64 p), (16, .bool q0), (17, .bool q1), (20, .pointer (some ⟨bs, 0, none⟩))] a10 → Code.wp Try.prog (dropC 31 (bodyC Try.f8)) (Fin8 w0) a10 (w.drewN n) := by
    intro a10 n f10 s10
    refine wp_nav rfl (l8_31 _ _ _ _ _ _ _ _ _ _ _ _ _ _ T p0 p1 p2 p3 p4 p5 p6 p8 p7 _ _ _ f10 s10 (hB.drewN n) (hP.drewN n) dn fun a11 f11 s11 => ?_)
    refine wp_nav rfl (wp_nav rfl (l8_32i _ _ _ _ _ _ _ _ _ _ _ _ _ _ _ _ _ f11 s11 fun a12 f12 s12 => ?_))
    refine wp_navB (id := 10) rfl ?_
    refine l8_loop6 _ _ _ _ _ _ _ _ _ _ _ _ _ _ rb T f g _ _ l2 hra (hB.drewN n) dn hc hd hl hg hff (fun a13 f13 s13 => ?_) _ f12 s12
    simp only [Exit.inBlock, Exit.then, if_true]
    refine wp_nav rfl (l8_33 _ _ _ _ _ _ _ _ _ _ _ _ _ _ T p0 p1 p2 p3 p4 p5 p6 p8 p7 _ _ _ f13 s13 (hB.drewN n) (hP.drewN n) mean fun a14 f14 s14 => ?_)
    refine wp_nav rfl (l8_34 _ _ _ _ _ _ _ _ _ _ _ _ _ _ T p0 p1 p2 p3 p4 p5 p6 p8 p7 _ _ _ f14 s14 (hB.drewN n) (hP.drewN n) rm sm fun a15 f15 s15 => ?_)
    exact l8_35 _ _ _ _ _ _ _ _ _ _ _ _ _ _ _ _ _ f15 s15 fun a16 f16 s16 => fin8 f16 s16 (hk0.drewN n)
  cases hp : p7 with
  | false =>
    refine wp_nav rfl (l8_30n _ _ _ _ _ _ _ _ _ _ _ _ _ _ T p0 p1 p2 p3 p4 p5 p6 p8 p7 _ _ _ f9 s9 hB hP hp (c8 hp) fun a10 f10 s10 => ?_)
    exact rest a10 0 f10 s10
  | true =>
    obtain ⟨d1, d2, d3⟩ := c9 hp
    refine wp_nav rfl (wp_nav rfl (l8_30h _ _ _ _ _ _ _ _ _ _ _ _ _ _ T p0 p1 p2 p3 p4 p5 p6 p8 p7 _ _ _ f9 s9 hB hP hp fun a10 f10 s10 => ?_))
    refine l8_c294 _ _ _ s10.2.2.2.2.2.2.2.2.2.2.2.2.1 ?_
    have s10' : Slots [(1, .slice na nn nn), (2, .slice ra rn rn), (3, .pointer (some ⟨pb, 0, none⟩)), (8, .bool ad), (9, .int .u32 l), (12, .int .u64 z), (13, .int .u64 o), (14, .int .u64 e), (15, .int .u64 p), (16, .bool q0), (17, .bool q1), (20, .pointer (some ⟨bs, 0, none⟩))] a10 := ⟨s10.1, s10.2.1, s10.2.2.1, s10.2.2.2.1, s10.2.2.2.2.1, s10.2.2.2.2.2.1, s10.2.2.2.2.2.2.1, s10.2.2.2.2.2.2.2.1, s10.2.2.2.2.2.2.2.2.1, s10.2.2.2.2.2.2.2.2.2.1, s10.2.2.2.2.2.2.2.2.2.2.1, s10.2.2.2.2.2.2.2.2.2.2.2.1, trivial⟩
    refine wp_nav rfl (l8_30a _ _ _ _ _ _ _ _ _ _ _ _ _ _ _ _ _ f10 s10' fun a11 f11 s11 => ?_)
    refine wp_nav rfl (l8_30b _ _ _ _ _ _ _ _ _ _ _ _ _ _ _ _ _ f11 s11 fun a12 f12 s12 => ?_)
    refine wp_nav rfl (l8_30c _ _ _ _ _ _ _ _ _ _ _ _ _ _ _ nv vb T p0 p1 p2 p3 p4 p5 p6 p8 p7 _ _ _ f12 s12 hB hP d1 d2 d3 fun a13 n f13 s13 => ?_)
    refine l8_c325 _ _ _ s13.2.2.2.2.2.2.2.2.2.2.2.2.1 ?_
    exact rest a13 n f13 ⟨s13.1, s13.2.1, s13.2.2.1, s13.2.2.2.1, s13.2.2.2.2.1, s13.2.2.2.2.2.1, s13.2.2.2.2.2.2.1, s13.2.2.2.2.2.2.2.1, s13.2.2.2.2.2.2.2.2.1, s13.2.2.2.2.2.2.2.2.2.1, s13.2.2.2.2.2.2.2.2.2.2.1, s13.2.2.2.2.2.2.2.2.2.2.2.1, trivial⟩

end Go.Proofs.Qxb6602526a
