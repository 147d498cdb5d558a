import Derived.Test.Qxb6602526aB7
import Derived.Test.Qxb6602526aCopy2
namespace Go.Proofs.Qxb6602526a
open Go.RowKit
set_option linter.unusedSimpArgs false
set_option linter.unusedVariables false

theorem l3_loop1 (m : Int) (x1 : Option Addr) (n1 c1 : Nat) (x2 : Option Addr) (n2 c2 : Nat) (x3 : Option Addr) (n3 c3 : Nat) (x4 : Option Addr) (n4 c4 : Nat) (x5 : Option Addr) (n5 c5 : Nat) (b off : Nat) (f : Nat → Int) (a : Act) (w : World) (Q : Exit → Act → World → Prop) (hfr : Fr 285 a) (hs : Slots [(0, .int .u32 m), (1, .slice x1 n1 c1), (2, .slice x2 n2 c2), (3, .slice x3 n3 c3), (4, .slice x4 n4 c4), (5, .slice x5 n5 c5), (13, .int .i64 n5), (14, .int .i64 (0 : Nat))] a)
    (l5 : (n5 : Int) ≤ 65536) (hx : 0 < n5 → x5 = some ⟨b, off, none⟩) (hc : ∀ k, k < n5 → w.cell? ⟨b, off + k, none⟩ = some (.int .u32 (f k)))
    (hexit : ∀ a', (∀ k, k < n5 → f k ≤ m) → Fr 285 a' → Slots [(0, .int .u32 m), (1, .slice x1 n1 c1), (2, .slice x2 n2 c2), (3, .slice x3 n3 c3), (4, .slice x4 n4 c4), (5, .slice x5 n5 c5), (13, .int .i64 n5)] a' → Q (.exit 0) a' w) (hret : ∀ a' w', Fr 285 a' → sl a' 12 = .bool true → Kept [] w w' → Q .ret a' w') :
    Code.wp Try.prog (inC (tlC (nthC 7 (bodyC Try.f3)))) Q a w := by
  refine wp_navL rfl (wp_loop (fun a' w' => w' = w ∧ ∃ k : Nat, k ≤ n5 ∧ (∀ i, i < k → f i ≤ m) ∧ Fr 285 a' ∧ Slots [(0, .int .u32 m), (1, .slice x1 n1 c1), (2, .slice x2 n2 c2), (3, .slice x3 n3 c3), (4, .slice x4 n4 c4), (5, .slice x5 n5 c5), (13, .int .i64 n5), (14, .int .i64 (k : Nat))] a') (fun a' _ => n5 - (intOf (sl a' 14)).toNat) ⟨rfl, 0, Nat.zero_le _, fun i hi => by omega, hfr, hs⟩ ?_)
  rintro a1 w1 ⟨rfl, k, hk, hle, fr, s1⟩
  have mu : (intOf (sl a1 14)).toNat = k := by
    have : sl a1 14 = .int .i64 (k : Nat) := s1.2.2.2.2.2.2.2.1
    rw [this]; simp only [intOf]; omega
  refine l3_7r _ _ _ _ _ _ _ _ _ _ _ _ _ _ _ _ k b off f a1 w1 _ fr s1 hk l5 hx (hc k) (fun a2 hlt hf fr2 s2 => ?_) (fun a2 hke fr2 s2 => hexit a2 (by subst hke; exact hle) fr2 s2) (fun a2 w2 f2 s2 k2 => hret a2 w2 f2 s2 k2)
  refine ⟨⟨rfl, k + 1, by omega, fun i hi => ?_, fr2, s2⟩, ?_⟩
  · by_cases e : i = k
    · subst e; exact hf
    · exact hle i (by omega)
  have mu2 : (intOf (sl a2 14)).toNat = k + 1 := by
    have : sl a2 14 = .int .i64 (k + 1 : Nat) := s2.2.2.2.2.2.2.2.1
    rw [this]; simp only [intOf]; omega
  rw [mu, mu2]; omega

theorem l3_loop3 (m K : Nat) (x1 x2 x3 x4 x5 : Option Addr) (bs : Nat) (cb b5 : Nat) (rd : Nat → Int) (a : Act) (w : World) (Q : Exit → Act → World → Prop) (hfr : Fr 285 a) (hs : Slots [(0, .int .u32 (m : Nat)), (1, .slice x1 K K), (2, .slice x2 K K), (3, .slice x3 K K), (4, .slice x4 K K), (5, .slice x5 K K), (13, .int .i64 (K : Nat)), (15, .pointer (some ⟨bs, 0, none⟩)), (24, .slice (some ⟨cb, 0, none⟩) m m), (25, .int .u64 0), (26, .int .u64 0), (27, .int .i64 (0 : Nat))] a)
    (hne : b5 ≠ cb) (lK : (K : Int) ≤ 65536) (lm : m ≤ 65536) (hx : 0 < K → x5 = some ⟨b5, 0, none⟩ ∧ b5 < w.heap.size) (hc : ∀ k, k < K → w.cell? ⟨b5, k, none⟩ = some (.int .u32 (rd k))) (hrd : ∀ i, i < K → 0 ≤ rd i ∧ rd i ≤ m)
    (hD : IsB w cb (rowA (fun i => .int .u64 (hist rd 0 i)) m) 31)
    (hexit : ∀ a' w', Kept [cb] w w' → IsB w' cb (rowA (fun i => .int .u64 (hist rd K i)) m) 31 → Fr 285 a' → Slots [(0, .int .u32 (m : Nat)), (1, .slice x1 K K), (2, .slice x2 K K), (3, .slice x3 K K), (4, .slice x4 K K), (5, .slice x5 K K), (13, .int .i64 (K : Nat)), (15, .pointer (some ⟨bs, 0, none⟩)), (24, .slice (some ⟨cb, 0, none⟩) m m), (25, .int .u64 (decN rd K)), (26, .int .u64 (totN rd K))] a' → Q (.exit 4) a' w') :
    Code.wp Try.prog (inC (tlC (nthC 21 (bodyC Try.f3)))) Q a w := by
  refine wp_navL rfl (wp_loop (fun a' w' => ∃ k : Nat, k ≤ K ∧ Kept [cb] w w' ∧ IsB w' cb (rowA (fun i => .int .u64 (hist rd k i)) m) 31 ∧ Fr 285 a' ∧ Slots [(0, .int .u32 (m : Nat)), (1, .slice x1 K K), (2, .slice x2 K K), (3, .slice x3 K K), (4, .slice x4 K K), (5, .slice x5 K K), (13, .int .i64 (K : Nat)), (15, .pointer (some ⟨bs, 0, none⟩)), (24, .slice (some ⟨cb, 0, none⟩) m m), (25, .int .u64 (decN rd k)), (26, .int .u64 (totN rd k)), (27, .int .i64 (k : Nat))] a') (fun a' _ => K - (intOf (sl a' 27)).toNat) ⟨0, Nat.zero_le _, Kept.refl _ _, hD, hfr, hs⟩ ?_)
  rintro a1 w1 ⟨k, hk, kp, D1, fr, s1⟩
  have mu : (intOf (sl a1 27)).toNat = k := by
    have : sl a1 27 = .int .i64 (k : Nat) := s1.2.2.2.2.2.2.2.2.2.2.2.1
    rw [this]; simp only [intOf]; omega
  have mu2 : ∀ a2, Slots [(0, .int .u32 (m : Nat)), (1, .slice x1 K K), (2, .slice x2 K K), (3, .slice x3 K K), (4, .slice x4 K K), (5, .slice x5 K K), (13, .int .i64 (K : Nat)), (15, .pointer (some ⟨bs, 0, none⟩)), (24, .slice (some ⟨cb, 0, none⟩) m m), (25, .int .u64 (decN rd (k + 1))), (26, .int .u64 (totN rd (k + 1))), (27, .int .i64 (k + 1 : Nat))] a2 → (intOf (sl a2 27)).toNat = k + 1 := fun a2 s2 => by
    have : sl a2 27 = .int .i64 (k + 1 : Nat) := s2.2.2.2.2.2.2.2.2.2.2.2.1
    rw [this]; simp only [intOf]; omega
  have db := decN_bd rd k
  have tb := totN_bd rd K (fun i hi => ⟨(hrd i hi).1, by have := (hrd i hi).2; omega⟩) k hk
  by_cases hlt0 : k < K
  · have hb := hrd k hlt0
    refine l3_21r _ _ _ _ _ _ _ _ cb k b5 (rd k) (decN rd k) (totN rd k) (hist rd k) a1 w1 _ fr s1 hne hk lK (fun h => (hx h).1) (fun h => by rw [kp.cell (p := ⟨b5, k, none⟩) (hx (by omega)).2 (by simpa using hne)]; exact hc k h) hb D1 (fun j _ => ⟨(hist_bd rd k j).1, by have := (hist_bd rd k j).2; omega⟩) lm (by omega) (by omega) (fun a2 hlt hz fr2 s2 => ?_) (fun a2 w2 j hlt hj hjm fr2 s2 kp2 D2 => ?_) (fun a2 hke fr2 s2 => by omega)
    · have e1 : decN rd (k + 1) = decN rd k := by rw [decN, if_pos hz]
      have e2 : totN rd (k + 1) = totN rd k := by rw [totN, hz]; simp
      rw [← e1, ← e2] at s2
      refine ⟨⟨k + 1, by omega, kp, by rw [hist_zero rd k hz]; exact D1, fr2, s2⟩, ?_⟩
      rw [mu, mu2 a2 s2]; omega
    · have e1 : decN rd (k + 1) = decN rd k + 1 := by rw [decN, if_neg (by omega)]
      have e2 : totN rd (k + 1) = totN rd k + ((j + 1 : Nat) : Int) := by rw [totN, hj]; rfl
      rw [← e1, ← e2] at s2
      refine ⟨⟨k + 1, by omega, kp.trans kp2, by rw [hist_one rd k j hj]; exact D2, fr2, s2⟩, ?_⟩
      rw [mu, mu2 a2 s2]; omega
  · obtain rfl : k = K := by omega
    refine l3_21r _ _ _ _ _ _ _ _ cb k b5 0 (decN rd k) (totN rd k) (hist rd k) a1 w1 _ fr s1 hne hk lK (fun h => (hx h).1) (fun h => by omega) (by omega) D1 (fun j _ => ⟨(hist_bd rd k j).1, by have := (hist_bd rd k j).2; omega⟩) lm (by omega) (by omega) (fun a2 hlt hz fr2 s2 => by omega) (fun a2 w2 j hlt hj hjm fr2 s2 kp2 D2 => by omega) (fun a2 hke fr2 s2 => hexit a2 w1 kp D1 fr2 s2)

theorem l3_loop4 (m K : Nat) (x1 x2 x3 x4 x5 : Option Addr) (bs : Nat) (cb : Nat) (d t : Int) (T : SumS) (h : Nat → Int) (a : Act) (w : World) (Q : Exit → Act → World → Prop) (hfr : Fr 285 a) (hs : Slots [(0, .int .u32 (m : Nat)), (1, .slice x1 K K), (2, .slice x2 K K), (3, .slice x3 K K), (4, .slice x4 K K), (5, .slice x5 K K), (13, .int .i64 (K : Nat)), (15, .pointer (some ⟨bs, 0, none⟩)), (24, .slice (some ⟨cb, 0, none⟩) m m), (25, .int .u64 d), (26, .int .u64 t), (28, .int .i64 (0 : Nat))] a)
    (lm : m ≤ 65536) (hB : IsB w bs T.arr 41) (hT : T.drn = m) (h1 : IsB w T.drb (rowA (fun i => .int .u64 (h i)) m) 31) (h2 : IsB w cb (rowA (fun i => .int .u64 (h i)) m) 31)
    (hexit : ∀ a' w', Kept [] w w' → Fr 285 a' → Slots [(0, .int .u32 (m : Nat)), (1, .slice x1 K K), (2, .slice x2 K K), (3, .slice x3 K K), (4, .slice x4 K K), (5, .slice x5 K K), (13, .int .i64 (K : Nat)), (15, .pointer (some ⟨bs, 0, none⟩)), (24, .slice (some ⟨cb, 0, none⟩) m m), (25, .int .u64 d), (26, .int .u64 t)] a' → Q (.exit 6) a' w') :
    Code.wp Try.prog (inC (tlC (nthC 23 (bodyC Try.f3)))) Q a w := by
  refine wp_navL rfl (wp_loop (fun a' w' => ∃ k : Nat, k ≤ m ∧ Kept [] w w' ∧ Fr 285 a' ∧ Slots [(0, .int .u32 (m : Nat)), (1, .slice x1 K K), (2, .slice x2 K K), (3, .slice x3 K K), (4, .slice x4 K K), (5, .slice x5 K K), (13, .int .i64 (K : Nat)), (15, .pointer (some ⟨bs, 0, none⟩)), (24, .slice (some ⟨cb, 0, none⟩) m m), (25, .int .u64 d), (26, .int .u64 t), (28, .int .i64 (k : Nat))] a') (fun a' _ => m - (intOf (sl a' 28)).toNat) ⟨0, Nat.zero_le _, Kept.refl _ _, hfr, hs⟩ ?_)
  rintro a1 w1 ⟨k, hk, kp, fr, s1⟩
  have mu : (intOf (sl a1 28)).toNat = k := by
    have : sl a1 28 = .int .i64 (k : Nat) := s1.2.2.2.2.2.2.2.2.2.2.2.1
    rw [this]; simp only [intOf]; omega
  refine wp_nav rfl (l3_23h _ _ _ _ _ _ _ _ _ _ _ k a1 w1 _ fr s1 hk lm (fun a2 hlt fr2 s2 => ?_) (fun a2 hke fr2 s2 => hexit a2 w1 kp fr2 s2))
  refine wp_nav rfl (wp_navB (id := 7) rfl ?_)
  refine l3_23b _ _ _ _ _ _ _ _ _ _ _ k T (h k) a2 w1 _ fr2 s2 hlt (kp.isB hB (by simp)) hT (by rw [(kp.isB h1 (by simp)).cell, rowA_at _ _ _ hlt]) (by rw [(kp.isB h2 (by simp)).cell, rowA_at _ _ _ hlt]) (fun a3 n fr3 s3 => ?_)
  refine l3_23n _ _ _ _ _ _ _ _ _ _ _ k a3 _ _ fr3 s3 (by omega) (fun a4 fr4 s4 => ?_)
  refine ⟨⟨k + 1, by omega, kp.drewN n, fr4, s4⟩, ?_⟩
  have mu2 : (intOf (sl a4 28)).toNat = k + 1 := by
    have : sl a4 28 = .int .i64 (k + 1 : Nat) := s4.2.2.2.2.2.2.2.2.2.2.2.1
    rw [this]; simp only [intOf]; omega
  rw [mu, mu2]; omega

theorem made_zero (m : Nat) (g : Nat → Value) (hg : ∀ i, g i = .int .u64 0) : madeCells #[.int .u64 0] m = rowA g m := by
  rw [part_zero (fun _ => .int .u64 0)]
  simp [part, rowA, hg]

/-- A slice that came in. -/
structure SlIn (na : Option Addr) (b off n cap : Nat) (w : World) : Prop where
  nil : na = none → n = 0 ∧ cap = 0
  ptr : 0 < n → na = some ⟨b, off, none⟩
  lt : 0 < n → b < w.heap.size
  len : n ≤ 9223372036854775807

def Fin3 (w0 : World) : Exit → Act → World → Prop := bodyPost Try.prog Try.f3 fun e w' => e = .returned (.bool true) ∧ Below w0.heap.size w0 w'
theorem fin3 {w0 w : World} {a : Act} (hf : Fr 285 a) (h : sl a 12 = .bool true) (hk : Kept [] w0 w) : Fin3 w0 .ret a w :=
  bodyPost_ret (results_tmp rfl _ _ _) hf.defers ⟨by rw [show a.tmps.getD 12 undef = .bool true from h], hk.below _ (Nat.le_refl _) (by simp)⟩

/-- Behind the copies. -/
theorem l3_tail (m K : Nat) (x1 x2 x3 x4 x5 : Option Addr) (c1 c2 c3 c4 c5 : Nat) (rd f1 f2 : Nat → Int) (n1 n2 : Nat → Bool) (a : Act) (w0 w : World) (kp0 : Kept [] w0 w) (hfr : Fr 285 a) (hs : Slots [(0, .int .u32 (m : Nat)), (1, .slice x1 K K), (2, .slice x2 K K), (3, .slice x3 K K), (4, .slice x4 K K), (5, .slice x5 K K), (13, .int .i64 (K : Nat))] a)
    (hR : RowsOK K x1 x2 x3 x4 x5 c1 c2 c3 c4 c5 rd f1 f2 n1 n2 w) (hK : (K : Int) ≤ 65536) (hm : m ≤ 65536) (hrd : ∀ i, i < K → 0 ≤ rd i ∧ rd i ≤ m) (hf1 : ∀ i, i < K → 0 ≤ f1 i) (hf2 : ∀ i, i < K → 0 ≤ f2 i) :
    Code.wp Try.prog (dropC 13 (bodyC Try.f3)) (Fin3 w0) a w := by
  refine wp_nav rfl (l3_13 _ _ _ _ _ _ _ _ _ _ hfr hs hm fun a1 w1 fr1 s1 k1 z1 B1 D1 => ?_)
  have R1 := hR.keep0 k1
  rw [made_zero m (fun i => .int .u64 (hist rd 0 i)) (fun i => rfl)] at D1
  have I1 : ScrI m (w.heap.size + 1) w.heap.size rd f1 f2 n1 n2 0 none none none w1 :=
    ⟨B1, D1, ⟨fun _ => rfl, fun h => absurd rfl h⟩, ⟨fun _ => rfl, fun _ => rfl, fun h => by omega⟩, ⟨fun _ => rfl, fun _ => rfl, fun h => by omega⟩⟩
  refine wp_nav rfl (wp_nav rfl (l3_14i _ _ _ _ _ _ _ _ _ _ _ fr1 s1 fun a2 fr2 s2 => ?_))
  refine wp_navB (id := 2) rfl ?_
  have hX : 0 < K → c1 ∉ [w.heap.size + 1, w.heap.size] ∧ c2 ∉ [w.heap.size + 1, w.heap.size] ∧ c3 ∉ [w.heap.size + 1, w.heap.size] ∧ c4 ∉ [w.heap.size + 1, w.heap.size] ∧ c5 ∉ [w.heap.size + 1, w.heap.size] := fun h0 => by
    have := (hR.p1 h0).2; have := (hR.p2 h0).2; have := (hR.p3 h0).2; have := (hR.p4 h0).2; have := (hR.p5 h0).2
    simp; omega
  refine l3_loop2 _ _ _ _ _ _ _ _ w.heap.size c1 c2 c3 c4 c5 rd f1 f2 n1 n2 a2 w1 _ fr2 s2 R1 hX I1 (by omega) hK hm hrd hf1 hf2 (fun a3 w3 mn rp sp k3 I3 fr3 s3 => ?_)
  simp only [Exit.inBlock, Exit.then, if_true]
  have R3 := R1.keep k3 hX
  have k03 : Kept [] w0 w3 := (kp0.trans k1).fresh k3 (by simp; have := kp0.size; omega)
  have g3 := k3.size
  obtain ⟨B3, D3, mean, max1, max2⟩ := I3
  refine wp_nav rfl (l3_15 _ _ _ _ _ _ _ _ (sumK m K mn w.heap.size rp sp) _ _ _ fr3 s3 B3 hK rfl rfl fun a4 fr4 s4 => ?_)
  refine wp_nav rfl (l3_16 _ _ _ _ _ _ _ _ (sumK m K mn w.heap.size rp sp) _ _ _ fr4 s4 B3 rfl rfl rfl fun a5 fr5 s5 => ?_)
  refine wp_nav rfl (l3_17 _ _ _ _ _ _ _ _ (sumK m K mn w.heap.size rp sp) _ _ _ fr5 s5 B3 (maxM rp x1 x2 K c1 c2 f1 n1 w3 hK (fun h => (R3.p1 h).1) (fun h => (R3.p2 h).1) R3.r1 R3.r2 max1.ok) fun a6 fr6 s6 => ?_)
  refine wp_nav rfl (l3_18 _ _ _ _ _ _ _ _ (sumK m K mn w.heap.size rp sp) _ _ _ fr6 s6 B3 (maxM sp x3 x4 K c3 c4 f2 n2 w3 hK (fun h => (R3.p3 h).1) (fun h => (R3.p4 h).1) R3.r3 R3.r4 max2.ok) fun a7 fr7 s7 => ?_)
  refine wp_nav rfl (l3_19 _ _ _ _ _ _ _ _ _ _ _ fr7 s7 hm fun a8 fr8 s8 => ?_)
  have k8 : Kept [] w3 (w3.alloc (.cells (madeCells #[.int .u64 0] m) 31)) := (Kept.refl _ _).alloc _
  have C8 := IsB.new w3 (madeCells #[.int .u64 0] m) 31
  generalize w3.alloc (.cells (madeCells #[.int .u64 0] m) 31) = w8 at *
  rw [made_zero m (fun i => .int .u64 (hist rd 0 i)) (fun i => rfl)] at C8
  have R8 := R3.keep0 k8
  have B8 := k8.isB B3 (by simp)
  have D8 := k8.isB D3 (by simp)
  have M8 := mean.keep (Kept.up k8)
  refine wp_nav rfl (l3_20 _ _ _ _ _ _ _ _ _ _ _ _ fr8 s8 fun a9 fr9 s9 => ?_)
  refine wp_nav rfl (wp_nav rfl (l3_21i _ _ _ _ _ _ _ _ _ _ _ _ fr9 s9 fun a10 fr10 s10 => ?_))
  refine wp_navB (id := 4) rfl ?_
  -- the block of the rounds' copy (any other, should there be none)
  obtain ⟨b5, hb5, hb5x, hb5r⟩ : ∃ b5, b5 ≠ w3.heap.size ∧ (0 < K → x5 = some ⟨b5, 0, none⟩ ∧ b5 < w8.heap.size) ∧ ∀ k, k < K → w8.cell? ⟨b5, k, none⟩ = some (.int .u32 (rd k)) := by
    by_cases h0 : 0 < K
    · exact ⟨c5, by have := (R3.p5 h0).2; omega, R8.p5, R8.r5⟩
    · exact ⟨w3.heap.size + 1, by omega, fun h => absurd h h0, fun k hk => by omega⟩
  refine l3_loop3 _ _ _ _ _ _ _ _ w3.heap.size b5 rd a10 w8 _ fr10 s10 hb5 hK hm hb5x hb5r hrd C8 (fun a11 w11 k11 C11 fr11 s11 => ?_)
  simp only [Exit.inBlock, Exit.then, if_true]
  have hbl := B3.lt
  have hdl := D3.lt
  have B11 := k11.isB B8 (by simp; omega)
  have D11 := k11.isB D8 (by simp; omega)
  have k011 : Kept [] w0 w11 := (k03.trans k8).fresh k11 (by simp; exact k03.size)
  refine wp_nav rfl (l3_22 _ _ _ _ _ _ _ _ _ _ _ (sumK m K mn w.heap.size rp sp) _ _ _ fr11 s11 B11 hm rfl fun a12 fr12 s12 => ?_)
  refine wp_nav rfl (wp_nav rfl (l3_23i _ _ _ _ _ _ _ _ _ _ _ _ _ _ fr12 s12 fun a13 fr13 s13 => ?_))
  refine wp_navB (id := 6) rfl ?_
  refine l3_loop4 _ _ _ _ _ _ _ _ _ _ _ (sumK m K mn w.heap.size rp sp) (hist rd K) a13 w11 _ fr13 s13 hm B11 rfl D11 C11 (fun a14 w14 k14 fr14 s14 => ?_)
  simp only [Exit.inBlock, Exit.then, if_true]
  have B14 := k14.isB B11 (by simp)
  have k014 := k011.trans k14
  have db := decN_bd rd K
  have tb := totN_bd rd K (fun i hi => ⟨(hrd i hi).1, by have := (hrd i hi).2; omega⟩) K (Nat.le_refl _)
  refine wp_nav rfl (l3_24 _ _ _ _ _ _ _ _ _ _ _ (sumK m K mn w.heap.size rp sp) _ _ _ fr14 s14 B14 mean.1 (fun a' f' s' => fin3 f' s' k014) fun a15 hd fr15 s15 => ?_)
  obtain ⟨mb, emn, hmb, HM⟩ := M8.2 hd
  have hml : mb ≠ w3.heap.size := by
    obtain ⟨mb', emn', _, HM'⟩ := mean.2 hd
    rw [emn] at emn'
    cases emn'
    have := HM'.lt
    omega
  have M14 := k14.isB (k11.isB HM (by simpa using hml)) (by simp)
  refine wp_nav rfl (l3_25 _ _ _ _ _ _ _ _ _ _ _ (sumK m K mn w.heap.size rp sp) mb _ _ _ fr15 s15 B14 emn fun a16 fr16 s16 => ?_)
  exact l3_26 _ _ _ _ _ _ _ _ _ _ _ (sumK m K mn w.heap.size rp sp) mb _ _ _ fr16 s16 B14 emn M14 (by omega) (by omega) fun a' f' s' => fin3 f' s' k014

end Go.Proofs.Qxb6602526a
