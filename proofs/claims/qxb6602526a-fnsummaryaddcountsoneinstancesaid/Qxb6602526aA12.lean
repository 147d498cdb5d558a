import Derived.Test.Qxb6602526aA11
namespace Go.Proofs.Qxb6602526a
open Go.RowKit
set_option linter.unusedSimpArgs false
set_option linter.unusedVariables false

theorem l8_loop1 (na ra : Option Addr) (nn ncap rn rcap pb rb roff : Nat) (f : Nat → Int) (w : World) (Q : Exit → Act → World → Prop)
    (l2 : (rn : Int) ≤ 65536) (hra : 0 < rn → ra = some ⟨rb, roff, none⟩) (hc : ∀ k, k < rn → w.cell? ⟨rb, roff + k, none⟩ = some (.int .u64 (f k)))
    (hexit : ∀ a', (∀ k, k < rn → f k ≤ 1099511627776) → Fr 375 a' → Slots [(1, .slice na nn ncap), (2, .slice ra rn rcap), (3, .pointer (some ⟨pb, 0, none⟩))] a' → Q (.exit 0) a' w) (hret : ∀ a' w', Fr 375 a' → sl a' 6 = .bool true → Kept [] w w' → Q .ret a' w')
    (a : Act) (hfr : Fr 375 a) (hs : Slots [(1, .slice na nn ncap), (2, .slice ra rn rcap), (3, .pointer (some ⟨pb, 0, none⟩)), (7, .int .i64 0)] a) : Code.wp Try.prog (inC (tlC (nthC 4 (bodyC Try.f8)))) Q a w := by
  refine wp_navL rfl (wp_loop (fun a' w' => w' = w ∧ ∃ k : Nat, k ≤ rn ∧ (∀ i, i < k → f i ≤ 1099511627776) ∧ Fr 375 a' ∧ Slots [(1, .slice na nn ncap), (2, .slice ra rn rcap), (3, .pointer (some ⟨pb, 0, none⟩)), (7, .int .i64 (k : Nat))] a') (fun a' _ => rn - (intOf (sl a' 7)).toNat) ⟨rfl, 0, Nat.zero_le _, fun i hi => by omega, hfr, hs⟩ ?_)
  rintro a1 w1 ⟨rfl, k, hk, hle, fr, s1⟩
  have mu : (intOf (sl a1 7)).toNat = k := by
    have : sl a1 7 = .int .i64 (k : Nat) := s1.2.2.2.1
    rw [this]; simp only [intOf]; omega
  refine l8_4r _ _ _ _ _ _ _ k rb roff f a1 w1 _ fr s1 hk l2 hra (hc k) (fun a2 hlt hf fr2 s2 => ?_) (fun a2 hke fr2 s2 => hexit a2 (by subst hke; exact hle) fr2 s2) (fun a2 w2 f2 s2 k2 => hret a2 w2 f2 s2 k2)
  refine ⟨⟨rfl, k + 1, by omega, fun i hi => ?_, fr2, s2⟩, ?_⟩
  · by_cases e : i = k
    · subst e; exact hf
    · exact hle i (by omega)
  have mu2 : (intOf (sl a2 7)).toNat = k + 1 := by
    have : sl a2 7 = .int .i64 (k + 1 : Nat) := s2.2.2.2.1
    rw [this]; simp only [intOf]; omega
  rw [mu, mu2]; omega

theorem at6_keep {x : NodeC} {S : List Nat} {w w' : World} {b o : Nat} (h : x.at w b o) (hk : Kept S w w') (hb : b < w.heap.size) (hn : b ∉ S) : x.at w' b o := by
  obtain ⟨h0, h1, h2, h3, h4, h5⟩ := h
  have e : ∀ i, w'.cell? ⟨b, i, none⟩ = w.cell? ⟨b, i, none⟩ := fun i => hk.cell (p := ⟨b, i, none⟩) hb hn
  exact ⟨by rw [e]; exact h0, by rw [e]; exact h1, by rw [e]; exact h2, by rw [e]; exact h3, by rw [e]; exact h4, by rw [e]; exact h5⟩

theorem l8_loop2 (na ra : Option Addr) (nn ncap rn rcap pb nb noff : Nat) (nc : Nat → NodeC) (w : World) (Q : Exit → Act → World → Prop)
    (l1 : (nn : Int) ≤ 65536) (hna : 0 < nn → na = some ⟨nb, noff, none⟩) (hb : 0 < nn → nb < w.heap.size) (hc : ∀ k, k < nn → (nc k).at w nb (noff + k * 6))
    (hexit : ∀ a' w', (∀ i, i < nn → (nc i).fa = false → (nc i).hp = true → (nc i).pv ≤ 1) → Kept [] w w' → Fr 375 a' → Slots [(1, .slice na nn ncap), (2, .slice ra rn rcap), (3, .pointer (some ⟨pb, 0, none⟩)), (8, .bool (!anyTo (fun i => undecided (nc i).toD) nn)), (9, .int .u32 (lastTo (fun i => (nc i).toD) nn))] a' → Q (.exit 2) a' w') (hret : ∀ a' w', Fr 375 a' → sl a' 6 = .bool true → Kept [] w w' → Q .ret a' w')
    (a : Act) (hfr : Fr 375 a) (hs : Slots [(1, .slice na nn ncap), (2, .slice ra rn rcap), (3, .pointer (some ⟨pb, 0, none⟩)), (8, .bool true), (9, .int .u32 0), (10, .int .i64 (0 : Nat))] a) : Code.wp Try.prog (inC (tlC (nthC 7 (bodyC Try.f8)))) Q a w := by
  refine wp_navL rfl (wp_loop (fun a' w' => Kept [] w w' ∧ ∃ k : Nat, k ≤ nn ∧ (∀ i, i < k → (nc i).fa = false → (nc i).hp = true → (nc i).pv ≤ 1) ∧ Fr 375 a' ∧ Slots [(1, .slice na nn ncap), (2, .slice ra rn rcap), (3, .pointer (some ⟨pb, 0, none⟩)), (8, .bool (!anyTo (fun i => undecided (nc i).toD) k)), (9, .int .u32 (lastTo (fun i => (nc i).toD) k)), (10, .int .i64 (k : Nat))] a') (fun a' _ => nn - (intOf (sl a' 10)).toNat) ⟨Kept.refl _ _, 0, Nat.zero_le _, fun i hi => by omega, hfr, hs⟩ ?_)
  rintro a1 w1 ⟨kp, k, hk, hle, fr, s1⟩
  have mu : (intOf (sl a1 10)).toNat = k := by
    have : sl a1 10 = .int .i64 (k : Nat) := s1.2.2.2.2.2.1
    rw [this]; simp only [intOf]; omega
  refine l8_7r _ _ _ _ _ _ _ k nb noff (nc k) _ _ a1 w1 _ fr s1 hk l1 hna (fun hlt => at6_keep (hc k hlt) kp (hb (by omega)) (by simp)) (fun a2 w2 hlt hf fr2 s2 kp2 => ?_) (fun a2 hke fr2 s2 => ?_) (fun a2 w2 f2 s2 k2 => hret a2 w2 f2 s2 (kp.trans k2))
  · have e1 : (!anyTo (fun i => undecided (nc i).toD) (k + 1)) = (!anyTo (fun i => undecided (nc i).toD) k && !undecided (nc k).toD) := by simp [anyTo]
    have e2 : lastTo (fun i => (nc i).toD) (k + 1) = if !(nc k).toD.fa && (nc k).toD.ro.isSome && decide (lastTo (fun i => (nc i).toD) k < (nc k).toD.dv) then (nc k).toD.dv else lastTo (fun i => (nc i).toD) k := rfl
    refine ⟨⟨kp.trans kp2, k + 1, by omega, fun i hi => ?_, fr2, ?_⟩, ?_⟩
    · by_cases e : i = k
      · subst e; exact hf
      · exact hle i (by omega)
    · rw [e1, e2]; exact s2
    have mu2 : (intOf (sl a2 10)).toNat = k + 1 := by
      have : sl a2 10 = .int .i64 (k + 1 : Nat) := s2.2.2.2.2.2.1
      rw [this]; simp only [intOf]; omega
    rw [mu, mu2]; omega
  · subst hke
    exact hexit a2 w1 hle kp fr2 s2

theorem l8_loop3 (na ra : Option Addr) (nn rn pb nb : Nat) (ad : Bool) (l : Int) (nc : Nat → NodeC) (w : World) (Q : Exit → Act → World → Prop)
    (l1 : (nn : Int) ≤ 65536) (hna : 0 < nn → na = some ⟨nb, 0, none⟩) (hb : 0 < nn → nb < w.heap.size) (hc : ∀ k, k < nn → (nc k).at w nb (k * 6)) (hpv : ∀ i, i < nn → (nc i).fa = false → (nc i).hp = true → (nc i).pv = 0 ∨ (nc i).pv = 1)
    (hexit : ∀ a' w', Kept [] w w' → Fr 375 a' → Slots [(1, .slice na nn nn), (2, .slice ra rn rn), (3, .pointer (some ⟨pb, 0, none⟩)), (8, .bool ad), (9, .int .u32 l), (12, .int .u64 (cnt (fun i => (nc i).toD) (· == 1) nn)), (13, .int .u64 (cnt (fun i => (nc i).toD) (· == 2) nn)), (14, .int .u64 (cnt (fun i => (nc i).toD) (· == 3) nn)), (15, .int .u64 (cnt (fun i => (nc i).toD) isPend nn)), (16, .bool (anyTo (fun i => proposes 0 (nc i).toD) nn)), (17, .bool (anyTo (fun i => proposes 1 (nc i).toD) nn))] a' → Q (.exit 4) a' w')
    (a : Act) (hfr : Fr 375 a) (hs : Slots [(1, .slice na nn nn), (2, .slice ra rn rn), (3, .pointer (some ⟨pb, 0, none⟩)), (8, .bool ad), (9, .int .u32 l), (12, .int .u64 0), (13, .int .u64 0), (14, .int .u64 0), (15, .int .u64 0), (16, .bool false), (17, .bool false), (18, .int .i64 (0 : Nat))] a) : Code.wp Try.prog (inC (tlC (nthC 13 (bodyC Try.f8)))) Q a w := by
  refine wp_navL rfl (wp_loop (fun a' w' => Kept [] w w' ∧ ∃ k : Nat, k ≤ nn ∧ Fr 375 a' ∧ Slots [(1, .slice na nn nn), (2, .slice ra rn rn), (3, .pointer (some ⟨pb, 0, none⟩)), (8, .bool ad), (9, .int .u32 l), (12, .int .u64 (cnt (fun i => (nc i).toD) (· == 1) k)), (13, .int .u64 (cnt (fun i => (nc i).toD) (· == 2) k)), (14, .int .u64 (cnt (fun i => (nc i).toD) (· == 3) k)), (15, .int .u64 (cnt (fun i => (nc i).toD) isPend k)), (16, .bool (anyTo (fun i => proposes 0 (nc i).toD) k)), (17, .bool (anyTo (fun i => proposes 1 (nc i).toD) k)), (18, .int .i64 (k : Nat))] a') (fun a' _ => nn - (intOf (sl a' 18)).toNat) ⟨Kept.refl _ _, 0, Nat.zero_le _, hfr, hs⟩ ?_)
  rintro a1 w1 ⟨kp, k, hk, fr, s1⟩
  have mu : (intOf (sl a1 18)).toNat = k := by
    have : sl a1 18 = .int .i64 (k : Nat) := s1.2.2.2.2.2.2.2.2.2.2.2.1
    rw [this]; simp only [intOf]; omega
  have b1 := cnt_bd (fun i => (nc i).toD) (· == 1) k
  have b2 := cnt_bd (fun i => (nc i).toD) (· == 2) k
  have b3 := cnt_bd (fun i => (nc i).toD) (· == 3) k
  have b4 := cnt_bd (fun i => (nc i).toD) isPend k
  refine l8_13r _ _ _ _ _ _ _ k nb 0 (nc k) _ _ _ _ _ _ _ _ a1 w1 _ fr s1 hk l1 hna (fun hlt => by rw [Nat.zero_add]; exact at6_keep (hc k hlt) kp (hb (by omega)) (by simp)) (fun hlt => hpv k hlt) (by omega) (by omega) (by omega) (by omega) (fun a2 w2 hlt fr2 s2 kp2 => ?_) (fun a2 hke fr2 s2 => ?_)
  · refine ⟨⟨kp.trans kp2, k + 1, by omega, fr2, s2⟩, ?_⟩
    have mu2 : (intOf (sl a2 18)).toNat = k + 1 := by
      have : sl a2 18 = .int .i64 (k + 1 : Nat) := s2.2.2.2.2.2.2.2.2.2.2.2.1
      rw [this]; simp only [intOf]; omega
    rw [mu, mu2]; omega
  · subst hke
    exact hexit a2 w1 kp fr2 s2

theorem l8_loop4 (na ra : Option Addr) (nn rn pb bs : Nat) (ad : Bool) (l z o e p : Int) (q0 q1 : Bool) (rb : Nat) (Sm : SumS) (f : Nat → Int) (w : World) (Q : Exit → Act → World → Prop)
    (l2 : (rn : Int) ≤ 65536) (hra : 0 < rn → ra = some ⟨rb, 0, none⟩ ∧ IsB w rb (rowA (fun i => .int .u64 (f i)) rn) 31) (hB : IsB w bs Sm.arr 41) (hdn : Sm.drn = rn) (hD : IsB w Sm.drb (madeCells #[.int .u64 0] rn) 31) (n1 : bs ≠ Sm.drb) (n2 : 0 < rn → rb ≠ Sm.drb)
    (hexit : ∀ a' w', Kept [Sm.drb] w w' → IsB w' Sm.drb (rowA (fun i => .int .u64 (f i)) rn) 31 → Fr 375 a' → Slots [(1, .slice na nn nn), (2, .slice ra rn rn), (3, .pointer (some ⟨pb, 0, none⟩)), (8, .bool ad), (9, .int .u32 l), (12, .int .u64 z), (13, .int .u64 o), (14, .int .u64 e), (15, .int .u64 p), (16, .bool q0), (17, .bool q1), (20, .pointer (some ⟨bs, 0, none⟩))] a' → Q (.exit 6) a' w')
    (a : Act) (hfr : Fr 375 a) (hs : Slots [(1, .slice na nn nn), (2, .slice ra rn rn), (3, .pointer (some ⟨pb, 0, none⟩)), (8, .bool ad), (9, .int .u32 l), (12, .int .u64 z), (13, .int .u64 o), (14, .int .u64 e), (15, .int .u64 p), (16, .bool q0), (17, .bool q1), (20, .pointer (some ⟨bs, 0, none⟩)), (21, .int .i64 (0 : Nat))] a) : Code.wp Try.prog (inC (tlC (nthC 15 (bodyC Try.f8)))) Q a w := by
  rw [part_zero (fun i => .int .u64 (f i))] at hD
  refine wp_navL rfl (wp_loop (fun a' w' => ∃ k : Nat, k ≤ rn ∧ Kept [Sm.drb] w w' ∧ IsB w' Sm.drb (part (fun i => .int .u64 (f i)) (.int .u64 0) rn k) 31 ∧ Fr 375 a' ∧ Slots [(1, .slice na nn nn), (2, .slice ra rn rn), (3, .pointer (some ⟨pb, 0, none⟩)), (8, .bool ad), (9, .int .u32 l), (12, .int .u64 z), (13, .int .u64 o), (14, .int .u64 e), (15, .int .u64 p), (16, .bool q0), (17, .bool q1), (20, .pointer (some ⟨bs, 0, none⟩)), (21, .int .i64 (k : Nat))] a') (fun a' _ => rn - (intOf (sl a' 21)).toNat) ⟨0, Nat.zero_le _, Kept.refl _ _, hD, hfr, hs⟩ ?_)
  rintro a1 w1 ⟨k, hk, kp, hD1, fr, s1⟩
  have mu : (intOf (sl a1 21)).toNat = k := by
    have : sl a1 21 = .int .i64 (k : Nat) := s1.2.2.2.2.2.2.2.2.2.2.2.2.1
    rw [this]; simp only [intOf]; omega
  refine wp_nav rfl (l8_15h _ _ _ _ _ _ _ _ _ _ _ _ _ _ k a1 w1 _ fr s1 hk l2 (fun a2 hlt fr2 s2 => ?_) (fun a2 hke fr2 s2 => ?_))
  · obtain ⟨e1, e2⟩ := hra (by omega)
    have B1 := kp.isB hB (by simpa using n1)
    have R1 := kp.isB e2 (by simpa using n2 (by omega))
    refine wp_nav rfl (wp_navB (id := 7) rfl ?_)
    refine l8_15b _ _ _ _ _ _ _ _ _ _ _ _ _ _ k rb Sm f a2 w1 _ fr2 s2 hlt l2 e1 B1 hdn (by rw [R1.cell, rowA_at _ _ _ hlt]) hD1 (fun a3 w3 fr3 s3 kp3 hD3 => ?_)
    refine l8_15n _ _ _ _ _ _ _ _ _ _ _ _ _ _ k a3 w3 _ fr3 s3 (by omega) (fun a4 fr4 s4 => ?_)
    refine ⟨⟨k + 1, by omega, kp.trans kp3, hD3, fr4, s4⟩, ?_⟩
    have mu2 : (intOf (sl a4 21)).toNat = k + 1 := by
      have : sl a4 21 = .int .i64 (k + 1 : Nat) := s4.2.2.2.2.2.2.2.2.2.2.2.2.1
      rw [this]; simp only [intOf]; omega
    rw [mu, mu2]; omega
  · subst hke
    rw [part_full] at hD1
    exact hexit a2 w1 kp hD1 fr2 s2

theorem Led.keep {y : NodeD} {B : Nat} {w w' : World} {S : List Nat} (h : Led y B w) (hk : Kept S w w') (hS : ∀ k ∈ S, k < B) : Led y B w' := by
  intro hf
  obtain ⟨h1, ⟨b, h2, h3, h4⟩, h5⟩ := h hf
  have hn : ∀ b, B ≤ b → b ∉ S := fun b hb hm => by have := hS b hm; omega
  exact ⟨fun b hb => ⟨(h1 b hb).1, hk.isB (h1 b hb).2 (hn b (h1 b hb).1)⟩, ⟨b, h2, h3, hk.isB h4 (hn b h3)⟩, fun b hb => ⟨(h5 b hb).1, hk.isB (h5 b hb).2 (hn b (h5 b hb).1)⟩⟩
theorem Led.mono {y : NodeD} {B B' : Nat} {w : World} (h : Led y B w) (hB : B' ≤ B) : Led y B' w := by
  intro hf
  obtain ⟨h1, ⟨b, h2, h3, h4⟩, h5⟩ := h hf
  exact ⟨fun b hb => ⟨by have := (h1 b hb).1; omega, (h1 b hb).2⟩, ⟨b, h2, by omega, h4⟩, fun b hb => ⟨by have := (h5 b hb).1; omega, (h5 b hb).2⟩⟩

theorem l8_loop5 (na ra : Option Addr) (nn rn pb bs : Nat) (ad : Bool) (l z o e p : Int) (q0 q1 : Bool) (ib cb nb : Nat) (nc : Nat → NodeC) (p0 : Int) (w : World) (Q : Exit → Act → World → Prop)
    (l1 : (nn : Int) ≤ 65536) (hna : 0 < nn → na = some ⟨cb, 0, none⟩) (hcb : 0 < nn → cb < w.heap.size ∧ cb ≠ nb) (hc : ∀ k, k < nn → (nc k).at w cb (k * 6)) (hI : IsB w ib (instA p0 nb nn none none) 50) (hib : ib ≠ nb) (hN : ∃ c : Array Value, c.size = nn * 5 ∧ IsB w nb c 47)
    (hexit : ∀ (a' : Act) (w' : World) (N : Nat → NodeD), Kept [nb] w w' → (∀ i, i < nn → Stands (nc i) (N i) ∧ Led (N i) w.heap.size w' ∧ (N i).at w' nb (i * 5)) → Fr 375 a' → Slots [(1, .slice na nn nn), (2, .slice ra rn rn), (3, .pointer (some ⟨pb, 0, none⟩)), (8, .bool ad), (9, .int .u32 l), (12, .int .u64 z), (13, .int .u64 o), (14, .int .u64 e), (15, .int .u64 p), (16, .bool q0), (17, .bool q1), (20, .pointer (some ⟨bs, 0, none⟩)), (23, .pointer (some ⟨ib, 0, none⟩))] a' → Q (.exit 8) a' w')
    (a : Act) (hfr : Fr 375 a) (hs : Slots [(1, .slice na nn nn), (2, .slice ra rn rn), (3, .pointer (some ⟨pb, 0, none⟩)), (8, .bool ad), (9, .int .u32 l), (12, .int .u64 z), (13, .int .u64 o), (14, .int .u64 e), (15, .int .u64 p), (16, .bool q0), (17, .bool q1), (20, .pointer (some ⟨bs, 0, none⟩)), (23, .pointer (some ⟨ib, 0, none⟩)), (24, .int .i64 (0 : Nat))] a) : Code.wp Try.prog (inC (tlC (nthC 19 (bodyC Try.f8)))) Q a w := by
  have hnb : nb < w.heap.size := by obtain ⟨c, _, h⟩ := hN; exact h.lt
  refine wp_navL rfl (wp_loop (fun a' w' => ∃ k : Nat, k ≤ nn ∧ Kept [nb] w w' ∧ (∃ (c : Array Value) (N : Nat → NodeD), c.size = nn * 5 ∧ IsB w' nb c 47 ∧ ∀ i, i < k → Stands (nc i) (N i) ∧ Led (N i) w.heap.size w' ∧ (N i).at w' nb (i * 5)) ∧ Fr 375 a' ∧ Slots [(1, .slice na nn nn), (2, .slice ra rn rn), (3, .pointer (some ⟨pb, 0, none⟩)), (8, .bool ad), (9, .int .u32 l), (12, .int .u64 z), (13, .int .u64 o), (14, .int .u64 e), (15, .int .u64 p), (16, .bool q0), (17, .bool q1), (20, .pointer (some ⟨bs, 0, none⟩)), (23, .pointer (some ⟨ib, 0, none⟩)), (24, .int .i64 (k : Nat))] a') (fun a' _ => nn - (intOf (sl a' 24)).toNat) ?_ ?_)
  · obtain ⟨c, h1, h2⟩ := hN
    exact ⟨0, Nat.zero_le _, Kept.refl _ _, ⟨c, fun i => (nc i).toD, h1, h2, fun i hi => by omega⟩, hfr, hs⟩
  rintro a1 w1 ⟨k, hk, kp, ⟨c, N, hcs, hN1, hall⟩, fr, s1⟩
  have mu : (intOf (sl a1 24)).toNat = k := by
    have : sl a1 24 = .int .i64 (k : Nat) := s1.2.2.2.2.2.2.2.2.2.2.2.2.2.1
    rw [this]; simp only [intOf]; omega
  refine wp_nav rfl (l8_19h _ _ _ _ _ _ _ _ _ _ _ _ _ _ _ k a1 w1 _ fr s1 hk l1 (fun a2 hlt fr2 s2 => ?_) (fun a2 hke fr2 s2 => ?_))
  · obtain ⟨e1, e2⟩ := hcb (by omega)
    refine wp_nav rfl (wp_navB (id := 9) rfl ?_)
    refine l8_19b _ _ _ _ _ _ _ _ _ _ _ _ _ _ _ k cb nb (nc k) c p0 a2 w1 _ fr2 s2 hlt l1 (hna (by omega)) (at6_keep (hc k hlt) kp e1 (by simpa using e2)) (kp.isB hI (by simpa using hib)) hN1 hcs (fun a3 w3 y st led fr3 s3 kp3 hat hc3 => ?_)
    refine l8_19n _ _ _ _ _ _ _ _ _ _ _ _ _ _ _ k a3 w3 _ fr3 s3 (by omega) (fun a4 fr4 s4 => ?_)
    obtain ⟨c', hc1, hc2, hc4⟩ := hc3
    refine ⟨⟨k + 1, by omega, kp.trans kp3, ⟨c', fun i => if i = k then y else N i, hc1, hc2, fun i hi => ?_⟩, fr4, s4⟩, ?_⟩
    · by_cases e : i = k
      · subst e
        simp only [if_true]
        exact ⟨st, led.mono kp.size, hat⟩
      · simp only [if_neg e]
        obtain ⟨g1, g2, g3⟩ := hall i (by omega)
        refine ⟨g1, g2.keep kp3 (by simpa using hnb), ?_⟩
        obtain ⟨h0, h1, h2, h3, h4⟩ := g3
        have ee : ∀ j, j < k * 5 → w3.cell? ⟨nb, j, none⟩ = w1.cell? ⟨nb, j, none⟩ := fun j hj => by rw [hc2.cell, hN1.cell]; exact hc4 j hj
        exact ⟨by rw [ee _ (by omega)]; exact h0, by rw [ee _ (by omega)]; exact h1, by rw [ee _ (by omega)]; exact h2, by rw [ee _ (by omega)]; exact h3, by rw [ee _ (by omega)]; exact h4⟩
    have mu2 : (intOf (sl a4 24)).toNat = k + 1 := by
      have : sl a4 24 = .int .i64 (k + 1 : Nat) := s4.2.2.2.2.2.2.2.2.2.2.2.2.2.1
      rw [this]; simp only [intOf]; omega
    rw [mu, mu2]; omega
  · subst hke
    exact hexit a2 w1 N kp hall fr2 s2

end Go.Proofs.Qxb6602526a
