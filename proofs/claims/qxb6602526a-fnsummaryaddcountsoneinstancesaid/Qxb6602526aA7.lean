import Derived.Test.Qxb6602526aA6
namespace Go.Proofs.Qxb6602526a
open Go.RowKit
set_option linter.unusedSimpArgs false
set_option linter.unusedVariables false

theorem IsB.of {w : World} {b : Nat} {c : Array Value} {t : TypeId} (h : w.heap[b]? = some (.cells c t)) : IsB w b c t := h

set_option maxRecDepth 10000 in
set_option maxHeartbeats 1000000 in
/-- a round of the fifth loop -/
theorem l8_19b (na ra : Option Addr) (nn rn pb bs : Nat) (ad : Bool) (l z o e p : Int) (q0 q1 : Bool) (ib : Nat) (k cb nb : Nat) (x : NodeC) (c : Array Value) (p0 : Int) (a : Act) (w : World) (Q : Exit → Act → World → Prop) (hfr : Fr 375 a) (hs : Slots [(1, .slice na nn nn), (2, .slice ra rn rn), (3, .pointer (some ⟨pb, 0, none⟩)), (8, .bool ad), (9, .int .u32 l), (12, .int .u64 z), (13, .int .u64 o), (14, .int .u64 e), (15, .int .u64 p), (16, .bool q0), (17, .bool q1), (20, .pointer (some ⟨bs, 0, none⟩)), (23, .pointer (some ⟨ib, 0, none⟩)), (24, .int .i64 (k : Nat))] a)
    (hk : k < nn) (l1 : (nn : Int) ≤ 65536) (hna : na = some ⟨cb, 0, none⟩) (hc : x.at w cb (k * 6)) (hI : IsB w ib (instA p0 nb nn none none) 50) (hN : IsB w nb c 47) (hcs : c.size = nn * 5)
    (hQ : ∀ a' w' y, Stands x y → Led y w.heap.size w' → Fr 375 a' → Slots [(1, .slice na nn nn), (2, .slice ra rn rn), (3, .pointer (some ⟨pb, 0, none⟩)), (8, .bool ad), (9, .int .u32 l), (12, .int .u64 z), (13, .int .u64 o), (14, .int .u64 e), (15, .int .u64 p), (16, .bool q0), (17, .bool q1), (20, .pointer (some ⟨bs, 0, none⟩)), (23, .pointer (some ⟨ib, 0, none⟩)), (24, .int .i64 (k : Nat))] a' → Kept [nb] w w' → y.at w' nb (k * 5) → (∃ c', c'.size = nn * 5 ∧ IsB w' nb c' 47 ∧ ∀ i, i < k * 5 → c'[i]? = c[i]?) → Q .normal a' w') :
    Code.wp Try.prog (inC (hdC (tlC (inC (inC (tlC (nthC 19 (bodyC Try.f8)))))))) Q a w := by
  obtain ⟨u, hu, rfl⟩ := lay375 hfr
  obtain ⟨s1, s2, s3, s8, s9, s12, s13, s14, s15, s16, s17, s20, s23, s24, -⟩ := hs
  replace s1 : u 1 = .slice na nn nn := (hu 1).symm.trans s1
  replace s2 : u 2 = .slice ra rn rn := (hu 2).symm.trans s2
  replace s3 : u 3 = .pointer (some ⟨pb, 0, none⟩) := (hu 3).symm.trans s3
  replace s8 : u 8 = .bool ad := (hu 8).symm.trans s8
  replace s9 : u 9 = .int .u32 l := (hu 9).symm.trans s9
  replace s12 : u 12 = .int .u64 z := (hu 12).symm.trans s12
  replace s13 : u 13 = .int .u64 o := (hu 13).symm.trans s13
  replace s14 : u 14 = .int .u64 e := (hu 14).symm.trans s14
  replace s15 : u 15 = .int .u64 p := (hu 15).symm.trans s15
  replace s16 : u 16 = .bool q0 := (hu 16).symm.trans s16
  replace s17 : u 17 = .bool q1 := (hu 17).symm.trans s17
  replace s20 : u 20 = .pointer (some ⟨bs, 0, none⟩) := (hu 20).symm.trans s20
  replace s23 : u 23 = .pointer (some ⟨ib, 0, none⟩) := (hu 23).symm.trans s23
  replace s24 : u 24 = .int .i64 (k : Nat) := (hu 24).symm.trans s24
  rw [s1, s2, s3, s8, s9, s12, s13, s14, s15, s16, s17, s20, s23, s24]
  clear hfr hu s1 s2 s3 s8 s9 s12 s13 s14 s15 s16 s17 s20 s23 s24
  conv => arg 2; whnf
  subst hna
  obtain ⟨x0, x1, x2, x3, x4, x5⟩ := hc
  have i1 : w.cell? ⟨ib, 1, none⟩ = some (.slice (some ⟨nb, 0, none⟩) nn nn) := hI.cell 1
  have hbn := hN.lt
  have hbc : cb < w.heap.size := by
    rcases Nat.lt_or_ge cb w.heap.size with h | h
    · exact h
    · simp [World.cell?, Array.getElem?_eq_none h] at x0
  have hbi := hI.lt
  have hib1 : ib < w.heap.size + 1 := by omega
  have hib2 : ib < w.heap.size + 1 + 1 := by omega
  have hib3 : ib < w.heap.size + 1 + 1 + 1 := by omega
  have hib4 : ib < w.heap.size + 1 + 1 + 1 + 1 := by omega
  have hib5 : ib < w.heap.size + 1 + 1 + 1 + 1 + 1 := by omega
  have hnb1 : nb < w.heap.size + 1 := by omega
  have hnb2 : nb < w.heap.size + 1 + 1 := by omega
  have hnb3 : nb < w.heap.size + 1 + 1 + 1 := by omega
  have hnb4 : nb < w.heap.size + 1 + 1 + 1 + 1 := by omega
  have hnb5 : nb < w.heap.size + 1 + 1 + 1 + 1 + 1 := by omega
  have hex : ∀ j, j < 5 → ∃ v, w.cell? ⟨nb, k * 5 + j, none⟩ = some v := fun j hj => ⟨_, by rw [hN.cell]; exact Array.getElem?_eq_getElem (by omega)⟩
  obtain ⟨v0, y0⟩ := hex 0 (by omega)
  obtain ⟨v1, y1⟩ := hex 1 (by omega)
  obtain ⟨v2, y2⟩ := hex 2 (by omega)
  obtain ⟨v3, y3⟩ := hex 3 (by omega)
  obtain ⟨v4, y4⟩ := hex 4 (by omega)
  simp only [Nat.add_zero] at y0
  have z0 := hN.frozen (k * 5)
  have z1 := hN.frozen (k * 5 + 1)
  have z2 := hN.frozen (k * 5 + 2)
  have z3 := hN.frozen (k * 5 + 3)
  have z4 := hN.frozen (k * 5 + 4)
  have HN : Hid _ := hN
  have H : Hid _ := hQ
  clear hQ hI hN hex
  by_cases g0 : x.fa = true
  · rw [g0] at x0
    go_wp2
    obtain ⟨c', e1, e2, e3, d0, d1, d2, d3, d4⟩ := set5 (IsB.of HN.out) (.int .i64 (k : Int)) (.bool true) (.pointer (some ⟨w.heap.size + 1 + 1, 0, none⟩)) (.pointer none) (.pointer none) (o := k * 5) (by omega)
    refine H.out _ _ { nd := (k : Int), fa := true, pa := (some (w.heap.size + 1 + 1)), pv := x.pv, rs := none, rv := x.rv, ro := none, dv := x.rd } ⟨by simp [g0], by simp [g0], by simp [g0], by simp [g0], by simp [g0], by simp [g0]⟩ ?_ ⟨rfl, rfl⟩ ⟨rfl, rfl, rfl, rfl, rfl, rfl, rfl, rfl, rfl, rfl, rfl, rfl, rfl, rfl, trivial⟩ ?_ ?_ ⟨c', by omega, ?_, e3⟩
    · intro h; simp at h
    · exact Kept.alloc (Kept.alloc (Kept.alloc ((((((Kept.refl [nb] w).set _ (.inl (by simp))).set _ (.inl (by simp))).set _ (.inl (by simp))).set _ (.inl (by simp))).set _ (.inl (by simp))) _) _) _
    · refine ⟨?_, ?_, ?_, ?_, ?_⟩
      · exact (IsB.cell (IsB.alloc (IsB.alloc (IsB.alloc (e2) _) _) _) _).trans d0
      · exact (IsB.cell (IsB.alloc (IsB.alloc (IsB.alloc (e2) _) _) _) _).trans d1
      · exact (IsB.cell (IsB.alloc (IsB.alloc (IsB.alloc (e2) _) _) _) _).trans d2
      · exact (IsB.cell (IsB.alloc (IsB.alloc (IsB.alloc (e2) _) _) _) _).trans d3
      · exact (IsB.cell (IsB.alloc (IsB.alloc (IsB.alloc (e2) _) _) _) _).trans d4
    · exact IsB.alloc (IsB.alloc (IsB.alloc (e2) _) _) _
  · have g0 : x.fa = false := by simpa using g0
    rw [g0] at x0
    by_cases g1 : x.hp = true
    · rw [g1] at x1
      by_cases g2 : x.hr = true
      · rw [g2] at x4
        go_wp2
        obtain ⟨c', e1, e2, e3, d0, d1, d2, d3, d4⟩ := set5 (IsB.of HN.out) (.int .i64 (k : Int)) (.bool false) (.pointer (some ⟨w.heap.size + 1 + 1 + 1, 0, none⟩)) (.pointer (some ⟨w.heap.size + 1 + 1, 0, none⟩)) (.pointer (some ⟨w.heap.size + 1 + 1 + 1 + 1, 0, none⟩)) (o := k * 5) (by omega)
        refine H.out _ _ { nd := (k : Int), fa := false, pa := (some (w.heap.size + 1 + 1 + 1)), pv := x.pv, rs := (some (w.heap.size + 1 + 1)), rv := x.rv, ro := (some (w.heap.size + 1 + 1 + 1 + 1)), dv := x.rd } ⟨by simp [g0, g1, g2], by simp [g0, g1, g2], by simp [g0, g1, g2], by simp [g0, g1, g2], by simp [g0, g1, g2], by simp [g0, g1, g2]⟩ ?_ ⟨rfl, rfl⟩ ⟨rfl, rfl, rfl, rfl, rfl, rfl, rfl, rfl, rfl, rfl, rfl, rfl, rfl, rfl, trivial⟩ ?_ ?_ ⟨c', by omega, ?_, e3⟩
        · intro _
          refine ⟨fun b hb => ?_, ⟨w.heap.size + 1 + 1, rfl, by omega, ?_⟩, fun b hb => ?_⟩
          · cases hb; exact ⟨by omega, IsB.alloc (newB _ _ (by simp)) _⟩
          · exact IsB.alloc (IsB.alloc (newB _ _ (by simp)) _) _
          · cases hb; exact ⟨by omega, newB _ _ (by simp)⟩
        · exact Kept.alloc (Kept.alloc (Kept.alloc (Kept.alloc (Kept.alloc ((((((Kept.refl [nb] w).set _ (.inl (by simp))).set _ (.inl (by simp))).set _ (.inl (by simp))).set _ (.inl (by simp))).set _ (.inl (by simp))) _) _) _) _) _
        · refine ⟨?_, ?_, ?_, ?_, ?_⟩
          · exact (IsB.cell (IsB.alloc (IsB.alloc (IsB.alloc (IsB.alloc (IsB.alloc (e2) _) _) _) _) _) _).trans d0
          · exact (IsB.cell (IsB.alloc (IsB.alloc (IsB.alloc (IsB.alloc (IsB.alloc (e2) _) _) _) _) _) _).trans d1
          · exact (IsB.cell (IsB.alloc (IsB.alloc (IsB.alloc (IsB.alloc (IsB.alloc (e2) _) _) _) _) _) _).trans d2
          · exact (IsB.cell (IsB.alloc (IsB.alloc (IsB.alloc (IsB.alloc (IsB.alloc (e2) _) _) _) _) _) _).trans d3
          · exact (IsB.cell (IsB.alloc (IsB.alloc (IsB.alloc (IsB.alloc (IsB.alloc (e2) _) _) _) _) _) _).trans d4
        · exact IsB.alloc (IsB.alloc (IsB.alloc (IsB.alloc (IsB.alloc (e2) _) _) _) _) _
      · have g2 : x.hr = false := by simpa using g2
        rw [g2] at x4
        go_wp2
        obtain ⟨c', e1, e2, e3, d0, d1, d2, d3, d4⟩ := set5 (IsB.of HN.out) (.int .i64 (k : Int)) (.bool false) (.pointer (some ⟨w.heap.size + 1 + 1 + 1, 0, none⟩)) (.pointer (some ⟨w.heap.size + 1 + 1, 0, none⟩)) (.pointer none) (o := k * 5) (by omega)
        refine H.out _ _ { nd := (k : Int), fa := false, pa := (some (w.heap.size + 1 + 1 + 1)), pv := x.pv, rs := (some (w.heap.size + 1 + 1)), rv := x.rv, ro := none, dv := x.rd } ⟨by simp [g0, g1, g2], by simp [g0, g1, g2], by simp [g0, g1, g2], by simp [g0, g1, g2], by simp [g0, g1, g2], by simp [g0, g1, g2]⟩ ?_ ⟨rfl, rfl⟩ ⟨rfl, rfl, rfl, rfl, rfl, rfl, rfl, rfl, rfl, rfl, rfl, rfl, rfl, rfl, trivial⟩ ?_ ?_ ⟨c', by omega, ?_, e3⟩
        · intro _
          refine ⟨fun b hb => ?_, ⟨w.heap.size + 1 + 1, rfl, by omega, ?_⟩, fun b hb => ?_⟩
          · cases hb; exact ⟨by omega, newB _ _ (by simp)⟩
          · exact IsB.alloc (newB _ _ (by simp)) _
          · cases hb
        · exact Kept.alloc (Kept.alloc (Kept.alloc (Kept.alloc ((((((Kept.refl [nb] w).set _ (.inl (by simp))).set _ (.inl (by simp))).set _ (.inl (by simp))).set _ (.inl (by simp))).set _ (.inl (by simp))) _) _) _) _
        · refine ⟨?_, ?_, ?_, ?_, ?_⟩
          · exact (IsB.cell (IsB.alloc (IsB.alloc (IsB.alloc (IsB.alloc (e2) _) _) _) _) _).trans d0
          · exact (IsB.cell (IsB.alloc (IsB.alloc (IsB.alloc (IsB.alloc (e2) _) _) _) _) _).trans d1
          · exact (IsB.cell (IsB.alloc (IsB.alloc (IsB.alloc (IsB.alloc (e2) _) _) _) _) _).trans d2
          · exact (IsB.cell (IsB.alloc (IsB.alloc (IsB.alloc (IsB.alloc (e2) _) _) _) _) _).trans d3
          · exact (IsB.cell (IsB.alloc (IsB.alloc (IsB.alloc (IsB.alloc (e2) _) _) _) _) _).trans d4
        · exact IsB.alloc (IsB.alloc (IsB.alloc (IsB.alloc (e2) _) _) _) _
    · have g1 : x.hp = false := by simpa using g1
      rw [g1] at x1
      by_cases g2 : x.hr = true
      · rw [g2] at x4
        go_wp2
        obtain ⟨c', e1, e2, e3, d0, d1, d2, d3, d4⟩ := set5 (IsB.of HN.out) (.int .i64 (k : Int)) (.bool false) (.pointer none) (.pointer (some ⟨w.heap.size + 1 + 1, 0, none⟩)) (.pointer (some ⟨w.heap.size + 1 + 1 + 1, 0, none⟩)) (o := k * 5) (by omega)
        refine H.out _ _ { nd := (k : Int), fa := false, pa := none, pv := x.pv, rs := (some (w.heap.size + 1 + 1)), rv := x.rv, ro := (some (w.heap.size + 1 + 1 + 1)), dv := x.rd } ⟨by simp [g0, g1, g2], by simp [g0, g1, g2], by simp [g0, g1, g2], by simp [g0, g1, g2], by simp [g0, g1, g2], by simp [g0, g1, g2]⟩ ?_ ⟨rfl, rfl⟩ ⟨rfl, rfl, rfl, rfl, rfl, rfl, rfl, rfl, rfl, rfl, rfl, rfl, rfl, rfl, trivial⟩ ?_ ?_ ⟨c', by omega, ?_, e3⟩
        · intro _
          refine ⟨fun b hb => ?_, ⟨w.heap.size + 1 + 1, rfl, by omega, ?_⟩, fun b hb => ?_⟩
          · cases hb
          · exact IsB.alloc (newB _ _ (by simp)) _
          · cases hb; exact ⟨by omega, newB _ _ (by simp)⟩
        · exact Kept.alloc (Kept.alloc (Kept.alloc (Kept.alloc ((((((Kept.refl [nb] w).set _ (.inl (by simp))).set _ (.inl (by simp))).set _ (.inl (by simp))).set _ (.inl (by simp))).set _ (.inl (by simp))) _) _) _) _
        · refine ⟨?_, ?_, ?_, ?_, ?_⟩
          · exact (IsB.cell (IsB.alloc (IsB.alloc (IsB.alloc (IsB.alloc (e2) _) _) _) _) _).trans d0
          · exact (IsB.cell (IsB.alloc (IsB.alloc (IsB.alloc (IsB.alloc (e2) _) _) _) _) _).trans d1
          · exact (IsB.cell (IsB.alloc (IsB.alloc (IsB.alloc (IsB.alloc (e2) _) _) _) _) _).trans d2
          · exact (IsB.cell (IsB.alloc (IsB.alloc (IsB.alloc (IsB.alloc (e2) _) _) _) _) _).trans d3
          · exact (IsB.cell (IsB.alloc (IsB.alloc (IsB.alloc (IsB.alloc (e2) _) _) _) _) _).trans d4
        · exact IsB.alloc (IsB.alloc (IsB.alloc (IsB.alloc (e2) _) _) _) _
      · have g2 : x.hr = false := by simpa using g2
        rw [g2] at x4
        go_wp2
        obtain ⟨c', e1, e2, e3, d0, d1, d2, d3, d4⟩ := set5 (IsB.of HN.out) (.int .i64 (k : Int)) (.bool false) (.pointer none) (.pointer (some ⟨w.heap.size + 1 + 1, 0, none⟩)) (.pointer none) (o := k * 5) (by omega)
        refine H.out _ _ { nd := (k : Int), fa := false, pa := none, pv := x.pv, rs := (some (w.heap.size + 1 + 1)), rv := x.rv, ro := none, dv := x.rd } ⟨by simp [g0, g1, g2], by simp [g0, g1, g2], by simp [g0, g1, g2], by simp [g0, g1, g2], by simp [g0, g1, g2], by simp [g0, g1, g2]⟩ ?_ ⟨rfl, rfl⟩ ⟨rfl, rfl, rfl, rfl, rfl, rfl, rfl, rfl, rfl, rfl, rfl, rfl, rfl, rfl, trivial⟩ ?_ ?_ ⟨c', by omega, ?_, e3⟩
        · intro _
          refine ⟨fun b hb => ?_, ⟨w.heap.size + 1 + 1, rfl, by omega, ?_⟩, fun b hb => ?_⟩
          · cases hb
          · exact newB _ _ (by simp)
          · cases hb
        · exact Kept.alloc (Kept.alloc (Kept.alloc ((((((Kept.refl [nb] w).set _ (.inl (by simp))).set _ (.inl (by simp))).set _ (.inl (by simp))).set _ (.inl (by simp))).set _ (.inl (by simp))) _) _) _
        · refine ⟨?_, ?_, ?_, ?_, ?_⟩
          · exact (IsB.cell (IsB.alloc (IsB.alloc (IsB.alloc (e2) _) _) _) _).trans d0
          · exact (IsB.cell (IsB.alloc (IsB.alloc (IsB.alloc (e2) _) _) _) _).trans d1
          · exact (IsB.cell (IsB.alloc (IsB.alloc (IsB.alloc (e2) _) _) _) _).trans d2
          · exact (IsB.cell (IsB.alloc (IsB.alloc (IsB.alloc (e2) _) _) _) _).trans d3
          · exact (IsB.cell (IsB.alloc (IsB.alloc (IsB.alloc (e2) _) _) _) _).trans d4
        · exact IsB.alloc (IsB.alloc (IsB.alloc (e2) _) _) _

end Go.Proofs.Qxb6602526a
