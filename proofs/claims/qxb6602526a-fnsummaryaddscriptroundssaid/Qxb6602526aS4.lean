import Derived.Test.Qxb6602526aS2
import Derived.Test.Qxb6602526aS3
import Derived.Test.Qxb6602526aNav
namespace Go.Proofs.Qxb6602526a
open Go.RowKit
set_option linter.unusedSimpArgs false
set_option linter.unusedVariables false

/-- The frame of 'add' inside its loop. -/
structure AddF (bs bp br bn nn bx : Nat) (l : Int) (ad er : Bool) (k : Nat) (a : Act) : Prop where
  fr : Fr 213 a
  s0 : sl a 0 = .pointer (some ⟨bs, 0, none⟩)
  s5 : sl a 5 = .pointer (some ⟨bp, 0, none⟩)
  s6 : sl a 6 = .pointer (some ⟨br, 0, none⟩)
  s7 : sl a 7 = .int .u32 l
  s8 : sl a 8 = .bool ad
  s9 : sl a 9 = .bool er
  s11 : sl a 11 = .pointer (some ⟨bx, 0, none⟩)
  s53 : sl a 53 = .slice (some ⟨bn, 0, none⟩) nn nn
  s54 : sl a 54 = .int .i64 nn
  s55 : sl a 55 = .int .i64 k

set_option maxRecDepth 10000 in
set_option maxHeartbeats 1000000 in
/-- Fragment: the proposal of a node. -/
theorem add_prop (bs bp br bn nn bx : Nat) (l : Int) (ad er : Bool) (k : Nat) (x : NodeD) (p0 p1 : Bool) (a : Act) (w : World) (Q : Exit → Act → World → Prop)
    (hf : AddF bs bp br bn nn bx l ad er k a) (hfa : x.fa = false) (hc : w.cell? ⟨bx, 2, none⟩ = some (.pointer (x.pa.map ptr)))
    (hp : ∀ b, x.pa = some b → w.cell? ⟨b, 0, none⟩ = some (.int .u8 x.pv) ∧ (x.pv = 0 ∨ x.pv = 1)) (hB : IsB w bp (two p0 p1) 97)
    (hQ : ∀ a' w', AddF bs bp br bn nn bx l ad er k a' → Kept [bp] w w' → w'.heap.size = w.heap.size → IsB w' bp (two (p0 || proposes 0 x) (p1 || proposes 1 x)) 97 → Q .normal a' w') :
    Code.wp Try.prog (nthC 2 (inC (hdC (dropC 2 (inC (inC (tlC (nthC 8 (bodyC Try.f34))))))))) Q a w := by
  obtain ⟨fr, s0, s5, s6, s7, s8, s9, s11, s53, s54, s55⟩ := hf
  obtain ⟨u, hu, rfl⟩ := lay213 fr
  rw [hu] at s0 s5 s6 s7 s8 s9 s11 s53 s54 s55
  rw [s0, s5, s6, s7, s8, s9, s11, s53, s54, s55]
  clear fr hu s0 s5 s6 s7 s8 s9 s11 s53 s54 s55
  conv => arg 2; whnf
  cases hpa : x.pa with
  | none =>
    rw [hpa] at hc
    simp only [Option.map_none] at hc
    have H : Hid _ := hQ
    clear hQ
    go_wp2
    refine H.out _ _ ⟨⟨rfl, rfl⟩, rfl, rfl, rfl, rfl, rfl, rfl, rfl, rfl, rfl, rfl⟩ (Kept.refl _ _) rfl ?_
    simp [proposes, hpa]; exact hB
  | some b =>
    rw [hpa] at hc
    obtain ⟨hb, hv⟩ := hp b hpa
    simp only [Option.map_some, ptr] at hc
    have c0 : w.cell? ⟨bp, 0, none⟩ = some (.bool p0) := hB.cell 0
    have c1 : w.cell? ⟨bp, 1, none⟩ = some (.bool p1) := hB.cell 1
    have f0 := hB.frozen 0
    have f1 := hB.frozen 1
    have H : Hid _ := hQ
    clear hQ hp
    rcases hv with hv | hv
    · rw [hv] at hb
      go_wp2
      refine H.out _ _ ⟨⟨rfl, rfl⟩, rfl, rfl, rfl, rfl, rfl, rfl, rfl, rfl, rfl, rfl⟩ ((Kept.refl _ _).set _ (.inl (by simp))) (by simp) ?_
      simp [proposes, hpa, hv, hfa]; exact hB.set 0 _
    · rw [hv] at hb
      go_wp2
      refine H.out _ _ ⟨⟨rfl, rfl⟩, rfl, rfl, rfl, rfl, rfl, rfl, rfl, rfl, rfl, rfl⟩ ((Kept.refl _ _).set _ (.inl (by simp))) (by simp) ?_
      simp [proposes, hpa, hv, hfa]; exact hB.set 1 _
set_option maxRecDepth 10000 in
set_option maxHeartbeats 1000000 in
/-- Fragment: the round of a node. -/
theorem add_round (bs bp br bn nn bx : Nat) (l : Int) (ad er : Bool) (k : Nat) (x : NodeD) (a : Act) (w : World) (Q : Exit → Act → World → Prop)
    (hf : AddF bs bp br bn nn bx l ad er k a) (hfa : x.fa = false) (hc : w.cell? ⟨bx, 4, none⟩ = some (.pointer (x.ro.map ptr)))
    (hp : ∀ b, x.ro = some b → w.cell? ⟨b, 0, none⟩ = some (.int .u32 x.dv))
    (hQ : ∀ a', AddF bs bp br bn nn bx (if !x.fa && x.ro.isSome && decide (l < x.dv) then x.dv else l) (ad && !undecided x) er k a' → Q .normal a' w) :
    Code.wp Try.prog (nthC 3 (inC (hdC (dropC 2 (inC (inC (tlC (nthC 8 (bodyC Try.f34))))))))) Q a w := by
  obtain ⟨fr, s0, s5, s6, s7, s8, s9, s11, s53, s54, s55⟩ := hf
  obtain ⟨u, hu, rfl⟩ := lay213 fr
  rw [hu] at s0 s5 s6 s7 s8 s9 s11 s53 s54 s55
  rw [s0, s5, s6, s7, s8, s9, s11, s53, s54, s55]
  clear fr hu s0 s5 s6 s7 s8 s9 s11 s53 s54 s55
  conv => arg 2; whnf
  cases hro : x.ro with
  | none =>
    have e1 : (if !x.fa && x.ro.isSome && decide (l < x.dv) then x.dv else l) = l := by simp [hro]
    have e2 : (ad && !undecided x) = false := by simp [undecided, hfa, hro]
    rw [e1, e2] at hQ
    rw [hro] at hc
    simp only [Option.map_none] at hc
    have H : Hid _ := hQ
    clear hQ hp e1 e2
    go_wp2
    exact H.out _ ⟨⟨rfl, rfl⟩, rfl, rfl, rfl, rfl, rfl, rfl, rfl, rfl, rfl, rfl⟩
  | some b =>
    have e2 : (ad && !undecided x) = ad := by simp [undecided, hfa, hro]
    rw [e2] at hQ
    rw [hro] at hc
    have hb := hp b hro
    simp only [Option.map_some, ptr] at hc
    by_cases hlt : l < x.dv
    · have e1 : (if !x.fa && x.ro.isSome && decide (l < x.dv) then x.dv else l) = x.dv := by simp [hro, hfa, hlt]
      rw [e1] at hQ
      have H : Hid _ := hQ
      clear hQ hp e1 e2
      go_wp2
      exact H.out _ ⟨⟨rfl, rfl⟩, rfl, rfl, rfl, rfl, rfl, rfl, rfl, rfl, rfl, rfl⟩
    · have e1 : (if !x.fa && x.ro.isSome && decide (l < x.dv) then x.dv else l) = l := by simp [hlt]
      rw [e1] at hQ
      have H : Hid _ := hQ
      clear hQ hp e1 e2
      go_wp2
      exact H.out _ ⟨⟨rfl, rfl⟩, rfl, rfl, rfl, rfl, rfl, rfl, rfl, rfl, rfl, rfl⟩

set_option maxRecDepth 10000 in
set_option maxHeartbeats 1000000 in
/-- Fragment: the result of a node, counted. -/
theorem add_result (s : SumS) (N : Nat → NodeD) (bs bp br bn nn bx rb : Nat) (l : Int) (ad er : Bool) (k : Nat) (a : Act) (w : World) (Q : Exit → Act → World → Prop)
    (hf : AddF bs bp br bn nn bx l ad er k a) (hfa : (N k).fa = false) (hc : w.cell? ⟨bx, 3, none⟩ = some (.pointer (some ⟨rb, 0, none⟩)))
    (hr : w.cell? ⟨rb, 0, none⟩ = some (.int .u8 (N k).rv)) (hB : IsB w bs (s.after N k).arr 41)
    (hQ : ∀ a' w', AddF bs bp br bn nn bx l ad (er || reports 3 (N k)) k a' → Kept [bs] w w' → w'.heap.size = w.heap.size → IsB w' bs (s.after N (k + 1)).arr 41 → Q .normal a' w') :
    Code.wp Try.prog (nthC 4 (inC (hdC (dropC 2 (inC (inC (tlC (nthC 8 (bodyC Try.f34))))))))) Q a w := by
  obtain ⟨fr, s0, s5, s6, s7, s8, s9, s11, s53, s54, s55⟩ := hf
  obtain ⟨u, hu, rfl⟩ := lay213 fr
  rw [hu] at s0 s5 s6 s7 s8 s9 s11 s53 s54 s55
  rw [s0, s5, s6, s7, s8, s9, s11, s53, s54, s55]
  clear fr hu s0 s5 s6 s7 s8 s9 s11 s53 s54 s55
  conv => arg 2; whnf
  have c6 : w.cell? ⟨bs, 6, none⟩ = some (.int .u64 (s.after N k).zero) := hB.cell 6
  have c7 : w.cell? ⟨bs, 7, none⟩ = some (.int .u64 (s.after N k).one) := hB.cell 7
  have c8 : w.cell? ⟨bs, 8, none⟩ = some (.int .u64 (s.after N k).err) := hB.cell 8
  have c9 : w.cell? ⟨bs, 9, none⟩ = some (.int .u64 (s.after N k).pend) := hB.cell 9
  have f6 := hB.frozen 6
  have f7 := hB.frozen 7
  have f8 := hB.frozen 8
  have f9 := hB.frozen 9
  have H : Hid _ := hQ
  clear hQ
  have a1 := after_zero s N k hfa
  have a2 := after_one s N k hfa
  have a3 := after_err s N k hfa
  have a4 := after_pend s N k hfa
  have A1 : Hid _ := a1
  have A2 : Hid _ := a2
  have A3 : Hid _ := a3
  have A4 : Hid _ := a4
  have HB : Hid _ := hB
  have hrep : reports 3 (N k) = ((N k).rv == 3) := by simp [reports, hfa]
  rw [hrep] at H
  clear a1 a2 a3 a4 hB hfa hrep
  generalize s.after N k = S0 at *
  generalize (N k).rv = r at *
  by_cases h1 : r = 1
  · subst h1
    have A' : Hid _ := A1.out rfl
    clear A1 A2 A3 A4
    go_wp2
    refine H.out _ _ ⟨⟨rfl, rfl⟩, rfl, rfl, rfl, rfl, rfl, by cases er <;> rfl, rfl, rfl, rfl, rfl⟩ ((Kept.refl _ _).set _ (.inl (by simp))) (by simp) ?_
    rw [← A'.out]; exact IsB.set HB.out 6 _
  by_cases h2 : r = 2
  · subst h2
    have A' : Hid _ := A2.out rfl
    clear A1 A2 A3 A4
    go_wp2
    refine H.out _ _ ⟨⟨rfl, rfl⟩, rfl, rfl, rfl, rfl, rfl, by cases er <;> rfl, rfl, rfl, rfl, rfl⟩ ((Kept.refl _ _).set _ (.inl (by simp))) (by simp) ?_
    rw [← A'.out]; exact IsB.set HB.out 7 _
  by_cases h3 : r = 3
  · subst h3
    have A' : Hid _ := A3.out rfl
    clear A1 A2 A3 A4
    go_wp2
    refine H.out _ _ ⟨⟨rfl, rfl⟩, rfl, rfl, rfl, rfl, rfl, by cases er <;> rfl, rfl, rfl, rfl, rfl⟩ ((Kept.refl _ _).set _ (.inl (by simp))) (by simp) ?_
    rw [← A'.out]; exact IsB.set HB.out 8 _
  · have g1 : (r == 1) = false := by simpa using h1
    have g2 : (r == 2) = false := by simpa using h2
    have g3 : (r == 3) = false := by simpa using h3
    rw [g3] at H
    have A4' : Hid _ := A4.out h1 h2 h3
    clear A1 A2 A3 A4 h1 h2 h3
    go_wp2
    refine H.out _ _ ⟨⟨rfl, rfl⟩, rfl, rfl, rfl, rfl, rfl, by cases er <;> rfl, rfl, rfl, rfl, rfl⟩ ((Kept.refl _ _).set _ (.inl (by simp))) (by simp) ?_
    rw [← A4'.out]; exact IsB.set HB.out 9 _

set_option maxRecDepth 10000 in
set_option maxHeartbeats 1000000 in
/-- Fragment: the bit that a node reports. -/
theorem add_report (bs bp br bn nn bx rb : Nat) (l : Int) (ad er : Bool) (k : Nat) (x : NodeD) (r0 r1 : Bool) (a : Act) (w : World) (Q : Exit → Act → World → Prop)
    (hf : AddF bs bp br bn nn bx l ad er k a) (hfa : x.fa = false) (hc : w.cell? ⟨bx, 3, none⟩ = some (.pointer (some ⟨rb, 0, none⟩)))
    (hr : w.cell? ⟨rb, 0, none⟩ = some (.int .u8 x.rv)) (hB : IsB w br (two r0 r1) 97)
    (hQ : ∀ a' w', AddF bs bp br bn nn bx l ad er k a' → Kept [br] w w' → w'.heap.size = w.heap.size → IsB w' br (two (r0 || reports 1 x) (r1 || reports 2 x)) 97 → Q .normal a' w') :
    Code.wp Try.prog (dropC 5 (inC (hdC (dropC 2 (inC (inC (tlC (nthC 8 (bodyC Try.f34))))))))) Q a w := by
  obtain ⟨fr, s0, s5, s6, s7, s8, s9, s11, s53, s54, s55⟩ := hf
  obtain ⟨u, hu, rfl⟩ := lay213 fr
  rw [hu] at s0 s5 s6 s7 s8 s9 s11 s53 s54 s55
  rw [s0, s5, s6, s7, s8, s9, s11, s53, s54, s55]
  clear fr hu s0 s5 s6 s7 s8 s9 s11 s53 s54 s55
  conv => arg 2; whnf
  have c0 : w.cell? ⟨br, 0, none⟩ = some (.bool r0) := hB.cell 0
  have c1 : w.cell? ⟨br, 1, none⟩ = some (.bool r1) := hB.cell 1
  have f0 := hB.frozen 0
  have f1 := hB.frozen 1
  have H : Hid _ := hQ
  clear hQ
  by_cases h1 : x.rv = 1
  · rw [h1] at hr
    go_wp2_with (go_at_call 41; refine (bit_any _ _).mono ?_; rintro e w' ⟨rfl, rfl⟩; simp only [bitOf, bitOk])
    refine H.out _ _ ⟨⟨rfl, rfl⟩, rfl, rfl, rfl, rfl, rfl, rfl, rfl, rfl, rfl, rfl⟩ ((Kept.refl _ _).set _ (.inl (by simp))) (by simp) ?_
    simp [reports, h1, hfa]; exact hB.set 0 _
  by_cases h2 : x.rv = 2
  · rw [h2] at hr
    go_wp2_with (go_at_call 41; refine (bit_any _ _).mono ?_; rintro e w' ⟨rfl, rfl⟩; simp only [bitOf, bitOk])
    refine H.out _ _ ⟨⟨rfl, rfl⟩, rfl, rfl, rfl, rfl, rfl, rfl, rfl, rfl, rfl, rfl⟩ ((Kept.refl _ _).set _ (.inl (by simp))) (by simp) ?_
    simp [reports, h2, hfa]; exact hB.set 1 _
  · have g : bitOk x.rv = false := by simp [bitOk, h1, h2]
    go_wp2_with (go_at_call 41; refine (bit_any _ _).mono ?_; rintro e w' ⟨rfl, rfl⟩)
    refine H.out _ _ ⟨⟨rfl, rfl⟩, rfl, rfl, rfl, rfl, rfl, rfl, rfl, rfl, rfl, rfl⟩ (Kept.refl _ _) rfl ?_
    have g1 : (x.rv == 1) = false := by simpa using h1
    have g2 : (x.rv == 2) = false := by simpa using h2
    simp only [reports, g1, g2, hfa, Bool.and_false, Bool.or_false]; exact hB

end Go.Proofs.Qxb6602526a
