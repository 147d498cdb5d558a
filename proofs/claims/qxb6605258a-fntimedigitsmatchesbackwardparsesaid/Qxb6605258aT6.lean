import Derived.Test.Qxb6605258aT5
namespace Go.Proofs.Qxb6605258a
open Go.RowKit
set_option linter.unusedSimpArgs false
set_option linter.unusedVariables false

def form : ByteArray := ⟨#[48, 48, 48, 48, 45, 48, 48, 45, 48, 48, 84, 48, 48, 58, 48, 48, 58, 48, 48]⟩
theorem form_at (k : Nat) (h : k < form.size) : ((form[k]'h).toNat : Int) = bt form k := bt_at form k h
/-- Place k of the head is as the form asks. -/
def okAt (s : ByteArray) (k : Nat) : Bool := if bt form k = 48 then dig (bt s k) else if bt form k = 84 then (bt s k == 84) || (bt s k == 116) else bt s k == bt form k

set_option maxRecDepth 10000 in
set_option maxHeartbeats 1000000 in
theorem d0 (s : ByteArray) (a : Act) (w : World) (Q : Exit → Act → World → Prop) (hfr : Fr 122 a) (hs : Slots [(0, .string s)] a)
    (hQ : ∀ a', Fr 122 a' → Slots [(0, .string s)] a' → Q .normal a' w) :
    Code.wp Try.prog (nthC 0 (bodyC Try.f19)) Q a w := by
  obtain ⟨u, hu, rfl⟩ := lay122 hfr
  obtain ⟨s0, -⟩ := hs
  replace s0 : u 0 = .string s := (hu 0).symm.trans s0
  rw [s0]
  clear hfr hu s0
  conv => arg 2; whnf
  have H : Hid _ := hQ
  clear hQ
  go_wp2
  exact H.out _ ⟨rfl, rfl⟩ ⟨rfl, trivial⟩

set_option maxRecDepth 10000 in
set_option maxHeartbeats 1000000 in
theorem d1 (s : ByteArray) (a : Act) (w : World) (Q : Exit → Act → World → Prop) (hfr : Fr 122 a) (hs : Slots [(0, .string s)] a)
    (hQ : ∀ a', 19 ≤ s.size → Fr 122 a' → Slots [(0, .string s)] a' → Q .normal a' w) (hret : ∀ a', s.size < 19 → Fr 122 a' → sl a' 2 = .int .i64 0 → sl a' 3 = .bool false → Q .ret a' w) :
    Code.wp Try.prog (nthC 1 (bodyC Try.f19)) Q a w := by
  obtain ⟨u, hu, rfl⟩ := lay122 hfr
  obtain ⟨s0, -⟩ := hs
  replace s0 : u 0 = .string s := (hu 0).symm.trans s0
  rw [s0]
  clear hfr hu s0
  conv => arg 2; whnf
  have H : Hid _ := hQ
  have HR : Hid _ := hret
  clear hQ hret
  by_cases h : s.size < 19
  · have l : (s.size : Int) < 19 := by omega
    go_wp2
    exact HR.out _ h ⟨rfl, rfl⟩ rfl rfl
  · have l : ¬ ((s.size : Int) < 19) := by omega
    go_wp2
    exact H.out _ (by omega) ⟨rfl, rfl⟩ ⟨rfl, trivial⟩

set_option maxRecDepth 10000 in
set_option maxHeartbeats 1000000 in
theorem d2i (s : ByteArray) (a : Act) (w : World) (Q : Exit → Act → World → Prop) (hfr : Fr 122 a) (hs : Slots [(0, .string s)] a)
    (hQ : ∀ a', Fr 122 a' → Slots [(0, .string s), (13, .int .i64 (0 : Nat))] a' → Q .normal a' w) :
    Code.wp Try.prog (hdC (nthC 2 (bodyC Try.f19))) Q a w := by
  obtain ⟨u, hu, rfl⟩ := lay122 hfr
  obtain ⟨s0, -⟩ := hs
  replace s0 : u 0 = .string s := (hu 0).symm.trans s0
  rw [s0]
  clear hfr hu s0
  conv => arg 2; whnf
  have H : Hid _ := hQ
  clear hQ
  go_wp2
  exact H.out _ ⟨rfl, rfl⟩ ⟨rfl, rfl, trivial⟩

set_option maxRecDepth 10000 in
set_option maxHeartbeats 1000000 in
theorem d2x (s : ByteArray) (k : Nat) (a : Act) (w : World) (Q : Exit → Act → World → Prop) (hfr : Fr 122 a) (hs : Slots [(0, .string s), (13, .int .i64 (k : Nat))] a)
    (hk : k = 19) (hexit : ∀ a', Fr 122 a' → Slots [(0, .string s)] a' → Q (.exit 0) a' w) :
    Code.wp Try.prog (inC (inC (tlC (nthC 2 (bodyC Try.f19))))) Q a w := by
  obtain ⟨u, hu, rfl⟩ := lay122 hfr
  obtain ⟨s0, s13, -⟩ := hs
  replace s0 : u 0 = .string s := (hu 0).symm.trans s0
  replace s13 : u 13 = .int .i64 (k : Nat) := (hu 13).symm.trans s13
  rw [s0, s13]
  clear hfr hu s0 s13
  conv => arg 2; whnf
  subst hk
  have H : Hid _ := hexit
  clear hexit
  go_wp2
  exact H.out _ ⟨rfl, rfl⟩ ⟨rfl, trivial⟩

set_option maxRecDepth 10000 in
set_option maxHeartbeats 1000000 in
theorem d2r (s : ByteArray) (k : Nat) (a : Act) (w : World) (Q : Exit → Act → World → Prop) (hfr : Fr 122 a) (hs : Slots [(0, .string s), (13, .int .i64 (k : Nat))] a)
    (hk : k < 19) (hs : 19 ≤ s.size) (hcall : Calls Try.prog 27 #[.string (s.extract k (k + 1))] w fun e w' => e = .returned (.bool (dig (bt s k))) ∧ w' = w)
    (hQ : ∀ a', okAt s k = true → Fr 122 a' → Slots [(0, .string s), (13, .int .i64 (k + 1 : Nat))] a' → Q .normal a' w) (hret : ∀ a', okAt s k = false → Fr 122 a' → sl a' 2 = .int .i64 0 → sl a' 3 = .bool false → Q .ret a' w) :
    Code.wp Try.prog (inC (inC (tlC (nthC 2 (bodyC Try.f19))))) Q a w := by
  obtain ⟨u, hu, rfl⟩ := lay122 hfr
  obtain ⟨s0, s13, -⟩ := hs
  replace s0 : u 0 = .string s := (hu 0).symm.trans s0
  replace s13 : u 13 = .int .i64 (k : Nat) := (hu 13).symm.trans s13
  rw [s0, s13]
  clear hfr hu s0 s13
  conv => arg 2; whnf
  have hb := bt_at s
  have hF := form_at
  unfold form at hF
  have HC : Hid _ := hcall
  clear hcall
  have H : Hid _ := hQ
  have HR : Hid _ := hret
  clear hQ hret
  have l1 : (k : Int) < 19 := by omega
  have l2 : (k : Int) < s.size := by omega
  have l3 : k < s.size := by omega
  have l4 : ((k + 1 : Nat) : Int) ≤ s.size := by omega
  have l5 : (k : Int) ≤ ((k + 1 : Nat) : Int) := by omega
  have w1 : IntKind.i64.wrap ((k : Int) + 1) = ((k + 1 : Nat) : Int) := by rw [IntKind.wrap_i64]; omega
  generalize k + 1 = k1 at *
  have ok := okAt.eq_1 s k
  by_cases g1 : bt form k = 48
  · rw [if_pos g1] at ok
    have g1' := g1
    unfold form at g1'
    cases hd : dig (bt s k)
    · rw [hd] at HC ok
      have OK : Hid _ := ok
      clear ok hd g1
      go_wp2_with (go_at_call 27; refine Calls.mono HC.out ?_; rintro e w' ⟨rfl, rfl⟩)
      exact HR.out _ OK.out ⟨rfl, rfl⟩ rfl rfl
    · rw [hd] at HC ok
      have OK : Hid _ := ok
      clear ok hd g1
      go_wp2_with (go_at_call 27; refine Calls.mono HC.out ?_; rintro e w' ⟨rfl, rfl⟩)
      exact H.out _ OK.out ⟨rfl, rfl⟩ ⟨rfl, rfl, trivial⟩
  · rw [if_neg g1] at ok
    have e1 : (bt form k == 48) = false := by simpa using g1
    unfold form at e1
    clear HC
    by_cases g2 : bt form k = 84
    · rw [if_pos g2] at ok
      have g2' := g2
      unfold form at g2'
      clear g1 g2
      by_cases g3 : bt s k = 84
      · rw [g3] at ok
        have OK : Hid (okAt s k = true) := by rw [ok]; rfl
        clear ok
        go_wp2
        exact H.out _ OK.out ⟨rfl, rfl⟩ ⟨rfl, rfl, trivial⟩
      · have k3 : (bt s k == 84) = false := by simpa using g3
        have k3n : (bt s k != 84) = true := by simpa using g3
        clear g3
        by_cases g4 : bt s k = 116
        · rw [g4] at ok
          have OK : Hid (okAt s k = true) := by rw [ok]; rfl
          clear ok
          go_wp2
          exact H.out _ OK.out ⟨rfl, rfl⟩ ⟨rfl, rfl, trivial⟩
        · have k4 : (bt s k == 116) = false := by simpa using g4
          have k4n : (bt s k != 116) = true := by simpa using g4
          clear g4
          rw [k3, k4] at ok
          have OK : Hid _ := ok
          clear ok
          go_wp2
          exact HR.out _ OK.out ⟨rfl, rfl⟩ rfl rfl
    · rw [if_neg g2] at ok
      have e2 : (bt form k == 84) = false := by simpa using g2
      clear g1 g2
      by_cases g3 : bt s k = bt form k
      · have OK' : okAt s k = true := by rw [ok]; simpa using g3
        have OK : Hid _ := OK'
        clear OK'
        unfold form at g3 e2
        clear ok
        go_wp2
        exact H.out _ OK.out ⟨rfl, rfl⟩ ⟨rfl, rfl, trivial⟩
      · have k3 : (bt s k == bt form k) = false := by simpa using g3
        have k3n : (bt s k != bt form k) = true := by simpa using g3
        rw [k3] at ok
        have OK : Hid _ := ok
        unfold form at k3 k3n e2
        clear ok g3
        go_wp2
        exact HR.out _ OK.out ⟨rfl, rfl⟩ rfl rfl

set_option maxRecDepth 10000 in
set_option maxHeartbeats 1000000 in
theorem d3 (s : ByteArray) (a : Act) (w : World) (Q : Exit → Act → World → Prop) (hfr : Fr 122 a) (hs : Slots [(0, .string s)] a)
    (hs : (19 : Int) ≤ s.size) (hQ : ∀ a', Fr 122 a' → Slots [(6, .string (s.extract 19 s.size)), (7, .int .i64 (0 : Nat))] a' → Q .normal a' w) :
    Code.wp Try.prog (nthC 3 (bodyC Try.f19)) Q a w := by
  obtain ⟨u, hu, rfl⟩ := lay122 hfr
  obtain ⟨s0, -⟩ := hs
  replace s0 : u 0 = .string s := (hu 0).symm.trans s0
  rw [s0]
  clear hfr hu s0
  conv => arg 2; whnf
  have H : Hid _ := hQ
  clear hQ
  go_wp2
  exact H.out _ ⟨rfl, rfl⟩ ⟨rfl, rfl, trivial⟩

set_option maxRecDepth 10000 in
set_option maxHeartbeats 1000000 in
theorem d4h (z : ByteArray) (d : Nat) (a : Act) (w : World) (Q : Exit → Act → World → Prop) (hfr : Fr 122 a) (hs : Slots [(6, .string z), (7, .int .i64 (d : Nat))] a)
    (hQ : ∀ a', Fr 122 a' → Slots [(6, .string z), (7, .int .i64 (d : Nat)), (51, .bool (decide (0 < z.size) && (bt z 0 == 46)))] a' → Q .normal a' w) :
    Code.wp Try.prog (hdC (nthC 4 (bodyC Try.f19))) Q a w := by
  obtain ⟨u, hu, rfl⟩ := lay122 hfr
  obtain ⟨s6, s7, -⟩ := hs
  replace s6 : u 6 = .string z := (hu 6).symm.trans s6
  replace s7 : u 7 = .int .i64 (d : Nat) := (hu 7).symm.trans s7
  rw [s6, s7]
  clear hfr hu s6 s7
  conv => arg 2; whnf
  have hb := bt_at z
  have H : Hid _ := hQ
  clear hQ
  by_cases h : z.size = 0
  · have hl := toList_nil h
    have hd : decide (0 < z.size) = false := by simp [h]
    rw [hd] at H
    clear h hd
    go_wp2
    exact H.out _ ⟨rfl, rfl⟩ ⟨rfl, rfl, rfl, trivial⟩
  · have hl := toList_cons (s := z) (by omega)
    have hd : decide (0 < z.size) = true := by simp; omega
    rw [hd] at H
    have l0 : (0 : Int) < z.size := by omega
    have l1 : 0 < z.size := by omega
    clear h hd
    go_wp2
    exact H.out _ ⟨rfl, rfl⟩ ⟨rfl, rfl, rfl, trivial⟩

set_option maxRecDepth 10000 in
set_option maxHeartbeats 1000000 in
theorem d19x (z : ByteArray) (d : Nat) (a : Act) (w : World) (Q : Exit → Act → World → Prop) (hfr : Fr 122 a) (hs : Slots [(6, .string z), (7, .int .i64 (d : Nat))] a)
    (hd : d + 1 = z.size) (lz : z.size ≤ 1048576) (hexit : ∀ a', Fr 122 a' → Slots [(6, .string z), (7, .int .i64 (d : Nat))] a' → Q (.exit 3) a' w) :
    Code.wp Try.prog (hdC (inC (inC (nthC 0 (thC (tlC (nthC 4 (bodyC Try.f19)))))))) Q a w := by
  obtain ⟨u, hu, rfl⟩ := lay122 hfr
  obtain ⟨s6, s7, -⟩ := hs
  replace s6 : u 6 = .string z := (hu 6).symm.trans s6
  replace s7 : u 7 = .int .i64 (d : Nat) := (hu 7).symm.trans s7
  rw [s6, s7]
  clear hfr hu s6 s7
  conv => arg 2; whnf
  have H : Hid _ := hexit
  clear hexit
  have l : ¬ ((d : Int) + 1 < z.size) := by omega
  have w1 : IntKind.i64.wrap ((d : Int) + 1) = (d : Int) + 1 := by rw [IntKind.wrap_i64]; omega
  clear hd lz
  go_wp2
  exact H.out _ ⟨rfl, rfl⟩ ⟨rfl, rfl, trivial⟩

set_option maxRecDepth 10000 in
set_option maxHeartbeats 1000000 in
theorem d19 (z : ByteArray) (d : Nat) (b : Bool) (a : Act) (w : World) (Q : Exit → Act → World → Prop) (hfr : Fr 122 a) (hs : Slots [(6, .string z), (7, .int .i64 (d : Nat))] a)
    (hd : d + 1 < z.size) (lz : z.size ≤ 1048576) (hcall : Calls Try.prog 27 #[.string (z.extract (d + 1) (d + 2))] w fun e w' => e = .returned (.bool b) ∧ w' = w) (hQ : ∀ a', b = true → Fr 122 a' → Slots [(6, .string z), (7, .int .i64 (d : Nat))] a' → Q .normal a' w) (hexit : ∀ a', b = false → Fr 122 a' → Slots [(6, .string z), (7, .int .i64 (d : Nat))] a' → Q (.exit 3) a' w) :
    Code.wp Try.prog (hdC (inC (inC (nthC 0 (thC (tlC (nthC 4 (bodyC Try.f19)))))))) Q a w := by
  obtain ⟨u, hu, rfl⟩ := lay122 hfr
  obtain ⟨s6, s7, -⟩ := hs
  replace s6 : u 6 = .string z := (hu 6).symm.trans s6
  replace s7 : u 7 = .int .i64 (d : Nat) := (hu 7).symm.trans s7
  rw [s6, s7]
  clear hfr hu s6 s7
  conv => arg 2; whnf
  have H : Hid _ := hQ
  have HX : Hid _ := hexit
  have HC : Hid _ := hcall
  clear hQ hexit hcall
  have l : ((d + 1 : Nat) : Int) < z.size := by omega
  have l2 : ((d + 2 : Nat) : Int) ≤ z.size := by omega
  have l3 : ((d + 1 : Nat) : Int) ≤ ((d + 2 : Nat) : Int) := by omega
  have w1 : IntKind.i64.wrap ((d : Int) + 1) = ((d + 1 : Nat) : Int) := by rw [IntKind.wrap_i64]; omega
  have w2 : IntKind.i64.wrap ((d : Int) + 2) = ((d + 2 : Nat) : Int) := by rw [IntKind.wrap_i64]; omega
  clear hd lz
  generalize d + 1 = d1 at *
  generalize d + 2 = d2 at *
  cases b
  · go_wp2_with (go_at_call 27; refine Calls.mono HC.out ?_; rintro e w' ⟨rfl, rfl⟩)
    exact HX.out _ (by trivial) ⟨rfl, rfl⟩ ⟨rfl, rfl, trivial⟩
  · go_wp2_with (go_at_call 27; refine Calls.mono HC.out ?_; rintro e w' ⟨rfl, rfl⟩)
    exact H.out _ (by trivial) ⟨rfl, rfl⟩ ⟨rfl, rfl, trivial⟩

set_option maxRecDepth 10000 in
set_option maxHeartbeats 1000000 in
theorem d20 (z : ByteArray) (d : Nat) (a : Act) (w : World) (Q : Exit → Act → World → Prop) (hfr : Fr 122 a) (hs : Slots [(6, .string z), (7, .int .i64 (d : Nat))] a)
    (hd : (d : Int) ≤ 1048576) (hQ : ∀ a', Fr 122 a' → Slots [(6, .string z), (7, .int .i64 (d + 1 : Nat))] a' → Q .normal a' w) :
    Code.wp Try.prog (tlC (inC (inC (nthC 0 (thC (tlC (nthC 4 (bodyC Try.f19)))))))) Q a w := by
  obtain ⟨u, hu, rfl⟩ := lay122 hfr
  obtain ⟨s6, s7, -⟩ := hs
  replace s6 : u 6 = .string z := (hu 6).symm.trans s6
  replace s7 : u 7 = .int .i64 (d : Nat) := (hu 7).symm.trans s7
  rw [s6, s7]
  clear hfr hu s6 s7
  conv => arg 2; whnf
  have H : Hid _ := hQ
  clear hQ
  go_wp2
  exact H.out _ ⟨rfl, rfl⟩ ⟨rfl, rfl, trivial⟩

set_option maxRecDepth 10000 in
set_option maxHeartbeats 1000000 in
theorem d21 (z : ByteArray) (d : Nat) (a : Act) (w : World) (Q : Exit → Act → World → Prop) (hfr : Fr 122 a) (hs : Slots [(6, .string z), (7, .int .i64 (d : Nat))] a)
    (hQ : ∀ a', 1 ≤ d → d ≤ 9 → Fr 122 a' → Slots [(6, .string z), (7, .int .i64 (d : Nat))] a' → Q .normal a' w) (hret : ∀ a', ¬ (1 ≤ d ∧ d ≤ 9) → Fr 122 a' → sl a' 2 = .int .i64 0 → sl a' 3 = .bool false → Q .ret a' w) :
    Code.wp Try.prog (nthC 1 (thC (tlC (nthC 4 (bodyC Try.f19))))) Q a w := by
  obtain ⟨u, hu, rfl⟩ := lay122 hfr
  obtain ⟨s6, s7, -⟩ := hs
  replace s6 : u 6 = .string z := (hu 6).symm.trans s6
  replace s7 : u 7 = .int .i64 (d : Nat) := (hu 7).symm.trans s7
  rw [s6, s7]
  clear hfr hu s6 s7
  conv => arg 2; whnf
  have H : Hid _ := hQ
  have HR : Hid _ := hret
  clear hQ hret
  by_cases h : d = 0
  · subst h
    go_wp2
    exact HR.out _ (by omega) ⟨rfl, rfl⟩ rfl rfl
  · have l : ¬ ((d : Int) = 0) := by omega
    by_cases h9 : 9 < d
    · have l9 : (9 : Int) < d := by omega
      clear h
      go_wp2
      exact HR.out _ (by omega) ⟨rfl, rfl⟩ rfl rfl
    · have l9 : ¬ ((9 : Int) < d) := by omega
      go_wp2
      exact H.out _ (by omega) (by omega) ⟨rfl, rfl⟩ ⟨rfl, rfl, trivial⟩

set_option maxRecDepth 10000 in
set_option maxHeartbeats 1000000 in
theorem d23 (z : ByteArray) (d : Nat) (a : Act) (w : World) (Q : Exit → Act → World → Prop) (hfr : Fr 122 a) (hs : Slots [(6, .string z), (7, .int .i64 (d : Nat))] a)
    (hd : (d : Int) + 1 ≤ z.size) (h9 : (d : Int) ≤ 9) (hQ : ∀ a', Fr 122 a' → Slots [(6, .string (z.extract (d + 1) z.size)), (7, .int .i64 (d : Nat))] a' → Q .normal a' w) :
    Code.wp Try.prog (dropC 2 (thC (tlC (nthC 4 (bodyC Try.f19))))) Q a w := by
  obtain ⟨u, hu, rfl⟩ := lay122 hfr
  obtain ⟨s6, s7, -⟩ := hs
  replace s6 : u 6 = .string z := (hu 6).symm.trans s6
  replace s7 : u 7 = .int .i64 (d : Nat) := (hu 7).symm.trans s7
  rw [s6, s7]
  clear hfr hu s6 s7
  conv => arg 2; whnf
  have w1 : IntKind.i64.wrap ((d : Int) + 1) = (d : Int) + 1 := by rw [IntKind.wrap_i64]; omega
  have H : Hid _ := hQ
  clear hQ
  go_wp2
  exact H.out _ ⟨rfl, rfl⟩ ⟨rfl, rfl, trivial⟩

set_option maxRecDepth 10000 in
set_option maxHeartbeats 1000000 in
theorem d5 (z : ByteArray) (d : Nat) (b1 b2 : Bool) (a : Act) (w : World) (Q : Exit → Act → World → Prop) (hfr : Fr 122 a) (hs : Slots [(6, .string z), (7, .int .i64 (d : Nat))] a)
    (h1 : (z.toList == [90]) = b1) (h2 : (z.toList == [122]) = b2) (hQ : ∀ a', (b1 || b2) = false → Fr 122 a' → Slots [(6, .string z), (7, .int .i64 (d : Nat))] a' → Q .normal a' w) (hret : ∀ a', (b1 || b2) = true → Fr 122 a' → sl a' 2 = .int .i64 (d : Nat) → sl a' 3 = .bool true → Q .ret a' w) :
    Code.wp Try.prog (nthC 5 (bodyC Try.f19)) Q a w := by
  obtain ⟨u, hu, rfl⟩ := lay122 hfr
  obtain ⟨s6, s7, -⟩ := hs
  replace s6 : u 6 = .string z := (hu 6).symm.trans s6
  replace s7 : u 7 = .int .i64 (d : Nat) := (hu 7).symm.trans s7
  rw [s6, s7]
  clear hfr hu s6 s7
  conv => arg 2; whnf
  have H : Hid _ := hQ
  have HR : Hid _ := hret
  clear hQ hret
  cases b1
  · cases b2
    · go_wp2
      exact H.out _ (by trivial) ⟨rfl, rfl⟩ ⟨rfl, rfl, trivial⟩
    · go_wp2
      exact HR.out _ (by trivial) ⟨rfl, rfl⟩ rfl rfl
  · clear h2
    go_wp2
    exact HR.out _ (by simp) ⟨rfl, rfl⟩ rfl rfl

set_option maxRecDepth 10000 in
set_option maxHeartbeats 1000000 in
theorem d6 (z : ByteArray) (d : Nat) (a : Act) (w : World) (Q : Exit → Act → World → Prop) (hfr : Fr 122 a) (hs : Slots [(6, .string z), (7, .int .i64 (d : Nat))] a)
    (hQ : ∀ a', (z.size = 6 ∧ (bt z 0 = 43 ∨ bt z 0 = 45) ∧ bt z 3 = 58) → Fr 122 a' → Slots [(6, .string z), (7, .int .i64 (d : Nat))] a' → Q .normal a' w) (hret : ∀ a', ¬ (z.size = 6 ∧ (bt z 0 = 43 ∨ bt z 0 = 45) ∧ bt z 3 = 58) → Fr 122 a' → sl a' 2 = .int .i64 0 → sl a' 3 = .bool false → Q .ret a' w) :
    Code.wp Try.prog (nthC 6 (bodyC Try.f19)) Q a w := by
  obtain ⟨u, hu, rfl⟩ := lay122 hfr
  obtain ⟨s6, s7, -⟩ := hs
  replace s6 : u 6 = .string z := (hu 6).symm.trans s6
  replace s7 : u 7 = .int .i64 (d : Nat) := (hu 7).symm.trans s7
  rw [s6, s7]
  clear hfr hu s6 s7
  conv => arg 2; whnf
  have hb := bt_at z
  have H : Hid _ := hQ
  have HR : Hid _ := hret
  clear hQ hret
  by_cases h : z.size = 6
  case neg =>
    have l : ¬ ((z.size : Int) = 6) := by omega
    have HN : Hid _ := h
    clear h
    go_wp2
    exact HR.out _ (fun hh => HN.out hh.1) ⟨rfl, rfl⟩ rfl rfl
  have l : (z.size : Int) = 6 := by omega
  have l0 : 0 < z.size := by omega
  have l3 : 3 < z.size := by omega
  have i0 : (0 : Int) < z.size := by omega
  have i3 : (3 : Int) < z.size := by omega
  have HH : Hid _ := h
  clear h
  by_cases g1 : bt z 0 = 43
  · by_cases g3 : bt z 3 = 58
    · go_wp2
      exact H.out _ ⟨HH.out, .inl (by assumption), by assumption⟩ ⟨rfl, rfl⟩ ⟨rfl, rfl, trivial⟩
    · have k : (bt z 3 != 58) = true := by simpa using g3
      have HN : Hid _ := g3
      clear g3
      go_wp2
      exact HR.out _ (fun hh => HN.out hh.2.2) ⟨rfl, rfl⟩ rfl rfl
  · have k1 : (bt z 0 != 43) = true := by simpa using g1
    have HN1 : Hid _ := g1
    clear g1
    by_cases g2 : bt z 0 = 45
    · by_cases g3 : bt z 3 = 58
      · go_wp2
        exact H.out _ ⟨HH.out, .inr (by assumption), by assumption⟩ ⟨rfl, rfl⟩ ⟨rfl, rfl, trivial⟩
      · have k : (bt z 3 != 58) = true := by simpa using g3
        have HN : Hid _ := g3
        clear g3
        go_wp2
        exact HR.out _ (fun hh => HN.out hh.2.2) ⟨rfl, rfl⟩ rfl rfl
    · have k2 : (bt z 0 != 45) = true := by simpa using g2
      have HN2 : Hid _ := g2
      clear g2
      go_wp2
      exact HR.out _ (fun hh => hh.2.1.elim HN1.out HN2.out) ⟨rfl, rfl⟩ rfl rfl

set_option maxRecDepth 10000 in
set_option maxHeartbeats 1000000 in
theorem d7 (z : ByteArray) (d : Nat) (a : Act) (w : World) (Q : Exit → Act → World → Prop) (hfr : Fr 122 a) (hs : Slots [(6, .string z), (7, .int .i64 (d : Nat))] a)
    (lz : (z.size : Int) = 6) (hQ : ∀ a' m, Fr 122 a' → Slots [(7, .int .i64 (d : Nat)), (8, .string (z.extract 1 3)), (9, .string (z.extract 4 z.size))] a' → Q .normal a' (w.drewN m)) :
    Code.wp Try.prog (nthC 7 (bodyC Try.f19)) Q a w := by
  obtain ⟨u, hu, rfl⟩ := lay122 hfr
  obtain ⟨s6, s7, -⟩ := hs
  replace s6 : u 6 = .string z := (hu 6).symm.trans s6
  replace s7 : u 7 = .int .i64 (d : Nat) := (hu 7).symm.trans s7
  rw [s6, s7]
  clear hfr hu s6 s7
  conv => arg 2; whnf
  have H : Hid _ := hQ
  clear hQ
  have l1 : (3 : Int) ≤ z.size := by omega
  have l2 : (4 : Int) ≤ z.size := by omega
  go_wp2_with fail
  go_quiet (fail)
  go_wp2
  exact H.out _ _ ⟨rfl, rfl⟩ ⟨rfl, rfl, rfl, trivial⟩

set_option maxRecDepth 10000 in
set_option maxHeartbeats 1000000 in
theorem d8 (x y : ByteArray) (d : Nat) (v1 v2 v3 v4 : Bool) (a : Act) (w : World) (Q : Exit → Act → World → Prop) (hfr : Fr 122 a) (hs : Slots [(7, .int .i64 (d : Nat)), (8, .string x), (9, .string y)] a)
    (hc1 : Calls Try.prog 27 #[.string x] w fun e w' => e = .returned (.bool v1) ∧ w' = w) (hc2 : Calls Try.prog 27 #[.string y] w fun e w' => e = .returned (.bool v3) ∧ w' = w)
    (h2 : ∀ t, binOp .leq t (.string x) (.string ⟨#[50, 51]⟩) = pure (.bool v2)) (h4 : ∀ t, binOp .leq t (.string y) (.string ⟨#[53, 57]⟩) = pure (.bool v4))
    (hret : ∀ a', Fr 122 a' → sl a' 2 = .int .i64 (d : Nat) → sl a' 3 = .bool (v1 && v2 && (v3 && v4)) → Q .ret a' w) :
    Code.wp Try.prog (dropC 8 (bodyC Try.f19)) Q a w := by
  obtain ⟨u, hu, rfl⟩ := lay122 hfr
  obtain ⟨s7, s8, s9, -⟩ := hs
  replace s7 : u 7 = .int .i64 (d : Nat) := (hu 7).symm.trans s7
  replace s8 : u 8 = .string x := (hu 8).symm.trans s8
  replace s9 : u 9 = .string y := (hu 9).symm.trans s9
  rw [s7, s8, s9]
  clear hfr hu s7 s8 s9
  conv => arg 2; whnf
  have H : Hid _ := hret
  have HC1 : Hid _ := hc1
  have HC2 : Hid _ := hc2
  clear hret hc1 hc2
  cases v1
  · clear h2 h4 HC2
    go_wp2_with (go_at_call 27; refine Calls.mono HC1.out ?_; rintro e w' ⟨rfl, rfl⟩)
    exact H.out _ ⟨rfl, rfl⟩ rfl rfl
  · cases v2
    · clear h4 HC2
      go_wp2_with (go_at_call 27; refine Calls.mono HC1.out ?_; rintro e w' ⟨rfl, rfl⟩)
      exact H.out _ ⟨rfl, rfl⟩ rfl rfl
    · cases v3
      · clear h4
        go_wp2_with (first | (go_at_call_of 27 (Value.string x); refine Calls.mono HC1.out ?_; rintro e w' ⟨rfl, rfl⟩) | (go_at_call_of 27 (Value.string y); refine Calls.mono HC2.out ?_; rintro e w' ⟨rfl, rfl⟩))
        exact H.out _ ⟨rfl, rfl⟩ rfl rfl
      · cases v4
        · go_wp2_with (first | (go_at_call_of 27 (Value.string x); refine Calls.mono HC1.out ?_; rintro e w' ⟨rfl, rfl⟩) | (go_at_call_of 27 (Value.string y); refine Calls.mono HC2.out ?_; rintro e w' ⟨rfl, rfl⟩))
          exact H.out _ ⟨rfl, rfl⟩ rfl rfl
        · go_wp2_with (first | (go_at_call_of 27 (Value.string x); refine Calls.mono HC1.out ?_; rintro e w' ⟨rfl, rfl⟩) | (go_at_call_of 27 (Value.string y); refine Calls.mono HC2.out ?_; rintro e w' ⟨rfl, rfl⟩))
          exact H.out _ ⟨rfl, rfl⟩ rfl rfl

end Go.Proofs.Qxb6605258a
