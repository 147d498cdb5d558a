import Derived.Test.Qxb6602526aRows
import Derived.Test.Qxb6602526aMem
import Derived.Test.Qxb6602526aS3
namespace Go.Proofs.Qxb6602526a
open Go.RowKit
set_option linter.unusedSimpArgs false
set_option linter.unusedVariables false

/-- The largest of f 0 .. f (n-1), and 0. -/
def topTo (f : Nat → Int) : Nat → Int
  | 0 => 0
  | n + 1 => if topTo f n < f n then f n else topTo f n

/-- What the pointer to a maximum says of the first k values: nil if one is missing (or there is none), else it leads to the largest. -/
structure MaxOK (rp : Option Addr) (f : Nat → Int) (miss : Nat → Bool) (k : Nat) (w : World) : Prop where
  zero : k = 0 → rp = none
  gone : anyTo miss k = true → rp = none
  top : 0 < k → anyTo miss k = false → ∃ b, rp = some ⟨b, 0, none⟩ ∧ IsB w b #[.int .u64 (topTo f k)] 31

theorem anyTo_false {p : Nat → Bool} : ∀ {k}, (∀ i, i < k → p i = false) → anyTo p k = false
  | 0, _ => rfl
  | k + 1, h => by rw [anyTo, anyTo_false (fun i hi => h i (by omega)), h k (by omega)]; rfl
theorem anyTo_true {p : Nat → Bool} {i : Nat} : ∀ {k}, i < k → p i = true → anyTo p k = true
  | 0, h, _ => by omega
  | k + 1, h, hp => by
    rw [anyTo]
    by_cases e : i = k
    · subst e; rw [hp]; simp
    · rw [anyTo_true (by omega) hp]; rfl

theorem no_succ {p : Nat → Bool} {k : Nat} (h : ∀ j, j < k → p j = false) (hk : p k = false) (j : Nat) (hj : j < k + 1) : p j = false := by
  by_cases e : j = k
  · subst e; exact hk
  · exact h j (by omega)

/-- maxMatches. -/
theorem maxM (rp va ma : Option Addr) (K vb mb : Nat) (f : Nat → Int) (miss : Nat → Bool) (w : World) (hK : (K : Int) ≤ 65536) (hva : 0 < K → va = some ⟨vb, 0, none⟩) (hma : 0 < K → ma = some ⟨mb, 0, none⟩)
    (hf : ∀ i, i < K → w.cell? ⟨vb, i, none⟩ = some (.int .u64 (f i))) (hm : ∀ i, i < K → w.cell? ⟨mb, i, none⟩ = some (.bool (miss i))) (h : MaxOK rp f miss K w) :
    Calls Try.prog 14 #[.pointer rp, .slice va K K, .slice ma K K] w fun e w' => e = .returned (.bool true) ∧ w' = w := by
  by_cases h0 : K = 0
  · subst h0
    have e := h.zero rfl
    subst e
    clear h hva hma hf hm
    go_enter Try.func14, Try.ntmps14
    go_wp2
    go_ret
    exact ⟨rfl, rfl⟩
  have e1 := hva (by omega)
  have e2 := hma (by omega)
  subst e1; subst e2
  have hk0 : ((K : Int) == 0) = false := by simpa using h0
  have HH : Hid _ := h
  clear h hva hma
  go_enter Try.func14, Try.ntmps14
  go_wp2
  go_loop [7, 8] (fun t i => ∃ k : Nat, k ≤ K ∧ (∀ j, j < k → miss j = false) ∧ i = .int .i64 k ∧ t = .int .u64 (topTo f k)) (fun _ i => K - (intOf i).toNat)
  case atStart => exact ⟨0, Nat.zero_le _, fun j hj => by omega, rfl, rfl⟩
  case round =>
    obtain ⟨k, hk, hno, rfl, rfl⟩ := hrel
    have HN : Hid _ := hno
    clear hno
    by_cases hlt : k < K
    · have fk := hf k hlt
      have mk := hm k hlt
      by_cases hmk : miss k = true
      · rw [hmk] at mk
        have e := HH.out.gone (anyTo_true hlt hmk)
        subst e
        go_wp2
        go_ret
        exact ⟨rfl, rfl⟩
      · have hmk : miss k = false := by simpa using hmk
        rw [hmk] at mk
        by_cases hgt : topTo f k < f k
        · go_wp2
          go_round
          case rel => exact ⟨k + 1, by omega, no_succ HN.out hmk, by go_num, by rw [topTo, if_pos hgt]⟩
          case measure => simp [intOf]; omega
        · go_wp2
          go_round
          case rel => exact ⟨k + 1, by omega, no_succ HN.out hmk, by go_num, by rw [topTo, if_neg hgt]⟩
          case measure => simp [intOf]; omega
    · have e : k = K := by omega
      subst e
      obtain ⟨b, e, hb⟩ := HH.out.top (by omega) (anyTo_false HN.out)
      subst e
      have hc : w.cell? ⟨b, 0, none⟩ = some (.int .u64 (topTo f k)) := hb.cell 0
      clear hb
      go_wp2
      go_ret
      exact ⟨rfl, rfl⟩

end Go.Proofs.Qxb6602526a
