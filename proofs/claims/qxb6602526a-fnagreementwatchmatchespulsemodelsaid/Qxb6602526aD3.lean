import Derived.Test.Qxb6602526aD2
import Derived.Test.Qxb6602526aC9
namespace Go.Proofs.Qxb6602526a
open Go.RowKit
set_option linter.unusedSimpArgs false
set_option linter.unusedVariables false

/-- The latest pulse ahead of k at clock 0. -/
def lastZ (ck : Nat → Int) : Nat → Option Nat
  | 0 => none
  | k + 1 => if ck k = 0 then some k else lastZ ck k
theorem lastZ_lt (ck : Nat → Int) : ∀ k j, lastZ ck k = some j → j < k
  | 0, j, h => by cases h
  | k + 1, j, h => by
    rw [lastZ] at h
    split at h
    · cases h; omega
    · have := lastZ_lt ck k j h; omega

/-- Is pulse k invalid, by the model? -/
def modX (fc : Int) (n : Nat) (p ck : Nat → Int) (ins res : Nat → Nat → Int) (k : Nat) : Bool :=
  if ck k = 0 then
    match lastZ ck k with
    | none => false
    | some j => decide (fc ≤ p j) && ((minTo (ins j) n == maxTo (ins j) n) && (!(minTo (res k) n == minTo (ins j) n) || !(maxTo (res k) n == minTo (ins j) n)))
  else false
structure MS where
  iv : Bool
  an : Bool
  la : Int
def badK (fc : Int) (n : Nat) (p ck : Nat → Int) (ins res : Nat → Nat → Int) (k : Nat) : Bool := !(minTo (res k) n == maxTo (res k) n) || modX fc n p ck ins res k
/-- The model's state behind k pulses. -/
def mdl (fc : Int) (n : Nat) (p ck : Nat → Int) (ins res : Nat → Nat → Int) : Nat → MS
  | 0 => ⟨false, false, 0⟩
  | k + 1 => ⟨(mdl fc n p ck ins res k).iv || modX fc n p ck ins res k, (mdl fc n p ck ins res k).an || badK fc n p ck ins res k, if badK fc n p ck ins res k then p k else (mdl fc n p ck ins res k).la⟩
def agK (n : Nat) (res : Nat → Nat → Int) : Nat → Bool
  | 0 => false
  | k + 1 => minTo (res k) n == maxTo (res k) n

/-- THE PLAIN LAW: the watch holds what the model says. -/
structure Same (fc : Int) (n : Nat) (p ck : Nat → Int) (ins res : Nat → Nat → Int) (k : Nat) (T : AW) : Prop where
  hfc : T.fc = fc
  ag : T.ag = agK n res k
  inv : T.inv = (mdl fc n p ck ins res k).iv
  any : T.any = (mdl fc n p ck ins res k).an
  last : T.last = (mdl fc n p ck ins res k).la
  no : lastZ ck k = none → T.cb = false
  yes : ∀ j, lastZ ck k = some j → T.cb = true ∧ T.cs = p j ∧ T.bit = ins j 0 ∧ T.un = !dif (ins j) (ins j 0) n

theorem same_run (fc : Int) (n : Nat) (hn : 0 < n) (p ck : Nat → Int) (ins res : Nat → Nat → Int) : ∀ k, Same fc n p ck ins res k (AW.run fc n p ck ins res k)
  | 0 => ⟨rfl, rfl, rfl, rfl, rfl, fun _ => rfl, fun j h => by cases h⟩
  | k + 1 => by
    obtain ⟨h1, h2, h3, h4, h5, h6, h7⟩ := same_run fc n hn p ck ins res k
    generalize hT : AW.run fc n p ck ins res k = T at *
    have hrun : AW.run fc n p ck ins res (k + 1) = T.obs n (p k) (ck k) (ins k) (res k) := by rw [AW.run, hT]
    rw [hrun]
    have hX : ((ck k == 0) && (T.cb && T.un && decide (T.fc ≤ T.cs)) && dif (res k) T.bit n) = modX fc n p ck ins res k := by
      unfold modX
      by_cases hz : ck k = 0
      · rw [if_pos hz]
        have hz' : (ck k == 0) = true := by simpa using hz
        rw [hz']
        cases hl : lastZ ck k with
        | none => rw [h6 hl]; rfl
        | some j =>
          obtain ⟨g1, g2, g3, g4⟩ := h7 j hl
          rw [g1, g2, g3, g4, h1]
          simp only []
          rw [eq_mm (ins j) n hn]
          cases hd : dif (ins j) (ins j 0) n
          · have ha := dif_false.1 hd
            rw [minTo_eq (ins j) (ins j 0) n hn ha, dif_mm (res k) (ins j 0) n hn]
            cases decide (fc ≤ p j) <;> simp
          · simp
      · rw [if_neg hz]
        have hz' : (ck k == 0) = false := by simpa using hz
        rw [hz']; rfl
    have hA : (!dif (res k) (res k 0) n) = (minTo (res k) n == maxTo (res k) n) := (eq_mm (res k) n hn).symm
    refine ⟨h1, hA, ?_, ?_, ?_, fun hl => ?_, fun j hl => ?_⟩
    · show (T.inv || _) = _
      rw [hX, h3]; rfl
    · show (T.any || (!(!dif (res k) (res k 0) n) || _)) = _
      rw [hX, hA, h4]; rfl
    · show (if (!(!dif (res k) (res k 0) n) || ((ck k == 0) && (T.cb && T.un && decide (T.fc ≤ T.cs)) && dif (res k) T.bit n)) = true then p k else T.last) = _
      rw [hX, hA, h5]; rfl
    · rw [lastZ] at hl
      by_cases hz : ck k = 0
      · rw [if_pos hz] at hl; cases hl
      · rw [if_neg hz] at hl
        have hz' : (ck k == 0) = false := by simpa using hz
        show (T.cb || (ck k == 0)) = false
        rw [h6 hl, hz']; rfl
    · rw [lastZ] at hl
      by_cases hz : ck k = 0
      · rw [if_pos hz] at hl
        cases hl
        have hz' : (ck k == 0) = true := by simpa using hz
        simp [AW.obs, hz']
      · rw [if_neg hz] at hl
        obtain ⟨g1, g2, g3, g4⟩ := h7 j hl
        have hz' : (ck k == 0) = false := by simpa using hz
        simp [AW.obs, hz', g1, g2, g3, g4]

/-- The inner loop finds the latest pulse at clock 0. -/
theorem ml_j (fc : Int) (m K I : Nat) (xp xi xr : Option Addr) (ag iv an : Bool) (la : Int) (k : Nat) (x y : Int) (bad : Bool) (cb : Nat) (ck : Nat → Int) (a : Act) (w : World) (Q : Exit → Act → World → Prop) (hfr : Fr 134 a) (hs : Slots [(0, .int .u64 fc), (1, .int .i64 (m : Nat)), (2, .slice xp K K), (3, .slice (some ⟨cb, 0, none⟩) K K), (4, .slice xi I I), (5, .slice xr I I), (16, .int .i64 (K : Nat)), (17, .bool ag), (20, .bool iv), (21, .bool an), (22, .int .u64 la), (23, .int .i64 (k : Nat)), (24, .int .u8 x), (25, .int .u8 y), (26, .bool bad), (27, .int .i64 ((k : Int) - 1))] a)
    (hk : k < K) (lK : (K : Int) ≤ 65536) (hc : ∀ i, i < K → w.cell? ⟨cb, i, none⟩ = some (.int .i64 (ck i)))
    (h0 : ∀ a', lastZ ck k = none → Fr 134 a' → Slots [(0, .int .u64 fc), (1, .int .i64 (m : Nat)), (2, .slice xp K K), (3, .slice (some ⟨cb, 0, none⟩) K K), (4, .slice xi I I), (5, .slice xr I I), (16, .int .i64 (K : Nat)), (17, .bool ag), (20, .bool iv), (21, .bool an), (22, .int .u64 la), (23, .int .i64 (k : Nat)), (24, .int .u8 x), (25, .int .u8 y), (26, .bool bad), (27, .int .i64 (-1))] a' → Q (.exit 2) a' w)
    (h1 : ∀ a' (j : Nat), lastZ ck k = some j → Fr 134 a' → Slots [(0, .int .u64 fc), (1, .int .i64 (m : Nat)), (2, .slice xp K K), (3, .slice (some ⟨cb, 0, none⟩) K K), (4, .slice xi I I), (5, .slice xr I I), (16, .int .i64 (K : Nat)), (17, .bool ag), (20, .bool iv), (21, .bool an), (22, .int .u64 la), (23, .int .i64 (k : Nat)), (24, .int .u8 x), (25, .int .u8 y), (26, .bool bad), (27, .int .i64 (j : Nat))] a' → Q (.exit 2) a' w) :
    Code.wp Try.prog (inC (nthC 1 (thC (tlC (nthC 2 (inC (hdC (tlC (inC (inC (tlC (nthC 7 (bodyC Try.f22))))))))))))) Q a w := by
  refine wp_navL rfl (wp_loop (fun a' w' => w' = w ∧ ∃ jj : Nat, jj ≤ k ∧ lastZ ck jj = lastZ ck k ∧ Fr 134 a' ∧ Slots [(0, .int .u64 fc), (1, .int .i64 (m : Nat)), (2, .slice xp K K), (3, .slice (some ⟨cb, 0, none⟩) K K), (4, .slice xi I I), (5, .slice xr I I), (16, .int .i64 (K : Nat)), (17, .bool ag), (20, .bool iv), (21, .bool an), (22, .int .u64 la), (23, .int .i64 (k : Nat)), (24, .int .u8 x), (25, .int .u8 y), (26, .bool bad), (27, .int .i64 ((jj : Int) - 1))] a') (fun a' _ => (intOf (sl a' 27) + 1).toNat) ⟨rfl, k, Nat.le_refl _, rfl, hfr, hs⟩ ?_)
  rintro a1 w1 ⟨rfl, jj, hjj, hl, fr1, s1⟩
  have mu : (intOf (sl a1 27) + 1).toNat = jj := by
    have : sl a1 27 = .int .i64 ((jj : Int) - 1) := s1.2.2.2.2.2.2.2.2.2.2.2.2.2.2.2.1
    rw [this]; simp only [intOf]; omega
  cases jj with
  | zero => exact mj0 _ _ _ _ _ _ _ _ _ _ _ _ _ _ _ _ _ _ _ fr1 s1 fun a2 fr2 s2 => h0 a2 hl.symm fr2 s2
  | succ j =>
    have ej : (((j + 1 : Nat) : Int) - 1) = (j : Nat) := by omega
    rw [ej] at s1
    refine mjs _ _ _ _ _ _ _ _ _ _ _ _ _ _ _ cb j (ck j) _ _ _ fr1 s1 (by omega) lK (hc j (by omega)) (fun a2 hz fr2 s2 => ?_) (fun a2 hz fr2 s2 => ?_)
    · rw [lastZ, if_neg hz] at hl
      refine ⟨⟨rfl, j, by omega, hl, fr2, s2⟩, ?_⟩
      have mu2 : (intOf (sl a2 27) + 1).toNat = j := by
        have : sl a2 27 = .int .i64 ((j : Int) - 1) := s2.2.2.2.2.2.2.2.2.2.2.2.2.2.2.2.1
        rw [this]; simp only [intOf]; omega
      rw [mu, mu2]; omega
    · rw [lastZ, if_pos hz] at hl
      exact h1 a2 j hl.symm fr2 s2

end Go.Proofs.Qxb6602526a
