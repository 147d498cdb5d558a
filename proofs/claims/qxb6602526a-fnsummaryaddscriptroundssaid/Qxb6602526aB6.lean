import Derived.Test.Qxb6602526aB3
import Derived.Test.Qxb6602526aB4
import Derived.Test.Qxb6602526aB5
namespace Go.Proofs.Qxb6602526a
open Go.RowKit
set_option linter.unusedSimpArgs false
set_option linter.unusedVariables false

/-- How many of the first k rounds are j + 1. -/
def hist (rd : Nat → Int) : Nat → Nat → Int
  | 0, _ => 0
  | k + 1, j => if rd k = (j : Int) + 1 then hist rd k j + 1 else hist rd k j
/-- How many of the first k rounds are not 0. -/
def decN (rd : Nat → Int) : Nat → Int
  | 0 => 0
  | k + 1 => if rd k = 0 then decN rd k else decN rd k + 1
def totN (rd : Nat → Int) : Nat → Int
  | 0 => 0
  | k + 1 => totN rd k + rd k

theorem hist_bd (rd : Nat → Int) : ∀ k j, 0 ≤ hist rd k j ∧ hist rd k j ≤ k
  | 0, j => by simp [hist]
  | k + 1, j => by
    have := hist_bd rd k j
    rw [hist]; split <;> omega
theorem decN_bd (rd : Nat → Int) : ∀ k, 0 ≤ decN rd k ∧ decN rd k ≤ k
  | 0 => by simp [decN]
  | k + 1 => by
    have := decN_bd rd k
    rw [decN]; split <;> omega
theorem totN_bd (rd : Nat → Int) (K : Nat) (h : ∀ i, i < K → 0 ≤ rd i ∧ rd i ≤ 65536) : ∀ k, k ≤ K → 0 ≤ totN rd k ∧ totN rd k ≤ 65536 * k
  | 0, _ => by simp [totN]
  | k + 1, hk => by
    have := totN_bd rd K h k (by omega)
    have := h k (by omega)
    rw [totN]; omega

theorem sumTo_bump (f : Nat → Int) (j : Nat) : ∀ n, sumTo (fun i => if i = j then f i + 1 else f i) n = sumTo f n + (if j < n then 1 else 0)
  | 0 => by simp [sumTo]
  | n + 1 => by
    rw [sumTo, sumTo, sumTo_bump f j n]
    by_cases e : n = j
    · subst e; simp; omega
    · rw [if_neg e]
      by_cases h : j < n
      · rw [if_pos h, if_pos (by omega)]; omega
      · rw [if_neg h, if_neg (by omega)]; omega
theorem totTo_bump (f : Nat → Int) (j : Nat) : ∀ n, totTo (fun i => if i = j then f i + 1 else f i) n = totTo f n + (if j < n then (j : Int) + 1 else 0)
  | 0 => by simp [totTo, sumTo]
  | n + 1 => by
    have ih := totTo_bump f j n
    unfold totTo at *
    rw [sumTo, sumTo, ih]
    by_cases e : n = j
    · subst e; simp [Int.mul_add]; omega
    · simp only [if_neg e]
      by_cases h : j < n
      · rw [if_pos h, if_pos (by omega)]; omega
      · rw [if_neg h, if_neg (by omega)]; omega

theorem hist_zero (rd : Nat → Int) (k : Nat) (h : rd k = 0) : hist rd (k + 1) = hist rd k := by
  funext i; rw [hist, if_neg (by omega)]
theorem hist_one (rd : Nat → Int) (k j : Nat) (h : rd k = (j : Int) + 1) : hist rd (k + 1) = fun i => if i = j then hist rd k i + 1 else hist rd k i := by
  funext i; rw [hist, h]
  by_cases e : i = j
  · subst e; simp
  · rw [if_neg e, if_neg (by omega)]

theorem hist_sum (rd : Nat → Int) (m K : Nat) (h : ∀ i, i < K → 0 ≤ rd i ∧ rd i ≤ m) : ∀ k, k ≤ K → sumTo (hist rd k) m = decN rd k ∧ totTo (hist rd k) m = totN rd k
  | 0, _ => by
    have e : hist rd 0 = fun _ => 0 := by funext i; rfl
    have s : ∀ n, sumTo (fun _ => 0) n = 0 := fun n => by induction n with
      | zero => rfl
      | succ n ih => rw [sumTo, ih]; rfl
    refine ⟨by rw [e, s]; rfl, ?_⟩
    rw [e]; unfold totTo; simp only [Int.mul_zero]; rw [s]; rfl
  | k + 1, hk => by
    obtain ⟨i1, i2⟩ := hist_sum rd m K h k (by omega)
    have hb := h k (by omega)
    by_cases e : rd k = 0
    · rw [hist_zero rd k e, i1, i2, decN, if_pos e, totN, e]; simp
    · obtain ⟨j, hj⟩ : ∃ j : Nat, rd k = (j : Int) + 1 := ⟨(rd k - 1).toNat, by omega⟩
      rw [hist_one rd k j hj, sumTo_bump, totTo_bump, i1, i2, decN, if_neg e, totN, hj, if_pos (by omega), if_pos (by omega)]
      exact ⟨rfl, rfl⟩

/-- The node that stands in the script. -/
def nodeOf (b17 b18 : Nat) (ro : Option Nat) (rd : Int) : NodeD := ⟨0, false, some b17, 0, some b18, 1, ro, rd⟩
/-- It carries a round just if the round is not 0. -/
def RoOK (ro : Option Nat) (rd : Int) : Prop := (ro = none ∧ rd = 0) ∨ (ro.isSome = true ∧ 0 < rd)

theorem one_und {b17 b18 : Nat} {ro : Option Nat} {rd : Int} (h : RoOK ro rd) : anyTo (fun i => undecided ((fun _ => nodeOf b17 b18 ro rd) i)) 1 = decide (rd = 0) := by
  rcases h with ⟨rfl, rfl⟩ | ⟨h1, h2⟩
  · rfl
  · have : decide (rd = 0) = false := by simp; omega
    rw [this]
    cases ro with
    | none => cases h1
    | some b => rfl
theorem one_last {b17 b18 : Nat} {ro : Option Nat} {rd : Int} (h : RoOK ro rd) : lastTo (fun _ => nodeOf b17 b18 ro rd) 1 = rd := by
  rcases h with ⟨rfl, rfl⟩ | ⟨h1, h2⟩
  · rfl
  · simp [lastTo, nodeOf, h1, h2]
theorem one_bump {b17 b18 : Nat} {ro : Option Nat} {rd : Int} (h : RoOK ro rd) (f : Nat → Int) : bump (fun _ => nodeOf b17 b18 ro rd) 1 f = fun (i : Nat) => if rd = (i : Int) + 1 then f i + 1 else f i := by
  funext i
  unfold bump
  rw [one_und h, one_last h]
  by_cases e : rd = (i : Int) + 1
  · rw [if_pos e, if_pos ⟨by simp; omega, e⟩]
  · rw [if_neg e, if_neg (fun h => e h.2)]

/-- The Summary behind k instances. -/
def sumK (m k : Nat) (mn : Option Addr) (drb : Nat) (rp sp : Option Addr) : SumS := ⟨m, k, k, 0, 0, 0, 0, none, 0, mn, drb, m, rp, sp⟩

theorem sumK_added (m k : Nat) (mn : Option Addr) (drb : Nat) (rp sp : Option Addr) (b17 b18 : Nat) (ro : Option Nat) (rd : Int) (r s : Option Addr) (hk : (k : Int) ≤ 65536) :
    (sumK m k mn drb rp sp).added (fun _ => nodeOf b17 b18 ro rd) 1 r s = sumK m (k + 1) mn drb r s := by
  have e1 : IntKind.u64.wrap ((k : Int) + 1) = ((k + 1 : Nat) : Int) := by rw [IntKind.wrap_u64]; omega
  have e2 : ((k : Int) + 1) % 18446744073709551616 = ((k + 1 : Nat) : Int) := by omega
  simp only [SumS.added, SumS.after, sumK, cnt, sumTo, nodeOf, anyTo, reports, inc64, isPend]
  simp
  refine ⟨e1, by omega⟩

/-- What the pointer to a maximum says, and that it leads to none of the blocks X. -/
structure MaxI (X : List Nat) (rp : Option Addr) (f : Nat → Int) (miss : Nat → Bool) (k : Nat) (w : World) : Prop where
  zero : k = 0 → rp = none
  gone : anyTo miss k = true → rp = none
  top : 0 < k → anyTo miss k = false → ∃ b, rp = some ⟨b, 0, none⟩ ∧ b ∉ X ∧ IsB w b #[.int .u64 (topTo f k)] 31
theorem MaxI.ok {X : List Nat} {rp : Option Addr} {f : Nat → Int} {miss : Nat → Bool} {k : Nat} {w : World} (h : MaxI X rp f miss k w) : MaxOK rp f miss k w :=
  ⟨h.zero, h.gone, fun h1 h2 => by obtain ⟨b, e, _, hb⟩ := h.top h1 h2; exact ⟨b, e, hb⟩⟩
theorem MaxI.keep {X : List Nat} {rp : Option Addr} {f : Nat → Int} {miss : Nat → Bool} {k : Nat} {w w' : World} (h : MaxI X rp f miss k w) (hk : Kept X w w') : MaxI X rp f miss k w' :=
  ⟨h.zero, h.gone, fun h1 h2 => by obtain ⟨b, e, hx, hb⟩ := h.top h1 h2; exact ⟨b, e, hx, hk.isB hb hx⟩⟩

/-- The pointer to one value: nil if it is missing. -/
def VAt (X : List Nat) (vp : Option Addr) (v : Int) (miss : Bool) (w : World) : Prop :=
  (miss = true → vp = none) ∧ (miss = false → ∃ b, vp = some ⟨b, 0, none⟩ ∧ b ∉ X ∧ IsB w b #[.int .u64 v] 31)
theorem VAt.keep {X : List Nat} {vp : Option Addr} {v : Int} {miss : Bool} {w w' : World} (h : VAt X vp v miss w) (hk : Kept X w w') : VAt X vp v miss w' :=
  ⟨h.1, fun h1 => by obtain ⟨b, e, hx, hb⟩ := h.2 h1; exact ⟨b, e, hx, hk.isB hb hx⟩⟩

theorem gives {l v r : Option Addr} {first : Bool} {w : World} (h : Calls Try.prog 40 #[.pointer l, .pointer v, .bool first] w fun e w' => e = .returned (.pointer r) ∧ w' = w) : MaxGives first l v r w :=
  h.mono fun e w' ⟨h1, h2⟩ => ⟨h1, 0, by rw [h2]; rfl⟩

theorem max_step {bs : Nat} {X : List Nat} (hX : bs ∈ X) {rp vp : Option Addr} {f : Nat → Int} {miss : Nat → Bool} {k : Nat} {w : World} (h : MaxI X rp f miss k w) (hv : VAt X vp (f k) (miss k) w) (hf : 0 ≤ f k) :
    ∃ r, (∀ w1, Kept [bs] w w1 → MaxGives ((k : Int) == 0) rp vp r w1) ∧ ∀ w', Kept X w w' → MaxI X r f miss (k + 1) w' := by
  by_cases h0 : k = 0
  · subst h0
    refine ⟨vp, fun w1 _ => gives (maxOrNil_first _ _ _), fun w' hk => ⟨fun e => by omega, fun e => hv.1 (by simpa [anyTo] using e), fun _ e => ?_⟩⟩
    obtain ⟨b, e1, e2, e3⟩ := hv.2 (by simpa [anyTo] using e)
    refine ⟨b, e1, e2, ?_⟩
    have : topTo f 1 = f 0 := by
      show (if (0 : Int) < f 0 then f 0 else 0) = f 0
      by_cases h : (0 : Int) < f 0
      · rw [if_pos h]
      · rw [if_neg h]; omega
    rw [this]; exact hk.isB e3 e2
  · have hk0 : ((k : Int) == 0) = false := by simpa using h0
    rw [hk0]
    by_cases ha : anyTo miss k = true
    · have e := h.gone ha
      subst e
      exact ⟨none, fun w1 _ => gives (maxOrNil_none _ _), fun w' hk => ⟨fun _ => rfl, fun _ => rfl, fun _ e => by rw [anyTo, ha] at e; cases e⟩⟩
    · have ha : anyTo miss k = false := by simpa using ha
      obtain ⟨b, rfl, hb, hB⟩ := h.top (by omega) ha
      by_cases hm : miss k = true
      · have e := hv.1 hm
        subst e
        exact ⟨none, fun w1 _ => gives (maxOrNil_vnone _ _), fun w' hk => ⟨fun _ => rfl, fun _ => rfl, fun _ e => by rw [anyTo, hm] at e; simp at e⟩⟩
      · have hm : miss k = false := by simpa using hm
        obtain ⟨c, rfl, hc, hC⟩ := hv.2 hm
        have nb : b ∉ [bs] := by simp; rintro rfl; exact hb hX
        have nc : c ∉ [bs] := by simp; rintro rfl; exact hc hX
        refine ⟨_, fun w1 hk => maxOrNil_some b c (topTo f k) (f k) w1 ((hk.isB hB nb).cell 0) ((hk.isB hC nc).cell 0), fun w' hk => ⟨fun e => by omega, (fun e => by rw [anyTo, ha, hm] at e; cases e), fun _ _ => ?_⟩⟩
        rw [topTo]
        by_cases hlt : topTo f k < f k
        · rw [if_pos hlt, if_pos hlt]; exact ⟨c, rfl, hc, hk.isB hC hc⟩
        · rw [if_neg hlt, if_neg hlt]; exact ⟨b, rfl, hb, hk.isB hB hb⟩

/-- The mean behind k instances. -/
def MeanI (X : List Nat) (mn : Option Addr) (rd : Nat → Int) (k : Nat) (w : World) : Prop :=
  (decN rd k = 0 → mn = none) ∧ (decN rd k ≠ 0 → ∃ mb, mn = some ⟨mb, 0, none⟩ ∧ mb ∉ X ∧ IsB w mb #[.float .f64 (fdiv (totN rd k) (decN rd k))] 54)
theorem MeanI.keep {X : List Nat} {mn : Option Addr} {rd : Nat → Int} {k : Nat} {w w' : World} (h : MeanI X mn rd k w) (hk : Kept X w w') : MeanI X mn rd k w' :=
  ⟨h.1, fun h1 => by obtain ⟨b, e, hx, hb⟩ := h.2 h1; exact ⟨b, e, hx, hk.isB hb hx⟩⟩

/-- What holds behind k instances. -/
structure ScrI (m bs drb : Nat) (rd f1 f2 : Nat → Int) (n1 n2 : Nat → Bool) (k : Nat) (mn rp sp : Option Addr) (w : World) : Prop where
  hB : IsB w bs (sumK m k mn drb rp sp).arr 41
  hD : IsB w drb (rowA (fun i => .int .u64 (hist rd k i)) m) 31
  mean : MeanI [bs, drb] mn rd k w
  max1 : MaxI [bs, drb] rp f1 n1 k w
  max2 : MaxI [bs, drb] sp f2 n2 k w

theorem add_one {m bs drb : Nat} {rd f1 f2 : Nat → Int} {n1 n2 : Nat → Bool} {k K : Nat} {mn rp sp : Option Addr} {w : World} (h : ScrI m bs drb rd f1 f2 n1 n2 k mn rp sp w)
    (hk : k < K) (hK : (K : Int) ≤ 65536) (hm : m ≤ 65536) (hrd : ∀ i, i < K → 0 ≤ rd i ∧ rd i ≤ m) (hf1 : 0 ≤ f1 k) (hf2 : 0 ≤ f2 k) (hne : drb ≠ bs)
    (nb b17 b18 : Nat) (ro : Option Nat) (rr sr : Option Addr) (hro : RoOK ro (rd k)) (hnb : nb ≠ bs) (h17 : b17 ≠ bs) (h18 : b18 ≠ bs)
    (hN : IsB w nb #[.int .i64 0, .bool false, .pointer (some ⟨b17, 0, none⟩), .pointer (some ⟨b18, 0, none⟩), .pointer (ro.map ptr)] 47) (H17 : IsB w b17 #[.int .u8 0] 5) (H18 : IsB w b18 #[.int .u8 1] 42)
    (H20 : ∀ b, ro = some b → b ≠ bs ∧ IsB w b #[.int .u32 (rd k)] 22) (hr : VAt [bs, drb] rr (f1 k) (n1 k) w) (hs : VAt [bs, drb] sr (f2 k) (n2 k) w) :
    Calls Try.prog 13 #[.pointer (some ⟨bs, 0, none⟩), .agg (instA k nb 1 rr sr)] w fun e w' => e = .returned (.tuple #[]) ∧ Kept [bs, drb] w w' ∧ ∃ mn' rp' sp', ScrI m bs drb rd f1 f2 n1 n2 (k + 1) mn' rp' sp' w' := by
  obtain ⟨hB, hD, mean, max1, max2⟩ := h
  obtain ⟨r, r1, r2⟩ := max_step (bs := bs) (X := [bs, drb]) (by simp) max1 hr hf1
  obtain ⟨s, s1, s2⟩ := max_step (bs := bs) (X := [bs, drb]) (by simp) max2 hs hf2
  have hsum := hist_sum rd m K hrd (k + 1) (by omega)
  have hbs := hB.lt
  have hdr := hD.lt
  have hrk := hrd k hk
  have eb : bump (fun _ => nodeOf b17 b18 ro (rd k)) 1 (hist rd k) = hist rd (k + 1) := by rw [one_bump hro]; funext i; rw [hist]
  refine (zadd_calls (sumK m k mn drb rp sp) (fun _ => nodeOf b17 b18 ro (rd k)) bs nb 1 k rr sr r s none (hist rd k) w
    ⟨hB, by omega, hN.lt, hnb, fun i hi => ?_, fun i hi _ => ⟨fun b e => ?_, ⟨b18, rfl, H18.lt, h18, H18.cell 0⟩, fun b e => ⟨(H20 b e).2.lt, (H20 b e).1, (H20 b e).2.cell 0⟩⟩, r1, s1, rfl, (fun _ _ e => by cases e), hD, hm, hne,
      fun i _ => ⟨(hist_bd rd k i).1, by have := (hist_bd rd k i).2; omega⟩, fun hu => ?_, ⟨by show (0 : Int) ≤ k; omega, by show (k : Int) < _; omega⟩, ⟨by show (0 : Int) ≤ 0; omega, by show (0 : Int) < _; omega⟩, ⟨by show (0 : Int) ≤ 0; omega, by show (0 : Int) < _; omega⟩, ⟨by show (0 : Int) ≤ 0; omega, by show (0 : Int) < _; omega⟩⟩).mono ?_
  · obtain rfl : i = 0 := by omega
    exact ⟨hN.cell 0, hN.cell 1, hN.cell 2, hN.cell 3, hN.cell 4⟩
  · obtain rfl : b17 = b := Option.some.inj e
    exact ⟨H17.lt, h17, H17.cell 0, .inl rfl⟩
  · rw [one_und hro] at hu
    have hu : rd k ≠ 0 := by simpa using hu
    exact ⟨(rd k - 1).toNat, by show _ < m; omega, by rw [one_last hro]; omega⟩
  · rintro e w' ⟨he, kp, -, hD', no, yes⟩
    replace kp : Kept [bs, drb] w w' := kp
    replace hD' : IsB w' drb (rowA (fun i => .int .u64 (bump (fun _ => nodeOf b17 b18 ro (rd k)) 1 (hist rd k) i)) m) 31 := hD'
    rw [eb] at hD'
    refine ⟨he, kp, ?_⟩
    by_cases hz : rd k = 0
    · have hu := one_und (b17 := b17) (b18 := b18) hro
      rw [decide_eq_true hz] at hu
      have B' := no hu
      rw [sumK_added _ _ _ _ _ _ _ _ _ _ _ _ (by omega)] at B'
      refine ⟨mn, r, s, B', hD', ?_, r2 _ kp, s2 _ kp⟩
      have e1 : decN rd (k + 1) = decN rd k := by rw [decN, if_pos hz]
      have e2 : totN rd (k + 1) = totN rd k := by rw [totN, hz]; simp
      unfold MeanI
      rw [e1, e2]
      exact mean.keep kp
    · have hu := one_und (b17 := b17) (b18 := b18) hro
      rw [decide_eq_false hz] at hu
      obtain ⟨mb, hmb, B', M'⟩ := yes hu
      rw [sumK_added _ _ _ _ _ _ _ _ _ _ _ _ (by omega)] at B'
      refine ⟨some ⟨mb, 0, none⟩, r, s, B', hD', ⟨fun e => ?_, fun _ => ⟨mb, rfl, by simp; omega, ?_⟩⟩, r2 _ kp, s2 _ kp⟩
      · rw [decN, if_neg hz] at e
        have := decN_bd rd k
        omega
      · rw [eb] at M'
        replace M' : IsB w' mb #[.float .f64 (fdiv (totTo (hist rd (k + 1)) m % 18446744073709551616) (sumTo (hist rd (k + 1)) m))] 54 := M'
        rw [hsum.1, hsum.2] at M'
        have tb := totN_bd rd K (fun i hi => ⟨(hrd i hi).1, by have := (hrd i hi).2; omega⟩) (k + 1) (by omega)
        rw [show totN rd (k + 1) % 18446744073709551616 = totN rd (k + 1) by omega] at M'
        exact M'

end Go.Proofs.Qxb6602526a
