import Derived.Test.Qxb6602526aG5
namespace Go.Proofs.Qxb6602526a
open Go.RowKit
set_option linter.unusedSimpArgs false
set_option linter.unusedVariables false

/-- s is the latest split ahead of k, or -1. -/
structure LastS (sp : Nat → Bool) (k : Nat) (s : Int) : Prop where
  lo : -1 ≤ s
  hi : s < k
  at_ : ∀ j : Nat, s = j → sp j = true
  no : ∀ i : Nat, s < i → i < k → sp i = false
theorem LastS.zero (sp : Nat → Bool) : LastS sp 0 (-1) := ⟨by omega, by omega, fun j h => by omega, fun i h1 h2 => by omega⟩
theorem LastS.yes {sp : Nat → Bool} {k : Nat} {s : Int} (h : LastS sp k s) (hk : sp k = true) : LastS sp (k + 1) k :=
  ⟨by omega, by omega, fun j e => by have : j = k := by omega
                                     subst this; exact hk, fun i h1 h2 => by omega⟩
theorem LastS.skip {sp : Nat → Bool} {k : Nat} {s : Int} (h : LastS sp k s) (hk : sp k = false) : LastS sp (k + 1) s :=
  ⟨h.lo, by have := h.hi; omega, h.at_, fun i h1 h2 => by
    by_cases e : i = k
    · subst e; exact hk
    · exact h.no i h1 (by omega)⟩

section plain
variable (kap st : Int) (m : Nat) (p ck : Nat → Int) (res idx : Nat → Nat → Int)
def spl (k : Nat) : Bool := dif (idx k) (idx k 0) m
def clk (k : Nat) : Bool := cls kap st (ck k) (idx (k - 1)) (res k) (idx k) m
theorem run_any (k : Nat) : (IW.run kap st m p ck res idx (k + 1)).any = ((IW.run kap st m p ck res idx k).any || spl m idx k) := rfl
theorem run_last (k : Nat) : (IW.run kap st m p ck res idx (k + 1)).last = if spl m idx k then p k else (IW.run kap st m p ck res idx k).last := rfl
theorem run_split (k : Nat) : (IW.run kap st m p ck res idx (k + 1)).split = spl m idx k := rfl
theorem run_whole (k : Nat) : (IW.run kap st m p ck res idx (k + 1)).whole = (!spl m idx k && ((IW.run kap st m p ck res idx k).whole || (ck k == 0))) := rfl
/-- Pulse k counts as a violation. -/
def vio (k : Nat) : Bool := !spl m idx k && (((IW.run kap st m p ck res idx k).whole || (ck k == 0)) && decide (0 < k) && !((IW.run kap st m p ck res idx k).cnt && !(ck k == 0)) && !clk kap st m ck res idx k)
theorem run_viol' (k : Nat) : (IW.run kap st m p ck res idx (k + 1)).viol = if spl m idx k then 0 else if vio kap st m p ck res idx k then (IW.run kap st m p ck res idx k).viol + 1 else (IW.run kap st m p ck res idx k).viol := by
  simp only [IW.run, IW.obs, IW.run_kap, IW.run_st, IW.run_seen]
  rfl
theorem run_cnt (k : Nat) : (IW.run kap st m p ck res idx (k + 1)).cnt = (((IW.run kap st m p ck res idx k).cnt && !(ck k == 0)) || vio kap st m p ck res idx k) := by
  simp only [IW.run, IW.obs, IW.run_kap, IW.run_st, IW.run_seen]
  rfl

theorem run_start {K : Nat} {s : Int} (h : LastS (spl m idx) K s) {c : Nat} (hc : s + 1 = c) : (IW.run kap st m p ck res idx c).viol = 0 ∧ (IW.run kap st m p ck res idx c).whole = false := by
  cases c with
  | zero => exact ⟨rfl, rfl⟩
  | succ j =>
    have := h.at_ j (by omega)
    rw [run_viol', run_whole, this]
    exact ⟨rfl, rfl⟩
theorem run_skip {c : Nat} (hs : spl m idx c = false) (hc : ck c ≠ 0) (hw : (IW.run kap st m p ck res idx c).whole = false) :
    (IW.run kap st m p ck res idx (c + 1)).viol = (IW.run kap st m p ck res idx c).viol ∧ (IW.run kap st m p ck res idx (c + 1)).whole = false := by
  have g : (ck c == 0) = false := by simpa using hc
  rw [run_viol', run_whole]
  simp [vio, hs, hw, g]

/-- Within a cycle that begins at c. -/
structure Cyc (c k : Nat) (bk : Bool) : Prop where
  vi : (IW.run kap st m p ck res idx k).viol = (IW.run kap st m p ck res idx c).viol + (if bk then 1 else 0)
  b0 : k = c → bk = false
  wh : c < k → (IW.run kap st m p ck res idx k).whole = true ∧ (IW.run kap st m p ck res idx k).cnt = bk
theorem Cyc.start (c : Nat) : Cyc kap st m p ck res idx c c false := ⟨by simp, fun _ => rfl, fun h => by omega⟩
theorem Cyc.step {c k : Nat} {bk : Bool} (h : Cyc kap st m p ck res idx c k bk) (hck : c ≤ k) (hs : spl m idx k = false) (h0 : k = c → ck k = 0) (h1 : c < k → ck k ≠ 0) :
    Cyc kap st m p ck res idx c (k + 1) (bk || (decide (1 ≤ k) && !clk kap st m ck res idx k)) := by
  have e1 : decide (0 < k) = decide (1 ≤ k) := rfl
  by_cases e : k = c
  · have b0 := h.b0 e
    subst b0
    have z := h0 e
    have vi : vio kap st m p ck res idx k = (decide (1 ≤ k) && !clk kap st m ck res idx k) := by simp [vio, hs, z, e1]
    refine ⟨?_, fun e' => by omega, fun _ => ⟨?_, ?_⟩⟩
    · rw [run_viol', hs, vi, h.vi]
      simp only [Bool.false_or, Bool.false_eq_true, if_false, Int.add_zero]
      split <;> omega
    · rw [run_whole, hs, z]; simp
    · rw [run_cnt, vi, z]; simp
  · obtain ⟨w1, w2⟩ := h.wh (by omega)
    have z : (ck k == 0) = false := by simpa using h1 (by omega)
    have vi : vio kap st m p ck res idx k = (!bk && (decide (1 ≤ k) && !clk kap st m ck res idx k)) := by
      simp only [vio, hs, z, w1, w2, e1]
      cases bk <;> simp
    refine ⟨?_, fun e' => by omega, fun _ => ⟨?_, ?_⟩⟩
    · rw [run_viol', hs, vi, h.vi]
      cases bk
      · simp only [Bool.not_false, Bool.true_and, Bool.false_or, Bool.false_eq_true, if_false, Int.add_zero]
        split <;> omega
      · simp
    · rw [run_whole, hs, w1]; simp
    · rw [run_cnt, vi, z, w2]
      cases bk <;> simp
end plain

/-- A pulse's row of indexes, and rowDiffer32 of it. -/
theorem rowk {m K I k : Nat} {xi : Option Addr} {ib : Nat} {fi : Nat → Int} {w : World} (hX : RowR .u32 xi ib 0 I fi w) (hI : I = m * K) (hk : k < K) (lI : (I : Int) ≤ 1048576) (lK : (K : Int) ≤ 65536) :
    ∃ ys, IntKind.i64.wrap ((k : Int) * (m : Int)) = ((k * m : Nat) : Int) ∧ IntKind.i64.wrap ((k : Int) + 1) = (k : Int) + 1 ∧ IntKind.i64.wrap (((k : Int) + 1) * (m : Int)) = (((k + 1) * m : Nat) : Int) ∧ ((k * m : Nat) : Int) ≤ ((k + 1) * m : Nat) ∧ (((k + 1) * m : Nat) : Int) ≤ I ∧
      ((I = k * m ∧ ys = xi) ∨ (¬ (I = k * m) ∧ ∃ ib, xi = some ⟨ib, 0, none⟩ ∧ ys = some ⟨ib, k * m, none⟩)) ∧
      Calls Try.prog 38 #[.slice ys ((k + 1) * m - k * m) (I - k * m)] w fun e w' => e = .returned (.bool (spl m (fun k i => fi (k * m + i)) k)) ∧ w' = w := by
  rcases Nat.eq_zero_or_pos m with hm | hm
  · subst hm
    have h0 : I = 0 := by rw [hI, Nat.zero_mul]
    subst h0
    refine ⟨xi, by simp; decide, by rw [IntKind.wrap_i64]; omega, by simp; decide, by simp, by simp, .inl ⟨by simp, rfl⟩, ?_⟩
    exact df38 xi ib 0 0 _ (fun i => fi (k * 0 + i)) w (by omega) RowR.none
  · obtain ⟨g1, g2, g3, g4, g5, g6, g7, g8⟩ := bounds hI hk hm lI
    have e5 : (k + 1) * m = k * m + m := Nat.succ_mul k m
    refine ⟨some ⟨ib, k * m, none⟩, g1, g2, g3, g4, g5, .inr ⟨g6, ib, hX.ptr (by omega), rfl⟩, ?_⟩
    rw [g7]
    exact df38 _ ib (k * m) m _ (fun i => fi (k * m + i)) w (by omega) (hX.sub (k * m) m (by omega))

theorem md_round1 (kap st : Int) (m K I : Nat) (xp xc xr xi : Option Addr) (pb cb rb ib : Nat) (p ck fr fi : Nat → Int) (k : Nat) (s : Int) (a : Act) (w : World) (Q : Exit → Act → World → Prop) (hfr : Fr 123 a) (hs : Slots [(0, .int .i64 kap), (1, .int .u32 st), (2, .int .i64 (m : Nat)), (3, .slice xp K K), (4, .slice xc K K), (5, .slice xr I I), (6, .slice xi I I), (19, .int .i64 (K : Nat)), (20, .int .i64 s), (21, .bool (IW.run kap st m p ck (fun k i => fr (k * m + i)) (fun k i => fi (k * m + i)) k).any), (22, .int .u64 (IW.run kap st m p ck (fun k i => fr (k * m + i)) (fun k i => fi (k * m + i)) k).last), (23, .int .i64 (k : Nat))] a)
    (hP : RowR .u64 xp pb 0 K p w) (hC : RowR .i64 xc cb 0 K ck w) (hR : RowR .u8 xr rb 0 I fr w) (hX : RowR .u32 xi ib 0 I fi w) (lK : (K : Int) ≤ 65536) (hI : I = m * K) (lI : (I : Int) ≤ 1048576) (lm : (m : Int) ≤ 65536) (hlt : k < K) (hL : LastS (spl m (fun k i => fi (k * m + i))) k s)
    (hQ : ∀ a' (s : Int), LastS (spl m (fun k i => fi (k * m + i))) (k + 1) s → Fr 123 a' → Slots [(0, .int .i64 kap), (1, .int .u32 st), (2, .int .i64 (m : Nat)), (3, .slice xp K K), (4, .slice xc K K), (5, .slice xr I I), (6, .slice xi I I), (19, .int .i64 (K : Nat)), (20, .int .i64 s), (21, .bool (IW.run kap st m p ck (fun k i => fr (k * m + i)) (fun k i => fi (k * m + i)) (k + 1)).any), (22, .int .u64 (IW.run kap st m p ck (fun k i => fr (k * m + i)) (fun k i => fi (k * m + i)) (k + 1)).last), (23, .int .i64 (k : Nat))] a' → Q .normal a' w) :
    Code.wp Try.prog (hdC (tlC (inC (inC (tlC (nthC 5 (bodyC Try.f29))))))) Q a w := by
  refine wp_navB (id := 1) rfl ?_
  obtain ⟨ys, q1, q2, q3, q4, q5, q6, q7⟩ := rowk hX hI hlt lI lK
  refine wp_nav rfl (x8 _ _ _ _ _ _ _ _ _ _ _ _ k (k * m) ((k + 1) * m) ys _ a w _ hfr hs q1 q2 q3 q4 q5 q6 q7 fun a3 fr3 s3 => ?_)
  have s3' : Slots [(0, .int .i64 kap), (1, .int .u32 st), (2, .int .i64 (m : Nat)), (3, .slice xp K K), (4, .slice xc K K), (5, .slice xr I I), (6, .slice xi I I), (19, .int .i64 (K : Nat)), (20, .int .i64 s), (21, .bool (IW.run kap st m p ck (fun k i => fr (k * m + i)) (fun k i => fi (k * m + i)) k).any), (22, .int .u64 (IW.run kap st m p ck (fun k i => fr (k * m + i)) (fun k i => fi (k * m + i)) k).last), (23, .int .i64 (k : Nat))] a3 := ⟨s3.1, s3.2.1, s3.2.2.1, s3.2.2.2.1, s3.2.2.2.2.1, s3.2.2.2.2.2.1, s3.2.2.2.2.2.2.1, s3.2.2.2.2.2.2.2.1, s3.2.2.2.2.2.2.2.2.1, s3.2.2.2.2.2.2.2.2.2.1, s3.2.2.2.2.2.2.2.2.2.2.1, s3.2.2.2.2.2.2.2.2.2.2.2.1, trivial⟩
  refine wp_navI (j := 47) rfl s3.2.2.2.2.2.2.2.2.2.2.2.2.1 (fun ht => ?_) (fun ht => ?_)
  · have ep := hP.ptr (by omega)
    subst ep
    have cp := hP.cell k hlt
    rw [Nat.zero_add] at cp
    refine x9 _ _ _ _ _ _ _ _ _ _ _ k pb (p k) a3 w _ fr3 s3' (by omega) cp fun a4 fr4 s4 => ?_
    simp only [Exit.inBlock]
    refine hQ a4 k (hL.yes ht) fr4 ?_
    rw [run_any, run_last, ht, Bool.or_true, if_pos rfl]
    exact s4
  · refine wp_skip' rfl ?_
    simp only [Exit.inBlock]
    refine hQ a3 s (hL.skip ht) fr3 ?_
    rw [run_any, run_last, ht, Bool.or_false, if_neg (by simp)]
    exact s3'

theorem md_loop1 (kap st : Int) (m K I : Nat) (xp xc xr xi : Option Addr) (pb cb rb ib : Nat) (p ck fr fi : Nat → Int) (a : Act) (w : World) (Q : Exit → Act → World → Prop) (hfr : Fr 123 a) (hs : Slots [(0, .int .i64 kap), (1, .int .u32 st), (2, .int .i64 (m : Nat)), (3, .slice xp K K), (4, .slice xc K K), (5, .slice xr I I), (6, .slice xi I I), (19, .int .i64 (K : Nat)), (20, .int .i64 (-1)), (21, .bool false), (22, .int .u64 0), (23, .int .i64 (0 : Nat))] a)
    (hP : RowR .u64 xp pb 0 K p w) (hC : RowR .i64 xc cb 0 K ck w) (hR : RowR .u8 xr rb 0 I fr w) (hX : RowR .u32 xi ib 0 I fi w) (lK : (K : Int) ≤ 65536) (hI : I = m * K) (lI : (I : Int) ≤ 1048576) (lm : (m : Int) ≤ 65536)
    (hexit : ∀ a' (s : Int), LastS (spl m (fun k i => fi (k * m + i))) K s → Fr 123 a' → Slots [(0, .int .i64 kap), (1, .int .u32 st), (2, .int .i64 (m : Nat)), (3, .slice xp K K), (4, .slice xc K K), (5, .slice xr I I), (6, .slice xi I I), (19, .int .i64 (K : Nat)), (20, .int .i64 s), (21, .bool (IW.run kap st m p ck (fun k i => fr (k * m + i)) (fun k i => fi (k * m + i)) K).any), (22, .int .u64 (IW.run kap st m p ck (fun k i => fr (k * m + i)) (fun k i => fi (k * m + i)) K).last)] a' → Q (.exit 0) a' w) :
    Code.wp Try.prog (inC (tlC (nthC 5 (bodyC Try.f29)))) Q a w := by
  refine wp_navL rfl (wp_loop (fun a' w' => w' = w ∧ ∃ (k : Nat) (s : Int), k ≤ K ∧ LastS (spl m (fun k i => fi (k * m + i))) k s ∧ Fr 123 a' ∧ Slots [(0, .int .i64 kap), (1, .int .u32 st), (2, .int .i64 (m : Nat)), (3, .slice xp K K), (4, .slice xc K K), (5, .slice xr I I), (6, .slice xi I I), (19, .int .i64 (K : Nat)), (20, .int .i64 s), (21, .bool (IW.run kap st m p ck (fun k i => fr (k * m + i)) (fun k i => fi (k * m + i)) k).any), (22, .int .u64 (IW.run kap st m p ck (fun k i => fr (k * m + i)) (fun k i => fi (k * m + i)) k).last), (23, .int .i64 (k : Nat))] a') (fun a' _ => K - (intOf (sl a' 23)).toNat) ⟨rfl, 0, -1, Nat.zero_le _, LastS.zero _, hfr, hs⟩ ?_)
  rintro a1 w1 ⟨rfl, k, s, hk, hL, fr1, s1⟩
  have mu : (intOf (sl a1 23)).toNat = k := by
    have : sl a1 23 = .int .i64 (k : Nat) := s1.2.2.2.2.2.2.2.2.2.2.2.1
    rw [this]; simp only [intOf]; omega
  refine wp_nav rfl (x5h _ _ _ _ _ _ _ _ _ _ _ _ k a1 w1 _ fr1 s1 hk lK (fun a2 hlt fr2 s2 => ?_) (fun a2 hke fr2 s2 => by subst hke; exact hexit a2 s hL fr2 s2))
  refine wp_nav rfl (md_round1 _ _ _ _ _ _ _ _ _ pb cb rb ib p ck fr fi k s a2 w1 _ fr2 s2 hP hC hR hX lK hI lI lm hlt hL fun a3 s' hL' fr3 s3 => ?_)
  refine x5n _ _ _ _ _ _ _ _ _ _ _ _ k a3 w1 _ fr3 s3 (by omega) (fun a5 fr5 s5 => ?_)
  refine ⟨⟨rfl, k + 1, s', by omega, hL', fr5, s5⟩, ?_⟩
  have mu2 : (intOf (sl a5 23)).toNat = k + 1 := by
    have : sl a5 23 = .int .i64 (k + 1 : Nat) := s5.2.2.2.2.2.2.2.2.2.2.2.1
    rw [this]; simp only [intOf]; omega
  rw [mu, mu2]; omega

/-- The cycle's end. -/
theorem md_loop3 (kap st : Int) (m K I : Nat) (xp xc xr xi : Option Addr) (s : Int) (an : Bool) (la : Int) (se d : Bool) (v : Int) (c cb : Nat) (ck : Nat → Int) (a : Act) (w : World) (Q : Exit → Act → World → Prop) (hfr : Fr 123 a) (hs : Slots [(0, .int .i64 kap), (1, .int .u32 st), (2, .int .i64 (m : Nat)), (3, .slice xp K K), (4, .slice xc K K), (5, .slice xr I I), (6, .slice xi I I), (19, .int .i64 (K : Nat)), (20, .int .i64 s), (21, .bool an), (22, .int .u64 la), (24, .bool se), (25, .bool d), (26, .int .u64 v), (27, .int .i64 (c : Nat)), (28, .int .i64 (c + 1 : Nat))] a)
    (hC : RowR .i64 xc cb 0 K ck w) (lK : (K : Int) ≤ 65536) (hc : c < K)
    (hexit : ∀ a' (e : Nat), c < e → e ≤ K → (∀ j, c < j → j < e → ck j ≠ 0) → (e = K ∨ ck e = 0) → Fr 123 a' → Slots [(0, .int .i64 kap), (1, .int .u32 st), (2, .int .i64 (m : Nat)), (3, .slice xp K K), (4, .slice xc K K), (5, .slice xr I I), (6, .slice xi I I), (19, .int .i64 (K : Nat)), (20, .int .i64 s), (21, .bool an), (22, .int .u64 la), (24, .bool se), (25, .bool d), (26, .int .u64 v), (27, .int .i64 (c : Nat)), (28, .int .i64 (e : Nat))] a' → Q (.exit 4) a' w) :
    Code.wp Try.prog (inC (nthC 2 (inC (tlC (inC (inC (nthC 10 (bodyC Try.f29)))))))) Q a w := by
  refine wp_navL rfl (wp_loop (fun a' w' => w' = w ∧ ∃ e : Nat, c < e ∧ e ≤ K ∧ (∀ j, c < j → j < e → ck j ≠ 0) ∧ Fr 123 a' ∧ Slots [(0, .int .i64 kap), (1, .int .u32 st), (2, .int .i64 (m : Nat)), (3, .slice xp K K), (4, .slice xc K K), (5, .slice xr I I), (6, .slice xi I I), (19, .int .i64 (K : Nat)), (20, .int .i64 s), (21, .bool an), (22, .int .u64 la), (24, .bool se), (25, .bool d), (26, .int .u64 v), (27, .int .i64 (c : Nat)), (28, .int .i64 (e : Nat))] a') (fun a' _ => K - (intOf (sl a' 28)).toNat) ⟨rfl, c + 1, by omega, by omega, fun j h1 h2 => by omega, hfr, hs⟩ ?_)
  rintro a1 w1 ⟨rfl, e, h1, h2, h3, fr1, s1⟩
  have mu : (intOf (sl a1 28)).toNat = e := by
    have : sl a1 28 = .int .i64 (e : Nat) := s1.2.2.2.2.2.2.2.2.2.2.2.2.2.2.2.1
    rw [this]; simp only [intOf]; omega
  by_cases hlt : e < K
  · have ec := hC.ptr (by omega)
    subst ec
    have cc := hC.cell e hlt
    rw [Nat.zero_add] at cc
    refine wp_nav rfl (x20 _ _ _ _ _ _ _ _ _ _ _ _ _ v c e cb (ck e) a1 w1 _ fr1 s1 (by omega) cc (fun a2 hx fr2 s2 => ?_) (fun a2 hx fr2 s2 => hexit a2 e h1 h2 h3 (.inr hx) fr2 s2))
    refine x21 _ _ _ _ _ _ _ _ _ _ _ _ _ _ v c e a2 w1 _ fr2 s2 (by omega) (fun a3 fr3 s3 => ?_)
    refine ⟨⟨rfl, e + 1, by omega, by omega, fun j g1 g2 => ?_, fr3, s3⟩, ?_⟩
    · by_cases ej : j = e
      · subst ej; exact hx
      · exact h3 j g1 (by omega)
    have mu2 : (intOf (sl a3 28)).toNat = e + 1 := by
      have : sl a3 28 = .int .i64 (e + 1 : Nat) := s3.2.2.2.2.2.2.2.2.2.2.2.2.2.2.2.1
      rw [this]; simp only [intOf]; omega
    rw [mu, mu2]; omega
  · exact wp_nav rfl (x20x _ _ _ _ _ _ _ _ _ _ _ _ _ _ v c e a1 w1 _ fr1 s1 (by omega) (fun a2 fr2 s2 => hexit a2 e h1 h2 h3 (.inl (by omega)) fr2 s2))

theorem md_round4 (kap st : Int) (m K I : Nat) (xp xc xr xi : Option Addr) (s : Int) (an : Bool) (la : Int) (se d : Bool) (v : Int) (c e : Nat) (pb cb rb ib : Nat) (p ck fr fi : Nat → Int) (bk : Bool) (k : Nat) (a : Act) (w : World) (Q : Exit → Act → World → Prop) (hfr : Fr 123 a) (hs : Slots [(0, .int .i64 kap), (1, .int .u32 st), (2, .int .i64 (m : Nat)), (3, .slice xp K K), (4, .slice xc K K), (5, .slice xr I I), (6, .slice xi I I), (19, .int .i64 (K : Nat)), (20, .int .i64 s), (21, .bool an), (22, .int .u64 la), (24, .bool se), (25, .bool d), (26, .int .u64 v), (27, .int .i64 (c : Nat)), (28, .int .i64 (e : Nat)), (29, .bool bk), (30, .int .i64 (k : Nat))] a)
    (hP : RowR .u64 xp pb 0 K p w) (hC : RowR .i64 xc cb 0 K ck w) (hR : RowR .u8 xr rb 0 I fr w) (hX : RowR .u32 xi ib 0 I fi w) (lK : (K : Int) ≤ 65536) (hI : I = m * K) (lI : (I : Int) ≤ 1048576) (lm : (m : Int) ≤ 65536) (r8 : ∀ i, i < I → 0 ≤ fr i ∧ fr i < 256) (x32 : ∀ i, i < I → 0 ≤ fi i ∧ fi i < 4294967296) (t0 : 0 < st) (t1 : st < 4294967296) (hk : k < K)
    (hQ : ∀ a', Fr 123 a' → Slots [(0, .int .i64 kap), (1, .int .u32 st), (2, .int .i64 (m : Nat)), (3, .slice xp K K), (4, .slice xc K K), (5, .slice xr I I), (6, .slice xi I I), (19, .int .i64 (K : Nat)), (20, .int .i64 s), (21, .bool an), (22, .int .u64 la), (24, .bool se), (25, .bool d), (26, .int .u64 v), (27, .int .i64 (c : Nat)), (28, .int .i64 (e : Nat)), (29, .bool (bk || (decide (1 ≤ k) && !(clk kap st m ck (fun k i => fr (k * m + i)) (fun k i => fi (k * m + i)) k)))), (30, .int .i64 (k : Nat))] a' → Q .normal a' w) :
    Code.wp Try.prog (hdC (tlC (inC (inC (tlC (nthC 4 (inC (tlC (inC (inC (nthC 10 (bodyC Try.f29)))))))))))) Q a w := by
  refine wp_navB (id := 7) rfl ?_
  have key : ∀ (a1 : Act) (t : Bool), Fr 123 a1 → Slots [(0, .int .i64 kap), (1, .int .u32 st), (2, .int .i64 (m : Nat)), (3, .slice xp K K), (4, .slice xc K K), (5, .slice xr I I), (6, .slice xi I I), (19, .int .i64 (K : Nat)), (20, .int .i64 s), (21, .bool an), (22, .int .u64 la), (24, .bool se), (25, .bool d), (26, .int .u64 v), (27, .int .i64 (c : Nat)), (28, .int .i64 (e : Nat)), (29, .bool bk), (30, .int .i64 (k : Nat)), (113, .bool t)] a1 → t = (decide (1 ≤ k) && !(clk kap st m ck (fun k i => fr (k * m + i)) (fun k i => fi (k * m + i)) k)) → Code.wp Try.prog (tlC (inC (hdC (tlC (inC (inC (tlC (nthC 4 (inC (tlC (inC (inC (nthC 10 (bodyC Try.f29)))))))))))))) (Exit.inBlock 7 Q) a1 w := by
    intro a1 t fr1 s1 ht
    have s1' : Slots [(0, .int .i64 kap), (1, .int .u32 st), (2, .int .i64 (m : Nat)), (3, .slice xp K K), (4, .slice xc K K), (5, .slice xr I I), (6, .slice xi I I), (19, .int .i64 (K : Nat)), (20, .int .i64 s), (21, .bool an), (22, .int .u64 la), (24, .bool se), (25, .bool d), (26, .int .u64 v), (27, .int .i64 (c : Nat)), (28, .int .i64 (e : Nat)), (29, .bool bk), (30, .int .i64 (k : Nat))] a1 := ⟨s1.1, s1.2.1, s1.2.2.1, s1.2.2.2.1, s1.2.2.2.2.1, s1.2.2.2.2.2.1, s1.2.2.2.2.2.2.1, s1.2.2.2.2.2.2.2.1, s1.2.2.2.2.2.2.2.2.1, s1.2.2.2.2.2.2.2.2.2.1, s1.2.2.2.2.2.2.2.2.2.2.1, s1.2.2.2.2.2.2.2.2.2.2.2.1, s1.2.2.2.2.2.2.2.2.2.2.2.2.1, s1.2.2.2.2.2.2.2.2.2.2.2.2.2.1, s1.2.2.2.2.2.2.2.2.2.2.2.2.2.2.1, s1.2.2.2.2.2.2.2.2.2.2.2.2.2.2.2.1, s1.2.2.2.2.2.2.2.2.2.2.2.2.2.2.2.2.1, s1.2.2.2.2.2.2.2.2.2.2.2.2.2.2.2.2.2.1, trivial⟩
    refine wp_navI (j := 113) rfl s1.2.2.2.2.2.2.2.2.2.2.2.2.2.2.2.2.2.2.1 (fun h => ?_) (fun h => ?_)
    · refine x27 _ _ _ _ _ _ _ _ _ _ _ _ _ _ v c e bk k a1 w _ fr1 s1' fun a2 fr2 s2 => ?_
      simp only [Exit.inBlock]
      refine hQ a2 fr2 ?_
      rw [← ht, h, Bool.or_true]
      exact s2
    · refine wp_skip' rfl ?_
      simp only [Exit.inBlock]
      refine hQ a1 fr1 ?_
      rw [← ht, h, Bool.or_false]
      exact s1'
  rcases Nat.eq_zero_or_pos k with h0 | h0
  · refine wp_nav rfl (x26z _ _ _ _ _ _ _ _ _ _ _ _ _ _ v c e bk k a w _ hfr hs h0 fun a1 fr1 s1 => ?_)
    exact key a1 false fr1 s1 (by subst h0; rfl)
  · refine wp_nav rfl (x26 _ _ _ _ _ _ _ _ _ _ _ _ _ _ v c e bk k _ a w _ hfr hs (by omega) (at39 kap st m K I cb k xc xr xi rb ib ck fr fi w hC hR hX r8 x32 t0 t1 hk h0 lK hI lI lm) fun a1 fr1 s1 => ?_)
    exact key a1 _ fr1 s1 (by rw [show decide (1 ≤ k) = true by simp; omega, Bool.true_and]; rfl)

theorem md_loop4 (kap st : Int) (m K I : Nat) (xp xc xr xi : Option Addr) (s : Int) (an : Bool) (la : Int) (se d : Bool) (v : Int) (c e : Nat) (pb cb rb ib : Nat) (p ck fr fi : Nat → Int) (a : Act) (w : World) (Q : Exit → Act → World → Prop) (hfr : Fr 123 a) (hs : Slots [(0, .int .i64 kap), (1, .int .u32 st), (2, .int .i64 (m : Nat)), (3, .slice xp K K), (4, .slice xc K K), (5, .slice xr I I), (6, .slice xi I I), (19, .int .i64 (K : Nat)), (20, .int .i64 s), (21, .bool an), (22, .int .u64 la), (24, .bool se), (25, .bool d), (26, .int .u64 v), (27, .int .i64 (c : Nat)), (28, .int .i64 (e : Nat)), (29, .bool false), (30, .int .i64 (c : Nat))] a)
    (hP : RowR .u64 xp pb 0 K p w) (hC : RowR .i64 xc cb 0 K ck w) (hR : RowR .u8 xr rb 0 I fr w) (hX : RowR .u32 xi ib 0 I fi w) (lK : (K : Int) ≤ 65536) (hI : I = m * K) (lI : (I : Int) ≤ 1048576) (lm : (m : Int) ≤ 65536) (r8 : ∀ i, i < I → 0 ≤ fr i ∧ fr i < 256) (x32 : ∀ i, i < I → 0 ≤ fi i ∧ fi i < 4294967296) (t0 : 0 < st) (t1 : st < 4294967296) (hce : c < e) (heK : e ≤ K) (hz : ck c = 0) (hnz : ∀ j, c < j → j < e → ck j ≠ 0) (hns : ∀ j, c ≤ j → j < K → (spl m (fun k i => fi (k * m + i))) j = false)
    (hexit : ∀ a' (bk : Bool), Cyc kap st m p ck (fun k i => fr (k * m + i)) (fun k i => fi (k * m + i)) c e bk → Fr 123 a' → Slots [(0, .int .i64 kap), (1, .int .u32 st), (2, .int .i64 (m : Nat)), (3, .slice xp K K), (4, .slice xc K K), (5, .slice xr I I), (6, .slice xi I I), (19, .int .i64 (K : Nat)), (20, .int .i64 s), (21, .bool an), (22, .int .u64 la), (24, .bool se), (25, .bool d), (26, .int .u64 v), (27, .int .i64 (c : Nat)), (28, .int .i64 (e : Nat)), (29, .bool bk)] a' → Q (.exit 6) a' w) :
    Code.wp Try.prog (inC (tlC (nthC 4 (inC (tlC (inC (inC (nthC 10 (bodyC Try.f29))))))))) Q a w := by
  refine wp_navL rfl (wp_loop (fun a' w' => w' = w ∧ ∃ (k : Nat) (bk : Bool), c ≤ k ∧ k ≤ e ∧ Cyc kap st m p ck (fun k i => fr (k * m + i)) (fun k i => fi (k * m + i)) c k bk ∧ Fr 123 a' ∧ Slots [(0, .int .i64 kap), (1, .int .u32 st), (2, .int .i64 (m : Nat)), (3, .slice xp K K), (4, .slice xc K K), (5, .slice xr I I), (6, .slice xi I I), (19, .int .i64 (K : Nat)), (20, .int .i64 s), (21, .bool an), (22, .int .u64 la), (24, .bool se), (25, .bool d), (26, .int .u64 v), (27, .int .i64 (c : Nat)), (28, .int .i64 (e : Nat)), (29, .bool bk), (30, .int .i64 (k : Nat))] a') (fun a' _ => e - (intOf (sl a' 30)).toNat) ⟨rfl, c, false, Nat.le_refl _, by omega, Cyc.start _ _ _ _ _ _ _ _, hfr, hs⟩ ?_)
  rintro a1 w1 ⟨rfl, k, bk, h1, h2, hcy, fr1, s1⟩
  have mu : (intOf (sl a1 30)).toNat = k := by
    have : sl a1 30 = .int .i64 (k : Nat) := s1.2.2.2.2.2.2.2.2.2.2.2.2.2.2.2.2.2.1
    rw [this]; simp only [intOf]; omega
  refine wp_nav rfl (x24h _ _ _ _ _ _ _ _ _ _ _ _ _ _ v c e bk k a1 w1 _ fr1 s1 h2 (by omega) (fun a2 hlt fr2 s2 => ?_) (fun a2 hke fr2 s2 => by subst hke; exact hexit a2 bk hcy fr2 s2))
  refine wp_nav rfl (md_round4 _ _ _ _ _ _ _ _ _ _ _ _ _ _ v c e pb cb rb ib p ck fr fi bk k a2 w1 _ fr2 s2 hP hC hR hX lK hI lI lm r8 x32 t0 t1 (by omega) fun a3 fr3 s3 => ?_)
  refine x25 _ _ _ _ _ _ _ _ _ _ _ _ _ _ v c e _ k a3 w1 _ fr3 s3 (by omega) (fun a4 fr4 s4 => ?_)
  refine ⟨⟨rfl, k + 1, _, by omega, by omega, hcy.step _ _ _ _ _ _ _ h1 (hns k h1 (by omega)) (fun ek => by rw [ek]; exact hz) (fun ek => hnz k ek hlt), fr4, s4⟩, ?_⟩
  have mu2 : (intOf (sl a4 30)).toNat = k + 1 := by
    have : sl a4 30 = .int .i64 (k + 1 : Nat) := s4.2.2.2.2.2.2.2.2.2.2.2.2.2.2.2.2.2.1
    rw [this]; simp only [intOf]; omega
  rw [mu, mu2]; omega

theorem md_round2 (kap st : Int) (m K I : Nat) (xp xc xr xi : Option Addr) (s : Int) (an : Bool) (la : Int) (se d : Bool) (c : Nat) (pb cb rb ib : Nat) (p ck fr fi : Nat → Int) (a : Act) (w : World) (Q : Exit → Act → World → Prop) (hfr : Fr 123 a) (hs : Slots [(0, .int .i64 kap), (1, .int .u32 st), (2, .int .i64 (m : Nat)), (3, .slice xp K K), (4, .slice xc K K), (5, .slice xr I I), (6, .slice xi I I), (19, .int .i64 (K : Nat)), (20, .int .i64 s), (21, .bool an), (22, .int .u64 la), (24, .bool se), (25, .bool d), (26, .int .u64 (IW.run kap st m p ck (fun k i => fr (k * m + i)) (fun k i => fi (k * m + i)) c).viol), (27, .int .i64 (c : Nat))] a)
    (hP : RowR .u64 xp pb 0 K p w) (hC : RowR .i64 xc cb 0 K ck w) (hR : RowR .u8 xr rb 0 I fr w) (hX : RowR .u32 xi ib 0 I fi w) (lK : (K : Int) ≤ 65536) (hI : I = m * K) (lI : (I : Int) ≤ 1048576) (lm : (m : Int) ≤ 65536) (r8 : ∀ i, i < I → 0 ≤ fr i ∧ fr i < 256) (x32 : ∀ i, i < I → 0 ≤ fi i ∧ fi i < 4294967296) (t0 : 0 < st) (t1 : st < 4294967296) (hc : c < K) (hns : ∀ j, c ≤ j → j < K → (spl m (fun k i => fi (k * m + i))) j = false) (hcond : ck c = 0 ∨ (IW.run kap st m p ck (fun k i => fr (k * m + i)) (fun k i => fi (k * m + i)) c).whole = false)
    (hQ : ∀ a' (c' : Nat), c < c' → c' ≤ K → (c' = K ∨ ck c' = 0 ∨ (IW.run kap st m p ck (fun k i => fr (k * m + i)) (fun k i => fi (k * m + i)) c').whole = false) → Fr 123 a' → Slots [(0, .int .i64 kap), (1, .int .u32 st), (2, .int .i64 (m : Nat)), (3, .slice xp K K), (4, .slice xc K K), (5, .slice xr I I), (6, .slice xi I I), (19, .int .i64 (K : Nat)), (20, .int .i64 s), (21, .bool an), (22, .int .u64 la), (24, .bool se), (25, .bool d), (26, .int .u64 (IW.run kap st m p ck (fun k i => fr (k * m + i)) (fun k i => fi (k * m + i)) c').viol), (27, .int .i64 (c' : Nat))] a' → Q .normal a' w) :
    Code.wp Try.prog (tlC (inC (inC (nthC 10 (bodyC Try.f29))))) Q a w := by
  refine wp_navB (id := 3) rfl ?_
  have ec := hC.ptr (by omega)
  subst ec
  have cc := hC.cell c hc
  rw [Nat.zero_add] at cc
  refine wp_nav rfl (wp_nav rfl (x17 _ _ _ _ _ _ _ _ _ _ _ _ _ _ c cb (ck c) a w _ hfr hs (by omega) cc fun a1 fr1 s1 => ?_))
  have s1' : Slots [(0, .int .i64 kap), (1, .int .u32 st), (2, .int .i64 (m : Nat)), (3, .slice xp K K), (4, .slice (some ⟨cb, 0, none⟩) K K), (5, .slice xr I I), (6, .slice xi I I), (19, .int .i64 (K : Nat)), (20, .int .i64 s), (21, .bool an), (22, .int .u64 la), (24, .bool se), (25, .bool d), (26, .int .u64 (IW.run kap st m p ck (fun k i => fr (k * m + i)) (fun k i => fi (k * m + i)) c).viol), (27, .int .i64 (c : Nat))] a1 := ⟨s1.1, s1.2.1, s1.2.2.1, s1.2.2.2.1, s1.2.2.2.2.1, s1.2.2.2.2.2.1, s1.2.2.2.2.2.2.1, s1.2.2.2.2.2.2.2.1, s1.2.2.2.2.2.2.2.2.1, s1.2.2.2.2.2.2.2.2.2.1, s1.2.2.2.2.2.2.2.2.2.2.1, s1.2.2.2.2.2.2.2.2.2.2.2.1, s1.2.2.2.2.2.2.2.2.2.2.2.2.1, s1.2.2.2.2.2.2.2.2.2.2.2.2.2.1, s1.2.2.2.2.2.2.2.2.2.2.2.2.2.2.1, trivial⟩
  refine wp_navI (j := 78) rfl s1.2.2.2.2.2.2.2.2.2.2.2.2.2.2.2.1 (fun ht => ?_) (fun ht => ?_)
  · have hz : ck c ≠ 0 := by simpa using ht
    have hw : (IW.run kap st m p ck (fun k i => fr (k * m + i)) (fun k i => fi (k * m + i)) c).whole = false := by
      rcases hcond with h | h
      · exact absurd h hz
      · exact h
    obtain ⟨g1, g2⟩ := run_skip kap st m p ck (fun k i => fr (k * m + i)) (fun k i => fi (k * m + i)) (hns c (Nat.le_refl _) hc) hz hw
    refine x18 _ _ _ _ _ _ _ _ _ _ _ _ _ _ _ c a1 w _ fr1 s1' (by omega) fun a2 fr2 s2 => ?_
    simp only [Exit.then, Exit.inBlock, if_true]
    refine hQ a2 (c + 1) (by omega) (by omega) (.inr (.inr g2)) fr2 ?_
    rw [g1]; exact s2
  · have hz : ck c = 0 := by simpa using ht
    refine wp_skip' rfl ?_
    simp only [Exit.then]
    refine wp_nav rfl (x19 _ _ _ _ _ _ _ _ _ _ _ _ _ _ _ c a1 w _ fr1 s1' (by omega) fun a2 fr2 s2 => ?_)
    refine wp_nav rfl (wp_navB (id := 4) rfl ?_)
    refine md_loop3 _ _ _ _ _ _ _ _ _ _ _ _ _ _ _ c cb ck a2 w _ fr2 s2 hC lK hc (fun a3 e h1 h2 h3 h4 fr3 s3 => ?_)
    simp only [Exit.inBlock, Exit.then, if_true]
    refine wp_nav rfl (x22 _ _ _ _ _ _ _ _ _ _ _ _ _ _ _ c e a3 w _ fr3 s3 fun a4 fr4 s4 => ?_)
    refine wp_nav rfl (wp_nav rfl (x23 _ _ _ _ _ _ _ _ _ _ _ _ _ _ _ c e _ a4 w _ fr4 s4 fun a5 fr5 s5 => ?_))
    refine wp_navB (id := 6) rfl ?_
    refine md_loop4 _ _ _ _ _ _ _ _ _ _ _ _ _ _ _ c e pb cb rb ib p ck fr fi a5 w _ fr5 s5 hP hC hR hX lK hI lI lm r8 x32 t0 t1 h1 h2 hz h3 hns (fun a6 bk hcy fr6 s6 => ?_)
    simp only [Exit.inBlock, Exit.then, if_true]
    refine wp_nav rfl (wp_nav rfl (x28 _ _ _ _ _ _ _ _ _ _ _ _ _ _ _ c e bk a6 w _ fr6 s6 fun a7 fr7 s7 => ?_))
    have s7' : Slots [(0, .int .i64 kap), (1, .int .u32 st), (2, .int .i64 (m : Nat)), (3, .slice xp K K), (4, .slice (some ⟨cb, 0, none⟩) K K), (5, .slice xr I I), (6, .slice xi I I), (19, .int .i64 (K : Nat)), (20, .int .i64 s), (21, .bool an), (22, .int .u64 la), (24, .bool se), (25, .bool d), (26, .int .u64 (IW.run kap st m p ck (fun k i => fr (k * m + i)) (fun k i => fi (k * m + i)) c).viol), (27, .int .i64 (c : Nat)), (28, .int .i64 (e : Nat))] a7 := ⟨s7.1, s7.2.1, s7.2.2.1, s7.2.2.2.1, s7.2.2.2.2.1, s7.2.2.2.2.2.1, s7.2.2.2.2.2.2.1, s7.2.2.2.2.2.2.2.1, s7.2.2.2.2.2.2.2.2.1, s7.2.2.2.2.2.2.2.2.2.1, s7.2.2.2.2.2.2.2.2.2.2.1, s7.2.2.2.2.2.2.2.2.2.2.2.1, s7.2.2.2.2.2.2.2.2.2.2.2.2.1, s7.2.2.2.2.2.2.2.2.2.2.2.2.2.1, s7.2.2.2.2.2.2.2.2.2.2.2.2.2.2.1, s7.2.2.2.2.2.2.2.2.2.2.2.2.2.2.2.1, trivial⟩
    have hvb := IW.run_viol kap st m p ck (fun k i => fr (k * m + i)) (fun k i => fi (k * m + i)) c
    have cond : e = K ∨ ck e = 0 ∨ (IW.run kap st m p ck (fun k i => fr (k * m + i)) (fun k i => fi (k * m + i)) e).whole = false := by
      rcases h4 with h | h
      · exact .inl h
      · exact .inr (.inl h)
    refine wp_navI (j := 114) rfl s7.2.2.2.2.2.2.2.2.2.2.2.2.2.2.2.2.2.1 (fun hb => ?_) (fun hb => ?_)
    · refine x29 _ _ _ _ _ _ _ _ _ _ _ _ _ _ _ c e a7 w _ fr7 s7' hvb.1 (by omega) fun a8 fr8 s8 => ?_
      simp only [Exit.then]
      refine x30 _ _ _ _ _ _ _ _ _ _ _ _ _ _ _ c e a8 w _ fr8 s8 fun a9 fr9 s9 => ?_
      refine hQ a9 e h1 h2 cond fr9 ?_
      rw [hcy.vi, hb, if_pos rfl]; exact s9
    · refine wp_skip' rfl ?_
      simp only [Exit.then]
      refine x30 _ _ _ _ _ _ _ _ _ _ _ _ _ _ _ c e a7 w _ fr7 s7' fun a9 fr9 s9 => ?_
      refine hQ a9 e h1 h2 cond fr9 ?_
      rw [hcy.vi, hb, if_neg (by simp), Int.add_zero]; exact s9

theorem md_loop2 (kap st : Int) (m K I : Nat) (xp xc xr xi : Option Addr) (s : Int) (an : Bool) (la : Int) (se d : Bool) (c0 : Nat) (pb cb rb ib : Nat) (p ck fr fi : Nat → Int) (a : Act) (w : World) (Q : Exit → Act → World → Prop) (hfr : Fr 123 a) (hs : Slots [(0, .int .i64 kap), (1, .int .u32 st), (2, .int .i64 (m : Nat)), (3, .slice xp K K), (4, .slice xc K K), (5, .slice xr I I), (6, .slice xi I I), (19, .int .i64 (K : Nat)), (20, .int .i64 s), (21, .bool an), (22, .int .u64 la), (24, .bool se), (25, .bool d), (26, .int .u64 (IW.run kap st m p ck (fun k i => fr (k * m + i)) (fun k i => fi (k * m + i)) c0).viol), (27, .int .i64 (c0 : Nat))] a)
    (hP : RowR .u64 xp pb 0 K p w) (hC : RowR .i64 xc cb 0 K ck w) (hR : RowR .u8 xr rb 0 I fr w) (hX : RowR .u32 xi ib 0 I fi w) (lK : (K : Int) ≤ 65536) (hI : I = m * K) (lI : (I : Int) ≤ 1048576) (lm : (m : Int) ≤ 65536) (r8 : ∀ i, i < I → 0 ≤ fr i ∧ fr i < 256) (x32 : ∀ i, i < I → 0 ≤ fi i ∧ fi i < 4294967296) (t0 : 0 < st) (t1 : st < 4294967296) (hc0 : c0 ≤ K) (hns : ∀ j, c0 ≤ j → j < K → (spl m (fun k i => fi (k * m + i))) j = false) (hw0 : (IW.run kap st m p ck (fun k i => fr (k * m + i)) (fun k i => fi (k * m + i)) c0).whole = false)
    (hexit : ∀ a', Fr 123 a' → Slots [(0, .int .i64 kap), (1, .int .u32 st), (2, .int .i64 (m : Nat)), (3, .slice xp K K), (4, .slice xc K K), (5, .slice xr I I), (6, .slice xi I I), (19, .int .i64 (K : Nat)), (20, .int .i64 s), (21, .bool an), (22, .int .u64 la), (24, .bool se), (25, .bool d), (26, .int .u64 (IW.run kap st m p ck (fun k i => fr (k * m + i)) (fun k i => fi (k * m + i)) K).viol)] a' → Q (.exit 2) a' w) :
    Code.wp Try.prog (inC (nthC 10 (bodyC Try.f29))) Q a w := by
  refine wp_navL rfl (wp_loop (fun a' w' => w' = w ∧ ∃ c : Nat, c0 ≤ c ∧ c ≤ K ∧ (c = K ∨ ck c = 0 ∨ (IW.run kap st m p ck (fun k i => fr (k * m + i)) (fun k i => fi (k * m + i)) c).whole = false) ∧ Fr 123 a' ∧ Slots [(0, .int .i64 kap), (1, .int .u32 st), (2, .int .i64 (m : Nat)), (3, .slice xp K K), (4, .slice xc K K), (5, .slice xr I I), (6, .slice xi I I), (19, .int .i64 (K : Nat)), (20, .int .i64 s), (21, .bool an), (22, .int .u64 la), (24, .bool se), (25, .bool d), (26, .int .u64 (IW.run kap st m p ck (fun k i => fr (k * m + i)) (fun k i => fi (k * m + i)) c).viol), (27, .int .i64 (c : Nat))] a') (fun a' _ => K - (intOf (sl a' 27)).toNat) ⟨rfl, c0, Nat.le_refl _, hc0, .inr (.inr hw0), hfr, hs⟩ ?_)
  rintro a1 w1 ⟨rfl, c, h1, h2, hcond, fr1, s1⟩
  have mu : (intOf (sl a1 27)).toNat = c := by
    have : sl a1 27 = .int .i64 (c : Nat) := s1.2.2.2.2.2.2.2.2.2.2.2.2.2.2.1
    rw [this]; simp only [intOf]; omega
  refine wp_nav rfl (x10h _ _ _ _ _ _ _ _ _ _ _ _ _ _ _ c a1 w1 _ fr1 s1 h2 lK (fun a2 hlt fr2 s2 => ?_) (fun a2 hke fr2 s2 => by subst hke; exact hexit a2 fr2 s2))
  refine md_round2 _ _ _ _ _ _ _ _ _ _ _ _ _ _ c pb cb rb ib p ck fr fi a2 w1 _ fr2 s2 hP hC hR hX lK hI lI lm r8 x32 t0 t1 hlt (fun j g1 g2 => hns j (by omega) g2) (by rcases hcond with h | h; omega; exact h) (fun a3 c' g1 g2 g3 fr3 s3 => ?_)
  refine ⟨⟨rfl, c', by omega, g2, g3, fr3, s3⟩, ?_⟩
  have mu2 : (intOf (sl a3 27)).toNat = c' := by
    have : sl a3 27 = .int .i64 (c' : Nat) := s3.2.2.2.2.2.2.2.2.2.2.2.2.2.2.1
    rw [this]; simp only [intOf]; omega
  rw [mu, mu2]; omega

/-- indexModel says what the watch says. -/
theorem model29 (kap st : Int) (m K I : Nat) (xp xc xr xi : Option Addr) (pb cb rb ib : Nat) (p ck fr fi : Nat → Int) (w : World) (hP : RowR .u64 xp pb 0 K p w) (hC : RowR .i64 xc cb 0 K ck w) (hR : RowR .u8 xr rb 0 I fr w) (hX : RowR .u32 xi ib 0 I fi w) (lK : (K : Int) ≤ 65536) (hI : I = m * K) (lI : (I : Int) ≤ 1048576) (lm : (m : Int) ≤ 65536) (r8 : ∀ i, i < I → 0 ≤ fr i ∧ fr i < 256) (x32 : ∀ i, i < I → 0 ≤ fi i ∧ fi i < 4294967296) (t0 : 0 < st) (t1 : st < 4294967296) :
    Calls Try.prog 29 #[.int .i64 kap, .int .u32 st, .int .i64 (m : Nat), .slice xp K K, .slice xc K K, .slice xr I I, .slice xi I I] w
      fun e w' => e = .returned (.tuple #[.bool (IW.run kap st m p ck (fun k i => fr (k * m + i)) (fun k i => fi (k * m + i)) K).seen, .bool (IW.run kap st m p ck (fun k i => fr (k * m + i)) (fun k i => fi (k * m + i)) K).split, .bool (IW.run kap st m p ck (fun k i => fr (k * m + i)) (fun k i => fi (k * m + i)) K).any, .int .u64 (IW.run kap st m p ck (fun k i => fr (k * m + i)) (fun k i => fi (k * m + i)) K).last, .int .u64 (IW.run kap st m p ck (fun k i => fr (k * m + i)) (fun k i => fi (k * m + i)) K).viol]) ∧ w' = w := by
  refine calls_nav 123 Try.func29 rfl rfl (by simp) fun a fr0 ha => ?_
  have s0 : Slots [(0, .int .i64 kap), (1, .int .u32 st), (2, .int .i64 (m : Nat)), (3, .slice xp K K), (4, .slice xc K K), (5, .slice xr I I), (6, .slice xi I I)] a := ⟨ha 0 (by simp), ha 1 (by simp), ha 2 (by simp), ha 3 (by simp), ha 4 (by simp), ha 5 (by simp), ha 6 (by simp), trivial⟩
  refine wp_nav rfl (x0 _ _ _ _ _ _ _ _ _ _ _ _ fr0 s0 fun a1 f1 s1 => ?_)
  refine wp_nav rfl (x1 _ _ _ _ _ _ _ _ _ _ _ _ f1 s1 fun a2 f2 s2 => ?_)
  refine wp_nav rfl (x2 _ _ _ _ _ _ _ _ _ _ _ _ f2 s2 fun a3 f3 s3 => ?_)
  refine wp_nav rfl (x3 _ _ _ _ _ _ _ _ _ _ _ _ _ f3 s3 fun a4 f4 s4 => ?_)
  refine wp_nav rfl (x4 _ _ _ _ _ _ _ _ _ _ _ _ _ _ f4 s4 fun a5 f5 s5 => ?_)
  refine wp_nav rfl (wp_nav rfl (x5i _ _ _ _ _ _ _ _ _ _ _ _ _ _ _ f5 s5 fun a6 f6 s6 => ?_))
  refine wp_navB (id := 0) rfl ?_
  refine md_loop1 _ _ _ _ _ _ _ _ _ pb cb rb ib p ck fr fi a6 w _ f6 s6 hP hC hR hX lK hI lI lm (fun a7 s hL f7 s7 => ?_)
  simp only [Exit.inBlock, Exit.then, if_true]
  refine wp_nav rfl (x6 _ _ _ _ _ _ _ _ _ _ _ _ _ _ _ f7 s7 fun a8 f8 s8 => ?_)
  have rest : ∀ a9, Fr 123 a9 → Slots [(0, .int .i64 kap), (1, .int .u32 st), (2, .int .i64 (m : Nat)), (3, .slice xp K K), (4, .slice xc K K), (5, .slice xr I I), (6, .slice xi I I), (19, .int .i64 (K : Nat)), (20, .int .i64 s), (21, .bool (IW.run kap st m p ck (fun k i => fr (k * m + i)) (fun k i => fi (k * m + i)) K).any), (22, .int .u64 (IW.run kap st m p ck (fun k i => fr (k * m + i)) (fun k i => fi (k * m + i)) K).last), (24, .bool (decide (0 < K))), (25, .bool (IW.run kap st m p ck (fun k i => fr (k * m + i)) (fun k i => fi (k * m + i)) K).split)] a9 →
      Code.wp Try.prog (dropC 8 (bodyC Try.f29)) (bodyPost Try.prog Try.f29 fun e w' => e = .returned (.tuple #[.bool (IW.run kap st m p ck (fun k i => fr (k * m + i)) (fun k i => fi (k * m + i)) K).seen, .bool (IW.run kap st m p ck (fun k i => fr (k * m + i)) (fun k i => fi (k * m + i)) K).split, .bool (IW.run kap st m p ck (fun k i => fr (k * m + i)) (fun k i => fi (k * m + i)) K).any, .int .u64 (IW.run kap st m p ck (fun k i => fr (k * m + i)) (fun k i => fi (k * m + i)) K).last, .int .u64 (IW.run kap st m p ck (fun k i => fr (k * m + i)) (fun k i => fi (k * m + i)) K).viol]) ∧ w' = w) a9 w := by
    intro a9 f9 s9
    obtain ⟨c0, hc0⟩ : ∃ c0 : Nat, s + 1 = c0 := ⟨(s + 1).toNat, by have := hL.lo; omega⟩
    have hhi := hL.hi
    obtain ⟨v0, w0⟩ := run_start kap st m p ck (fun k i => fr (k * m + i)) (fun k i => fi (k * m + i)) hL hc0
    refine wp_nav rfl (x8b _ _ _ _ _ _ _ _ _ _ _ _ _ _ _ _ _ f9 s9 fun a10 f10 s10 => ?_)
    refine wp_nav rfl (x9b _ _ _ _ _ _ _ _ _ _ _ _ _ _ _ c0 _ _ _ f10 s10 (by rw [hc0, IntKind.wrap_i64]; omega) fun a11 f11 s11 => ?_)
    refine wp_nav rfl (wp_navB (id := 2) rfl ?_)
    refine md_loop2 _ _ _ _ _ _ _ _ _ _ _ _ _ _ c0 pb cb rb ib p ck fr fi a11 w _ f11 (by rw [v0]; exact s11) hP hC hR hX lK hI lI lm r8 x32 t0 t1 (by omega) (fun j g1 g2 => hL.no j (by omega) g2) w0 (fun a12 f12 s12 => ?_)
    simp only [Exit.inBlock, Exit.then, if_true]
    refine x31 _ _ _ _ _ _ _ _ _ _ _ _ _ _ _ _ _ _ f12 s12 fun a13 f13 s13 => ?_
    refine bodyPost_ret (results_tmp5 rfl _ _ _) f13.defers ⟨?_, rfl⟩
    obtain ⟨g1, g2, g3, g4, g5, -⟩ := s13
    rw [show a13.tmps.getD 14 undef = _ from g1, show a13.tmps.getD 15 undef = _ from g2, show a13.tmps.getD 16 undef = _ from g3, show a13.tmps.getD 17 undef = _ from g4, show a13.tmps.getD 18 undef = _ from g5, IW.run_seen]
  rcases Nat.eq_zero_or_pos K with hK | hK
  · refine wp_nav rfl (x7z _ _ _ _ _ _ _ _ _ _ _ _ _ _ _ _ f8 s8 hK fun a9 f9 s9 => ?_)
    refine rest a9 f9 ⟨s9.1, s9.2.1, s9.2.2.1, s9.2.2.2.1, s9.2.2.2.2.1, s9.2.2.2.2.2.1, s9.2.2.2.2.2.2.1, s9.2.2.2.2.2.2.2.1, s9.2.2.2.2.2.2.2.2.1, s9.2.2.2.2.2.2.2.2.2.1, s9.2.2.2.2.2.2.2.2.2.2.1, s9.2.2.2.2.2.2.2.2.2.2.2.1, ?_, trivial⟩
    rw [s9.2.2.2.2.2.2.2.2.2.2.2.2.1]
    subst hK; rfl
  · obtain ⟨ys, q1, q2, q3, q4, q5, q6, q7⟩ := rowk (k := K - 1) hX hI (by omega) lI lK
    have e1 : K - 1 + 1 = K := by omega
    have e2 : ((K - 1 : Nat) : Int) = (K : Int) - 1 := by omega
    rw [e1] at q4 q5 q7 q3
    rw [e2] at q1 q3
    rw [show (K : Int) - 1 + 1 = K by omega] at q3
    refine wp_nav rfl (x7 _ _ _ _ _ _ _ _ _ _ _ _ _ ((K - 1) * m) (K * m) ys _ _ _ _ f8 s8 (by omega) (by rw [IntKind.wrap_i64]; omega) q1 q3 q4 q5 q6 q7 fun a9 f9 s9 => ?_)
    refine rest a9 f9 ⟨s9.1, s9.2.1, s9.2.2.1, s9.2.2.2.1, s9.2.2.2.2.1, s9.2.2.2.2.2.1, s9.2.2.2.2.2.2.1, s9.2.2.2.2.2.2.2.1, s9.2.2.2.2.2.2.2.2.1, s9.2.2.2.2.2.2.2.2.2.1, s9.2.2.2.2.2.2.2.2.2.2.1, s9.2.2.2.2.2.2.2.2.2.2.2.1, ?_, trivial⟩
    rw [s9.2.2.2.2.2.2.2.2.2.2.2.2.1]
    have := run_split kap st m p ck (fun k i => fr (k * m + i)) (fun k i => fi (k * m + i)) (K - 1)
    rw [e1] at this
    rw [this]

end Go.Proofs.Qxb6602526a
