import Derived.Test.Qxb6602526aC2
import Derived.Test.Qxb6602526aC3
import Derived.Test.Qxb6602526aNav2
namespace Go.Proofs.Qxb6602526a
open Go.RowKit
set_option linter.unusedSimpArgs false
set_option linter.unusedVariables false

theorem dif_succ (f : Nat → Int) (v : Int) (k : Nat) : dif f v (k + 1) = (dif f v k || !(f k == v)) := rfl
theorem rowcell {w w' : World} {b c o : Nat} {v : Value} (hk : Kept [b] w w') (hne : c ≠ b) (hlt : c < w.heap.size) (h : w.cell? ⟨c, o, none⟩ = some v) : w'.cell? ⟨c, o, none⟩ = some v := by
  rw [hk.cell (p := ⟨c, o, none⟩) hlt (by simpa using hne)]; exact h

theorem ob_loop1 (b ib io rb ro n icap rcap : Nat) (p ck : Int) (T : AW) (res : Nat → Int) (a : Act) (w : World) (Q : Exit → Act → World → Prop) (hfr : Fr 128 a) (hs : Slots [(0, .pointer (some ⟨b, 0, none⟩)), (1, .int .u64 p), (2, .int .i64 ck), (3, .slice (some ⟨ib, io, none⟩) n icap), (4, .slice (some ⟨rb, ro, none⟩) n rcap), (22, .slice (some ⟨rb, ro, none⟩) n rcap), (23, .int .i64 n), (24, .int .i64 (0 : Nat))] a)
    (ln : (n : Int) ≤ 65536) (h0 : 0 < n) (hne : rb ≠ b) (hlt : rb < w.heap.size) (hr : ∀ k, k < n → w.cell? ⟨rb, ro + k, none⟩ = some (.int .u8 (res k))) (hB : IsB w b { T with ag := true }.arr 88)
    (hexit : ∀ a' w', Kept [b] w w' → IsB w' b { T with ag := !dif res (res 0) n }.arr 88 → Fr 128 a' → Slots [(0, .pointer (some ⟨b, 0, none⟩)), (1, .int .u64 p), (2, .int .i64 ck), (3, .slice (some ⟨ib, io, none⟩) n icap), (4, .slice (some ⟨rb, ro, none⟩) n rcap)] a' → Q (.exit 0) a' w') :
    Code.wp Try.prog (inC (tlC (nthC 1 (bodyC Try.f35)))) Q a w := by
  refine wp_navL rfl (wp_loop (fun a' w' => ∃ k : Nat, k ≤ n ∧ Kept [b] w w' ∧ IsB w' b { T with ag := !dif res (res 0) k }.arr 88 ∧ Fr 128 a' ∧ Slots [(0, .pointer (some ⟨b, 0, none⟩)), (1, .int .u64 p), (2, .int .i64 ck), (3, .slice (some ⟨ib, io, none⟩) n icap), (4, .slice (some ⟨rb, ro, none⟩) n rcap), (22, .slice (some ⟨rb, ro, none⟩) n rcap), (23, .int .i64 n), (24, .int .i64 (k : Nat))] a') (fun a' _ => n - (intOf (sl a' 24)).toNat) ⟨0, Nat.zero_le _, Kept.refl _ _, hB, hfr, hs⟩ ?_)
  rintro a1 w1 ⟨k, hk, kp, B1, fr, s1⟩
  have mu : (intOf (sl a1 24)).toNat = k := by
    have : sl a1 24 = .int .i64 (k : Nat) := s1.2.2.2.2.2.2.2.1
    rw [this]; simp only [intOf]; omega
  refine o1r _ _ _ _ _ _ _ _ _ _ k _ (res k) (res 0) a1 w1 _ fr s1 hk ln h0 B1 hne (fun h => rowcell kp hne hlt (hr k h)) (rowcell kp hne hlt (hr 0 h0)) (fun a2 w2 hlt2 fr2 s2 kp2 B2 => ?_) (fun a2 hke fr2 s2 => by subst hke; exact hexit a2 w1 kp B1 fr2 s2)
  refine ⟨⟨k + 1, by omega, kp.trans kp2, ?_, fr2, s2⟩, ?_⟩
  · rw [dif_succ, Bool.not_or, Bool.not_not]; exact B2
  have mu2 : (intOf (sl a2 24)).toNat = k + 1 := by
    have : sl a2 24 = .int .i64 (k + 1 : Nat) := s2.2.2.2.2.2.2.2.1
    rw [this]; simp only [intOf]; omega
  rw [mu, mu2]; omega

theorem ob_loop2 (b ib io rb ro n icap rcap : Nat) (p ck : Int) (T : AW) (res : Nat → Int) (a : Act) (w : World) (Q : Exit → Act → World → Prop) (hfr : Fr 128 a) (hs : Slots [(0, .pointer (some ⟨b, 0, none⟩)), (1, .int .u64 p), (2, .int .i64 ck), (3, .slice (some ⟨ib, io, none⟩) n icap), (4, .slice (some ⟨rb, ro, none⟩) n rcap), (14, .bool false), (60, .slice (some ⟨rb, ro, none⟩) n rcap), (61, .int .i64 n), (62, .int .i64 (0 : Nat))] a)
    (ln : (n : Int) ≤ 65536) (hr : ∀ k, k < n → w.cell? ⟨rb, ro + k, none⟩ = some (.int .u8 (res k))) (hB : IsB w b T.arr 88)
    (hexit : ∀ a', Fr 128 a' → Slots [(0, .pointer (some ⟨b, 0, none⟩)), (1, .int .u64 p), (2, .int .i64 ck), (3, .slice (some ⟨ib, io, none⟩) n icap), (4, .slice (some ⟨rb, ro, none⟩) n rcap), (14, .bool (dif res T.bit n))] a' → Q (.exit 2) a' w) :
    Code.wp Try.prog (inC (tlC (thC (tlC (hdC (thC (tlC (nthC 3 (bodyC Try.f35))))))))) Q a w := by
  refine wp_navL rfl (wp_loop (fun a' w' => w' = w ∧ ∃ k : Nat, k ≤ n ∧ Fr 128 a' ∧ Slots [(0, .pointer (some ⟨b, 0, none⟩)), (1, .int .u64 p), (2, .int .i64 ck), (3, .slice (some ⟨ib, io, none⟩) n icap), (4, .slice (some ⟨rb, ro, none⟩) n rcap), (14, .bool (dif res T.bit k)), (60, .slice (some ⟨rb, ro, none⟩) n rcap), (61, .int .i64 n), (62, .int .i64 (k : Nat))] a') (fun a' _ => n - (intOf (sl a' 62)).toNat) ⟨rfl, 0, Nat.zero_le _, hfr, hs⟩ ?_)
  rintro a1 w1 ⟨rfl, k, hk, fr, s1⟩
  have mu : (intOf (sl a1 62)).toNat = k := by
    have : sl a1 62 = .int .i64 (k : Nat) := s1.2.2.2.2.2.2.2.2.1
    rw [this]; simp only [intOf]; omega
  refine o11r _ _ _ _ _ _ _ _ _ _ _ k T (res k) a1 w1 _ fr s1 hk ln hB (hr k) (fun a2 hlt2 fr2 s2 => ?_) (fun a2 hke fr2 s2 => by subst hke; exact hexit a2 fr2 s2)
  refine ⟨⟨rfl, k + 1, by omega, fr2, s2⟩, ?_⟩
  have mu2 : (intOf (sl a2 62)).toNat = k + 1 := by
    have : sl a2 62 = .int .i64 (k + 1 : Nat) := s2.2.2.2.2.2.2.2.2.1
    rw [this]; simp only [intOf]; omega
  rw [mu, mu2]; omega

theorem ob_loop3 (b ib io rb ro n icap rcap : Nat) (p ck : Int) (iv : Bool) (T : AW) (ins : Nat → Int) (a : Act) (w : World) (Q : Exit → Act → World → Prop) (hfr : Fr 128 a) (hs : Slots [(0, .pointer (some ⟨b, 0, none⟩)), (1, .int .u64 p), (2, .int .i64 ck), (3, .slice (some ⟨ib, io, none⟩) n icap), (4, .slice (some ⟨rb, ro, none⟩) n rcap), (14, .bool iv), (89, .slice (some ⟨ib, io, none⟩) n icap), (90, .int .i64 n), (91, .int .i64 (0 : Nat))] a)
    (ln : (n : Int) ≤ 65536) (hne : ib ≠ b) (hlt : ib < w.heap.size) (hi : ∀ k, k < n → w.cell? ⟨ib, io + k, none⟩ = some (.int .u8 (ins k))) (hB : IsB w b { T with un := true }.arr 88)
    (hexit : ∀ a' w', Kept [b] w w' → IsB w' b { T with un := !dif ins T.bit n }.arr 88 → Fr 128 a' → Slots [(0, .pointer (some ⟨b, 0, none⟩)), (1, .int .u64 p), (2, .int .i64 ck), (3, .slice (some ⟨ib, io, none⟩) n icap), (4, .slice (some ⟨rb, ro, none⟩) n rcap), (14, .bool iv)] a' → Q (.exit 4) a' w') :
    Code.wp Try.prog (inC (dropC 3 (thC (tlC (nthC 3 (bodyC Try.f35)))))) Q a w := by
  refine wp_navL rfl (wp_loop (fun a' w' => ∃ k : Nat, k ≤ n ∧ Kept [b] w w' ∧ IsB w' b { T with un := !dif ins T.bit k }.arr 88 ∧ Fr 128 a' ∧ Slots [(0, .pointer (some ⟨b, 0, none⟩)), (1, .int .u64 p), (2, .int .i64 ck), (3, .slice (some ⟨ib, io, none⟩) n icap), (4, .slice (some ⟨rb, ro, none⟩) n rcap), (14, .bool iv), (89, .slice (some ⟨ib, io, none⟩) n icap), (90, .int .i64 n), (91, .int .i64 (k : Nat))] a') (fun a' _ => n - (intOf (sl a' 91)).toNat) ⟨0, Nat.zero_le _, Kept.refl _ _, hB, hfr, hs⟩ ?_)
  rintro a1 w1 ⟨k, hk, kp, B1, fr, s1⟩
  have mu : (intOf (sl a1 91)).toNat = k := by
    have : sl a1 91 = .int .i64 (k : Nat) := s1.2.2.2.2.2.2.2.2.1
    rw [this]; simp only [intOf]; omega
  refine o18r _ _ _ _ _ _ _ _ _ _ _ k _ (ins k) a1 w1 _ fr s1 hk ln hne B1 (fun h => rowcell kp hne hlt (hi k h)) (fun a2 w2 hlt2 fr2 s2 kp2 B2 => ?_) (fun a2 hke fr2 s2 => by subst hke; exact hexit a2 w1 kp B1 fr2 s2)
  refine ⟨⟨k + 1, by omega, kp.trans kp2, ?_, fr2, s2⟩, ?_⟩
  · rw [dif_succ, Bool.not_or, Bool.not_not]; exact B2
  have mu2 : (intOf (sl a2 91)).toNat = k + 1 := by
    have : sl a2 91 = .int .i64 (k + 1 : Nat) := s2.2.2.2.2.2.2.2.2.1
    rw [this]; simp only [intOf]; omega
  rw [mu, mu2]; omega

/-- At clock 0. -/
theorem ob_in (b ib io rb ro n icap rcap : Nat) (p ck : Int) (T : AW) (ins res : Nat → Int) (a : Act) (w : World) (Q : Exit → Act → World → Prop) (hfr : Fr 128 a) (hs : Slots [(0, .pointer (some ⟨b, 0, none⟩)), (1, .int .u64 p), (2, .int .i64 ck), (3, .slice (some ⟨ib, io, none⟩) n icap), (4, .slice (some ⟨rb, ro, none⟩) n rcap), (14, .bool false)] a)
    (ln : (n : Int) ≤ 65536) (h0 : 0 < n) (hib : ib ≠ b) (hil : ib < w.heap.size) (hi : ∀ k, k < n → w.cell? ⟨ib, io + k, none⟩ = some (.int .u8 (ins k))) (hr : ∀ k, k < n → w.cell? ⟨rb, ro + k, none⟩ = some (.int .u8 (res k))) (hB : IsB w b T.arr 88)
    (hQ : ∀ a' w', Kept [b] w w' → IsB w' b { T with cb := true, un := !dif ins (ins 0) n, cs := p, bit := ins 0 }.arr 88 → Fr 128 a' → Slots [(0, .pointer (some ⟨b, 0, none⟩)), (1, .int .u64 p), (2, .int .i64 ck), (3, .slice (some ⟨ib, io, none⟩) n icap), (4, .slice (some ⟨rb, ro, none⟩) n rcap), (14, .bool (T.cb && T.un && decide (T.fc ≤ T.cs) && dif res T.bit n))] a' → Q .normal a' w') :
    Code.wp Try.prog (thC (tlC (nthC 3 (bodyC Try.f35)))) Q a w := by
  have rest : ∀ (iv : Bool) (w1 : World) (a1 : Act), Kept [b] w w1 → IsB w1 b T.arr 88 → iv = (T.cb && T.un && decide (T.fc ≤ T.cs) && dif res T.bit n) → Fr 128 a1 → Slots [(0, .pointer (some ⟨b, 0, none⟩)), (1, .int .u64 p), (2, .int .i64 ck), (3, .slice (some ⟨ib, io, none⟩) n icap), (4, .slice (some ⟨rb, ro, none⟩) n rcap), (14, .bool iv)] a1 → Code.wp Try.prog (tlC (thC (tlC (nthC 3 (bodyC Try.f35))))) Q a1 w1 := by
    intro iv w1 a1 k1 B1 hiv fr1 s1
    refine wp_nav rfl (o16 _ _ _ _ _ _ _ _ _ _ iv T (ins 0) _ _ _ fr1 s1 (by omega) hib B1 (rowcell k1 hib hil (hi 0 h0)) fun a2 w2 fr2 s2 k2 B2 => ?_)
    refine wp_nav rfl (o17 _ _ _ _ _ _ _ _ _ _ iv _ _ _ fr2 s2 fun a3 fr3 s3 => ?_)
    refine wp_navB (id := 4) rfl ?_
    have k02 := k1.trans k2
    refine ob_loop3 _ _ _ _ _ _ _ _ _ _ iv { T with cb := true, un := true, cs := p, bit := ins 0 } ins _ _ _ fr3 s3 ln hib (Nat.lt_of_lt_of_le hil k02.size) (fun k hk => rowcell k02 hib hil (hi k hk)) B2 (fun a4 w4 k4 B4 fr4 s4 => ?_)
    simp only [Exit.inBlock, Exit.then, if_true]
    subst hiv
    exact hQ a4 w4 (k02.trans k4) B4 fr4 s4
  refine wp_nav rfl ?_
  refine wp_nav rfl (o9 _ _ _ _ _ _ _ _ _ _ T _ _ _ hfr hs hB fun a1 m fr1 s1 => ?_)
  have k1 : Kept [b] w (w.drewN m) := (Kept.refl _ _).drewN m
  have sF : Slots [(0, .pointer (some ⟨b, 0, none⟩)), (1, .int .u64 p), (2, .int .i64 ck), (3, .slice (some ⟨ib, io, none⟩) n icap), (4, .slice (some ⟨rb, ro, none⟩) n rcap), (14, .bool false)] a1 := ⟨s1.1, s1.2.1, s1.2.2.1, s1.2.2.2.1, s1.2.2.2.2.1, s1.2.2.2.2.2.1, trivial⟩
  refine wp_navI (j := 59) rfl s1.2.2.2.2.2.2.1 (fun ht => ?_) (fun ht => ?_)
  · refine wp_nav rfl (o10 _ _ _ _ _ _ _ _ _ _ _ _ _ fr1 sF fun a2 fr2 s2 => ?_)
    refine wp_navB (id := 2) rfl ?_
    refine ob_loop2 _ _ _ _ _ _ _ _ _ _ T res _ _ _ fr2 s2 ln hr (hB.drewN m) (fun a3 fr3 s3 => ?_)
    simp only [Exit.inBlock, Exit.then, if_true]
    exact rest _ _ a3 k1 (hB.drewN m) (by rw [ht, Bool.true_and]) fr3 s3
  · refine wp_skip' rfl ?_
    simp only [Exit.then]
    exact rest _ _ a1 k1 (hB.drewN m) (by rw [ht, Bool.false_and]) fr1 sF

/-- observe -/
theorem observe_calls (b ib io rb ro n icap rcap : Nat) (p ck : Int) (T : AW) (ins res : Nat → Int) (w : World)
    (ln : (n : Int) ≤ 65536) (h0 : 0 < n) (hB : IsB w b T.arr 88) (hib : ib ≠ b) (hrb : rb ≠ b) (hil : ib < w.heap.size) (hrl : rb < w.heap.size) (hi : ∀ k, k < n → w.cell? ⟨ib, io + k, none⟩ = some (.int .u8 (ins k))) (hr : ∀ k, k < n → w.cell? ⟨rb, ro + k, none⟩ = some (.int .u8 (res k))) :
    Calls Try.prog 35 #[.pointer (some ⟨b, 0, none⟩), .int .u64 p, .int .i64 ck, .slice (some ⟨ib, io, none⟩) n icap, .slice (some ⟨rb, ro, none⟩) n rcap, .slice none 0 0] w
      fun e w' => e = .returned (.tuple #[]) ∧ Kept [b] w w' ∧ IsB w' b (T.obs n p ck ins res).arr 88 := by
  refine calls_nav 128 Try.func35 rfl rfl (by simp) fun a fr ha => ?_
  have s0 : Slots [(0, .pointer (some ⟨b, 0, none⟩)), (1, .int .u64 p), (2, .int .i64 ck), (3, .slice (some ⟨ib, io, none⟩) n icap), (4, .slice (some ⟨rb, ro, none⟩) n rcap)] a := ⟨ha 0 (by simp), ha 1 (by simp), ha 2 (by simp), ha 3 (by simp), ha 4 (by simp), trivial⟩
  refine wp_nav rfl (o0 _ _ _ _ _ _ _ _ _ _ T _ _ _ fr s0 hB fun a1 w1 fr1 s1 k1 B1 => ?_)
  refine wp_nav rfl (wp_nav rfl (o1i _ _ _ _ _ _ _ _ _ _ _ _ _ fr1 s1 fun a2 fr2 s2 => ?_))
  refine wp_navB (id := 0) rfl ?_
  refine ob_loop1 _ _ _ _ _ _ _ _ _ _ T res _ _ _ fr2 s2 ln h0 hrb (Nat.lt_of_lt_of_le hrl k1.size) (fun k hk => rowcell k1 hrb hrl (hr k hk)) B1 (fun a3 w3 k3 B3 fr3 s3 => ?_)
  simp only [Exit.inBlock, Exit.then, if_true]
  have k03 := k1.trans k3
  refine wp_nav rfl (o2 _ _ _ _ _ _ _ _ _ _ _ _ _ fr3 s3 fun a4 fr4 s4 => ?_)
  have tail : ∀ (iv : Bool) (U : AW) (w1 : World) (a1 : Act), Kept [b] w w1 → IsB w1 b U.arr 88 → ({ U with inv := U.inv || iv, any := U.any || (!U.ag || iv), last := if !U.ag || iv then p else U.last } : AW) = T.obs n p ck ins res → Fr 128 a1 → Slots [(0, .pointer (some ⟨b, 0, none⟩)), (1, .int .u64 p), (2, .int .i64 ck), (3, .slice (some ⟨ib, io, none⟩) n icap), (4, .slice (some ⟨rb, ro, none⟩) n rcap), (14, .bool iv)] a1 →
      Code.wp Try.prog (dropC 4 (bodyC Try.f35)) (bodyPost Try.prog Try.f35 fun e w' => e = .returned (.tuple #[]) ∧ Kept [b] w w' ∧ IsB w' b (T.obs n p ck ins res).arr 88) a1 w1 := by
    intro iv U w1 a1 k1 B1 hU fr1 s1
    refine wp_nav rfl (o23 _ _ _ _ _ _ _ _ _ _ iv U _ _ _ fr1 s1 B1 fun a2 w2 fr2 s2 k2 B2 => ?_)
    refine wp_nav rfl (o24 _ _ _ _ _ _ _ _ _ _ iv _ _ _ _ fr2 s2 B2 fun a3 fr3 s3 => ?_)
    refine wp_navI (j := 122) rfl s3.2.2.2.2.2.2.1 (fun ht => ?_) (fun ht => ?_)
    · refine o25 _ _ _ _ _ _ _ _ _ _ _ _ _ _ fr3 ⟨s3.1, s3.2.1, s3.2.2.1, s3.2.2.2.1, s3.2.2.2.2.1, trivial⟩ B2 fun a4 w4 fr4 k4 B4 => ?_
      refine bodyPost_end (results_none rfl _ _ _) fr4.defers ⟨rfl, (k1.trans k2).trans k4, ?_⟩
      rw [← hU]
      replace ht : (!U.ag || iv) = true := ht
      rw [ht, Bool.or_true, if_pos rfl]
      exact B4
    · refine wp_skip' rfl ?_
      refine bodyPost_end (results_none rfl _ _ _) fr3.defers ⟨rfl, k1.trans k2, ?_⟩
      rw [← hU]
      replace ht : (!U.ag || iv) = false := ht
      rw [ht, Bool.or_false, if_neg (by simp)]
      exact B2
  refine wp_nav rfl (wp_nav rfl (o3h _ _ _ _ _ _ _ _ _ _ _ _ _ fr4 s4 fun a5 fr5 s5 => ?_))
  have sF : Slots [(0, .pointer (some ⟨b, 0, none⟩)), (1, .int .u64 p), (2, .int .i64 ck), (3, .slice (some ⟨ib, io, none⟩) n icap), (4, .slice (some ⟨rb, ro, none⟩) n rcap), (14, .bool false)] a5 := ⟨s5.1, s5.2.1, s5.2.2.1, s5.2.2.2.1, s5.2.2.2.2.1, s5.2.2.2.2.2.1, trivial⟩
  refine wp_navI (j := 38) rfl s5.2.2.2.2.2.2.1 (fun ht => ?_) (fun ht => ?_)
  · refine ob_in _ _ _ _ _ _ _ _ _ _ { T with ag := !dif res (res 0) n } ins res _ _ _ fr5 sF ln h0 hib (Nat.lt_of_lt_of_le hil k03.size) (fun k hk => rowcell k03 hib hil (hi k hk)) (fun k hk => rowcell k03 hrb hrl (hr k hk)) B3 (fun a6 w6 k6 B6 fr6 s6 => ?_)
    exact tail _ _ w6 a6 (k03.trans k6) B6 (by simp [AW.obs, ht]) fr6 s6
  · refine wp_skip' rfl ?_
    exact tail false _ w3 a5 k03 B3 (by simp [AW.obs, ht]) fr5 sF

end Go.Proofs.Qxb6602526a
