import Derived.Test.Qxb6602526aD4
namespace Go.Proofs.Qxb6602526a
open Go.RowKit
set_option linter.unusedSimpArgs false
set_option linter.unusedVariables false


theorem ml_loop (fc : Int) (m K I : Nat) (xp xc xi xr : Option Addr) (pb cb ib rb : Nat) (ag : Bool) (p ck fi fr : Nat → Int) (a : Act) (w : World) (Q : Exit → Act → World → Prop) (hfr : Fr 134 a) (hs : Slots [(0, .int .u64 fc), (1, .int .i64 (m : Nat)), (2, .slice xp K K), (3, .slice xc K K), (4, .slice xi I I), (5, .slice xr I I), (16, .int .i64 (K : Nat)), (17, .bool ag), (20, .bool false), (21, .bool false), (22, .int .u64 0), (23, .int .i64 (0 : Nat))] a)
    (hR : PRows K I xp xc xi xr pb cb ib rb p ck fi fr w) (lK : (K : Int) ≤ 65536) (hI : I = m * K) (hm : 0 < m) (lI : (I : Int) ≤ 1048576) (lm : (m : Int) ≤ 65536)
    (hexit : ∀ a', Fr 134 a' → Slots [(0, .int .u64 fc), (1, .int .i64 (m : Nat)), (2, .slice xp K K), (3, .slice xc K K), (4, .slice xi I I), (5, .slice xr I I), (16, .int .i64 (K : Nat)), (17, .bool ag), (20, .bool (mdl fc m p ck (fun k i => fi (k * m + i)) (fun k i => fr (k * m + i)) K).iv), (21, .bool (mdl fc m p ck (fun k i => fi (k * m + i)) (fun k i => fr (k * m + i)) K).an), (22, .int .u64 (mdl fc m p ck (fun k i => fi (k * m + i)) (fun k i => fr (k * m + i)) K).la)] a' → Q (.exit 0) a' w) :
    Code.wp Try.prog (inC (tlC (nthC 7 (bodyC Try.f22)))) Q a w := by
  refine wp_navL rfl (wp_loop (fun a' w' => w' = w ∧ ∃ k : Nat, k ≤ K ∧ Fr 134 a' ∧ Slots [(0, .int .u64 fc), (1, .int .i64 (m : Nat)), (2, .slice xp K K), (3, .slice xc K K), (4, .slice xi I I), (5, .slice xr I I), (16, .int .i64 (K : Nat)), (17, .bool ag), (20, .bool (mdl fc m p ck (fun k i => fi (k * m + i)) (fun k i => fr (k * m + i)) k).iv), (21, .bool (mdl fc m p ck (fun k i => fi (k * m + i)) (fun k i => fr (k * m + i)) k).an), (22, .int .u64 (mdl fc m p ck (fun k i => fi (k * m + i)) (fun k i => fr (k * m + i)) k).la), (23, .int .i64 (k : Nat))] a') (fun a' _ => K - (intOf (sl a' 23)).toNat) ⟨rfl, 0, Nat.zero_le _, hfr, hs⟩ ?_)
  rintro a1 w1 ⟨rfl, k, hk, fr1, s1⟩
  have mu : (intOf (sl a1 23)).toNat = k := by
    have : sl a1 23 = .int .i64 (k : Nat) := s1.2.2.2.2.2.2.2.2.2.2.2.1
    rw [this]; simp only [intOf]; omega
  refine wp_nav rfl (mh _ _ _ _ _ _ _ _ _ _ _ _ k _ _ _ fr1 s1 hk lK (fun a2 hlt fr2 s2 => ?_) (fun a2 hke fr2 s2 => by subst hke; exact hexit a2 fr2 s2))
  refine wp_nav rfl (wp_navB (id := 1) rfl ?_)
  obtain ⟨e1, e2, e3, e4⟩ := hR.e (by omega)
  subst e1 e2 e3 e4
  refine ml_round fc m K I pb cb ib rb ag _ _ _ k p ck fi fr _ _ _ fr2 s2 hR hlt lK hI hm lI lm (fun a3 fr3 s3 => ?_)
  refine mn _ _ _ _ _ _ _ _ _ _ _ _ k _ _ _ fr3 s3 (by omega) (fun a4 fr4 s4 => ?_)
  refine ⟨⟨rfl, k + 1, by omega, fr4, s4⟩, ?_⟩
  have mu2 : (intOf (sl a4 23)).toNat = k + 1 := by
    have : sl a4 23 = .int .i64 (k + 1 : Nat) := s4.2.2.2.2.2.2.2.2.2.2.2.1
    rw [this]; simp only [intOf]; omega
  rw [mu, mu2]; omega

/-- agreeModel -/
theorem model22 (fc : Int) (m K I : Nat) (xp xc xi xr : Option Addr) (pb cb ib rb : Nat) (p ck fi fr : Nat → Int) (w : World)
    (hR : PRows K I xp xc xi xr pb cb ib rb p ck fi fr w) (lK : (K : Int) ≤ 65536) (hI : I = m * K) (hm : 0 < m) (lI : (I : Int) ≤ 1048576) (lm : (m : Int) ≤ 65536) :
    Calls Try.prog 22 #[.int .u64 fc, .int .i64 (m : Nat), .slice xp K K, .slice xc K K, .slice xi I I, .slice xr I I] w
      fun e w' => e = .returned (.tuple #[.bool (agK m (fun k i => fr (k * m + i)) K), .bool (mdl fc m p ck (fun k i => fi (k * m + i)) (fun k i => fr (k * m + i)) K).iv, .bool (mdl fc m p ck (fun k i => fi (k * m + i)) (fun k i => fr (k * m + i)) K).an, .int .u64 (mdl fc m p ck (fun k i => fi (k * m + i)) (fun k i => fr (k * m + i)) K).la]) ∧ w' = w := by
  refine calls_nav 134 Try.func22 rfl rfl (by simp) fun a fr0 ha => ?_
  have s0 : Slots [(0, .int .u64 fc), (1, .int .i64 (m : Nat)), (2, .slice xp K K), (3, .slice xc K K), (4, .slice xi I I), (5, .slice xr I I)] a := ⟨ha 0 (by simp), ha 1 (by simp), ha 2 (by simp), ha 3 (by simp), ha 4 (by simp), ha 5 (by simp), trivial⟩
  refine wp_nav rfl (m0 _ _ _ _ _ _ _ _ _ _ _ fr0 s0 fun a1 fr1 s1 => ?_)
  refine wp_nav rfl (m1 _ _ _ _ _ _ _ _ _ _ _ fr1 s1 fun a2 fr2 s2 => ?_)
  refine wp_nav rfl (m2 _ _ _ _ _ _ _ _ _ _ _ fr2 s2 fun a3 fr3 s3 => ?_)
  have rest : ∀ (a4 : Act), Fr 134 a4 → Slots [(0, .int .u64 fc), (1, .int .i64 (m : Nat)), (2, .slice xp K K), (3, .slice xc K K), (4, .slice xi I I), (5, .slice xr I I), (16, .int .i64 (K : Nat)), (17, .bool (agK m (fun k i => fr (k * m + i)) K))] a4 → Code.wp Try.prog (dropC 4 (bodyC Try.f22)) (bodyPost Try.prog Try.f22 fun e w' => e = .returned (.tuple #[.bool (agK m (fun k i => fr (k * m + i)) K), .bool (mdl fc m p ck (fun k i => fi (k * m + i)) (fun k i => fr (k * m + i)) K).iv, .bool (mdl fc m p ck (fun k i => fi (k * m + i)) (fun k i => fr (k * m + i)) K).an, .int .u64 (mdl fc m p ck (fun k i => fi (k * m + i)) (fun k i => fr (k * m + i)) K).la]) ∧ w' = w) a4 w := by
    intro a4 fr4 s4
    refine wp_nav rfl (m4 _ _ _ _ _ _ _ _ _ _ _ _ fr4 s4 fun a5 fr5 s5 => ?_)
    refine wp_nav rfl (m5 _ _ _ _ _ _ _ _ _ _ _ _ fr5 s5 fun a6 fr6 s6 => ?_)
    refine wp_nav rfl (m6 _ _ _ _ _ _ _ _ _ _ _ _ fr6 s6 fun a7 fr7 s7 => ?_)
    refine wp_nav rfl (wp_nav rfl (m7i _ _ _ _ _ _ _ _ _ _ _ _ fr7 s7 fun a8 fr8 s8 => ?_))
    refine wp_navB (id := 0) rfl ?_
    refine ml_loop fc m K I xp xc xi xr pb cb ib rb _ p ck fi fr _ _ _ fr8 s8 hR lK hI hm lI lm (fun a9 fr9 s9 => ?_)
    simp only [Exit.inBlock, Exit.then, if_true]
    refine m26 _ _ _ _ _ _ _ _ _ _ _ _ _ _ _ fr9 s9 fun a10 fr10 s10 => ?_
    refine bodyPost_ret (results_tmp4 rfl _ _ _) fr10.defers ⟨?_, rfl⟩
    rw [show a10.tmps.getD 12 undef = _ from s10.1, show a10.tmps.getD 13 undef = _ from s10.2.1, show a10.tmps.getD 14 undef = _ from s10.2.2.1, show a10.tmps.getD 15 undef = _ from s10.2.2.2.1]
  cases K with
  | zero => exact wp_nav rfl (m3z _ _ _ _ _ _ _ _ _ _ _ fr3 s3 rfl fun a4 fr4 s4 => rest a4 fr4 s4)
  | succ k =>
    obtain ⟨h1, h2, h3, h4, h5, h6, h7, h8⟩ := bounds (k := k) hI (by omega) hm lI
    have e1 : (k + 1) * m = k * m + m := Nat.succ_mul k m
    obtain ⟨g1, g2, g3, g4⟩ := hR.e (by omega)
    subst g4
    have ek : (((k + 1 : Nat) : Int) - 1) = (k : Int) := by omega
    refine wp_nav rfl (m3 _ _ _ _ _ _ _ rb (k * m) ((k + 1) * m) (minTo (fun i => fr (k * m + i)) m) (maxTo (fun i => fr (k * m + i)) m) _ _ _ fr3 s3 (by omega) lK (by rw [ek, IntKind.wrap_i64]; omega) (by rw [ek]; exact h1) (by exact h3) h4 h5 h6
      (by rw [h7]; exact mm36 rb (k * m) m _ (fun i => fr (k * m + i)) w hm (by omega) (fun i hi => hR.cr _ (by omega))) fun a4 fr4 s4 => rest a4 fr4 s4)

end Go.Proofs.Qxb6602526a
