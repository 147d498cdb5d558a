import Derived.Test.Qxb6602526aE0
import Derived.Test.Qxb6602526aE2
import Derived.Test.Qxb6602526aNav2
import Derived.Test.Qxb6602526aIn
namespace Go.Proofs.Qxb6602526a
open Go.RowKit
set_option linter.unusedSimpArgs false
set_option linter.unusedVariables false

/-- Kept, the second step's writes new or in S. -/
theorem Kept.then {S T : List Nat} {a b c : World} (h : Kept S a b) (k : Kept T b c) (hT : ∀ x ∈ T, x ∈ S ∨ a.heap.size ≤ x) : Kept S a c :=
  ⟨k.os.trans h.os, k.tape.trans h.tape, k.output.trans h.output, Nat.le_trans h.size k.size,
    fun i hi hn => (k.block i (Nat.lt_of_lt_of_le hi h.size) (fun hm => by rcases hT i hm with h' | h'; exact hn h'; omega)).trans (h.block i hi hn)⟩

/-- A row that a slice leads to. -/
structure RowR (k : IntKind) (x : Option Addr) (b o n : Nat) (f : Nat → Int) (w : World) : Prop where
  ptr : 0 < n → x = some ⟨b, o, none⟩
  lt : 0 < n → b < w.heap.size
  cell : ∀ i, i < n → w.cell? ⟨b, o + i, none⟩ = some (.int k (f i))
theorem RowR.keep {k : IntKind} {x : Option Addr} {b o n : Nat} {f : Nat → Int} {w w' : World} {X : List Nat} (h : RowR k x b o n f w) (hk : Kept X w w') (hX : 0 < n → b ∉ X) : RowR k x b o n f w' :=
  ⟨h.ptr, fun h0 => Nat.lt_of_lt_of_le (h.lt h0) hk.size, fun i hi => (hk.cell (p := ⟨b, o + i, none⟩) (h.lt (by omega)) (hX (by omega))).trans (h.cell i hi)⟩
theorem RowR.drewN {k : IntKind} {x : Option Addr} {b o n : Nat} {f : Nat → Int} {w : World} (h : RowR k x b o n f w) (m : Nat) : RowR k x b o n f (w.drewN m) := ⟨h.ptr, h.lt, h.cell⟩

/-- closed -/
theorem closed_calls (b n rc ic rb ro ib io : Nat) (xr xi : Option Addr) (ck : Int) (T : IW) (prev res idx : Nat → Int) (w : World) (ln : (n : Int) ≤ 65536)
    (hB : IsB w b T.arr 93) (hL : Held w T.lv n prev) (hR : RowR .u8 xr rb ro n res w) (hI : RowR .u32 xi ib io n idx w)
    (r8 : ∀ i, i < n → 0 ≤ res i ∧ res i < 256) (p32 : ∀ i, i < n → 0 ≤ prev i ∧ prev i < 4294967296) (t0 : 0 < T.st) (t1 : T.st < 4294967296) :
    Calls Try.prog 44 #[.pointer (some ⟨b, 0, none⟩), .int .i64 ck, .slice xr n rc, .slice xi n ic] w fun e w' => e = .returned (.bool (cls T.kap T.st ck prev res idx n)) ∧ ∃ m, w' = w.drewN m := by
  obtain ⟨lp, lc, hlv, -⟩ := hL.form
  rw [hlv] at hL
  refine calls_nav 49 Try.func44 rfl rfl (by simp) fun a fr ha => ?_
  have s0 : Slots [(0, .pointer (some ⟨b, 0, none⟩)), (1, .int .i64 ck), (2, .slice xr n rc), (3, .slice xi n ic)] a := ⟨ha 0 (by simp), ha 1 (by simp), ha 2 (by simp), ha 3 (by simp), trivial⟩
  refine wp_nav rfl (c0 _ _ _ _ _ _ _ _ _ _ fr s0 fun a1 fr1 s1 => ?_)
  refine wp_nav rfl (wp_nav rfl (c1 _ _ _ _ _ _ _ _ _ _ fr1 s1 fun a2 fr2 s2 => ?_))
  refine wp_navB (id := 0) rfl ?_
  refine wp_navL rfl (wp_loop (fun a' w' => (∃ m, w' = w.drewN m) ∧ ∃ k : Nat, k ≤ n ∧ cls T.kap T.st ck prev res idx k = true ∧ Fr 49 a' ∧ Slots [(0, .pointer (some ⟨b, 0, none⟩)), (1, .int .i64 ck), (2, .slice xr n rc), (3, .slice xi n ic), (12, .slice xi n ic), (13, .int .i64 n), (14, .int .i64 (k : Nat))] a') (fun a' _ => n - (intOf (sl a' 14)).toNat) ⟨⟨0, rfl⟩, 0, Nat.zero_le _, rfl, fr2, s2⟩ ?_)
  rintro a3 w3 ⟨⟨m, rfl⟩, k, hk, hc, fr3, s3⟩
  have mu : (intOf (sl a3 14)).toNat = k := by
    have : sl a3 14 = .int .i64 (k : Nat) := s3.2.2.2.2.2.2.1
    rw [this]; simp only [intOf]; omega
  by_cases hlt : k < n
  · obtain ⟨g, rfl, hg⟩ := hL.cell hlt
    have e1 := hR.ptr (by omega)
    have e2 := hI.ptr (by omega)
    subst e1 e2
    refine cr _ _ _ _ _ _ _ _ _ _ _ _ k T (idx k) (prev k) (res k) a3 _ _ fr3 s3 (by omega) ln (by omega) (hB.drewN m) hlv (hI.cell k hlt) (hR.cell k hlt) hg (r8 k hlt).1 (r8 k hlt).2 (p32 k hlt).1 (p32 k hlt).2 t0 t1 (fun a4 w4 hw4 hx fr4 s4 => ?_) (fun a4 w4 hw4 hx fr4 s4 => ?_)
    · obtain ⟨m2, rfl⟩ := hw4
      refine ⟨⟨⟨m + m2, by simp [World.drewN, Nat.add_assoc]⟩, k + 1, by omega, ?_, fr4, s4⟩, ?_⟩
      · rw [cls_succ, hc, Bool.true_and]; simpa using hx
      have mu2 : (intOf (sl a4 14)).toNat = k + 1 := by
        have : sl a4 14 = .int .i64 (k + 1 : Nat) := s4.2.2.2.2.2.2.1
        rw [this]; simp only [intOf]; omega
      rw [mu, mu2]; omega
    · obtain ⟨m2, rfl⟩ := hw4
      simp only [Exit.inBlock, Exit.then]
      refine bodyPost_ret (results_tmp rfl _ _ _) fr4.defers ⟨?_, m + m2, by simp [World.drewN, Nat.add_assoc]⟩
      rw [show a4.tmps.getD 8 undef = .bool false from s4, cls_bad hlt hx]
  · obtain rfl : k = n := by omega
    refine cx _ _ _ _ _ _ _ k a3 _ _ fr3 s3 rfl (fun a4 fr4 => ?_)
    simp only [Exit.inBlock, Exit.then, if_true]
    refine c2 a4 _ _ fr4 (fun a5 fr5 s5 => ?_)
    refine bodyPost_ret (results_tmp rfl _ _ _) fr5.defers ⟨?_, m, rfl⟩
    rw [show a5.tmps.getD 8 undef = .bool true from s5, hc]

theorem iob_loop (b n rc ic ib io : Nat) (xr xi : Option Addr) (p ck : Int) (idx : Nat → Int) (a : Act) (w : World) (Q : Exit → Act → World → Prop) (hfr : Fr 101 a) (hs : Slots [(0, .pointer (some ⟨b, 0, none⟩)), (1, .int .u64 p), (2, .int .i64 ck), (4, .slice xr n rc), (5, .slice xi n ic), (12, .bool false), (15, .slice xi n ic), (16, .int .i64 n), (17, .int .i64 (0 : Nat))] a)
    (ln : (n : Int) ≤ 65536) (hI : RowR .u32 xi ib io n idx w)
    (hexit : ∀ a', Fr 101 a' → Slots [(0, .pointer (some ⟨b, 0, none⟩)), (1, .int .u64 p), (2, .int .i64 ck), (4, .slice xr n rc), (5, .slice xi n ic), (12, .bool (dif idx (idx 0) n))] a' → Q (.exit 0) a' w) :
    Code.wp Try.prog (inC (tlC (nthC 1 (bodyC Try.f37)))) Q a w := by
  refine wp_navL rfl (wp_loop (fun a' w' => w' = w ∧ ∃ k : Nat, k ≤ n ∧ Fr 101 a' ∧ Slots [(0, .pointer (some ⟨b, 0, none⟩)), (1, .int .u64 p), (2, .int .i64 ck), (4, .slice xr n rc), (5, .slice xi n ic), (12, .bool (dif idx (idx 0) k)), (15, .slice xi n ic), (16, .int .i64 n), (17, .int .i64 (k : Nat))] a') (fun a' _ => n - (intOf (sl a' 17)).toNat) ⟨rfl, 0, Nat.zero_le _, hfr, hs⟩ ?_)
  rintro a1 w1 ⟨rfl, k, hk, fr, s1⟩
  have mu : (intOf (sl a1 17)).toNat = k := by
    have : sl a1 17 = .int .i64 (k : Nat) := s1.2.2.2.2.2.2.2.2.1
    rw [this]; simp only [intOf]; omega
  by_cases hlt : k < n
  · have e := hI.ptr (by omega)
    subst e
    refine p1r _ _ _ _ _ _ _ _ _ _ k (idx k) (idx 0) a1 w1 _ fr s1 (by omega) ln (hI.cell k hlt) (hI.cell 0 (by omega)) (fun a2 fr2 s2 => ?_)
    refine ⟨⟨rfl, k + 1, by omega, fr2, by rw [dif_succ]; exact s2⟩, ?_⟩
    have mu2 : (intOf (sl a2 17)).toNat = k + 1 := by
      have : sl a2 17 = .int .i64 (k + 1 : Nat) := s2.2.2.2.2.2.2.2.2.1
      rw [this]; simp only [intOf]; omega
    rw [mu, mu2]; omega
  · obtain rfl : k = n := by omega
    exact p1x _ _ _ _ _ _ _ _ _ k a1 w1 _ fr s1 rfl (fun a2 fr2 s2 => hexit a2 fr2 s2)

/-- The switch. -/
theorem iob_sw (b n rc ic : Nat) (xr xi : Option Addr) (p ck : Int) (sp c : Bool) (T : IW) (a : Act) (w : World) (Q : Exit → Act → World → Prop) (hfr : Fr 101 a) (hs : Slots [(0, .pointer (some ⟨b, 0, none⟩)), (1, .int .u64 p), (2, .int .i64 ck), (4, .slice xr n rc), (5, .slice xi n ic), (12, .bool sp)] a)
    (hB : IsB w b T.arr 93) (v0 : 0 ≤ T.viol) (v1 : T.viol ≤ 1000000)
    (hcall : (T.whole && T.seen && !T.cnt) = true → Calls Try.prog 44 #[.pointer (some ⟨b, 0, none⟩), .int .i64 ck, .slice xr n rc, .slice xi n ic] w fun e w' => e = .returned (.bool c) ∧ ∃ m, w' = w.drewN m)
    (hQ : ∀ a' w', Kept [b] w w' → IsB w' b { T with any := T.any || sp, last := if sp then p else T.last, viol := if sp then 0 else if !sp && (T.whole && T.seen && !T.cnt && !c) then T.viol + 1 else T.viol, whole := !sp && T.whole, cnt := T.cnt || (!sp && (T.whole && T.seen && !T.cnt && !c)) }.arr 93 → Fr 101 a' → Slots [(0, .pointer (some ⟨b, 0, none⟩)), (1, .int .u64 p), (2, .int .i64 ck), (4, .slice xr n rc), (5, .slice xi n ic), (12, .bool sp)] a' → Q .normal a' w') :
    Code.wp Try.prog (nthC 3 (bodyC Try.f37)) Q a w := by
  refine wp_navB (id := 2) rfl ?_
  refine wp_nav rfl (p9 _ _ _ _ _ _ _ _ _ _ _ _ hfr hs fun a1 fr1 s1 => ?_)
  have s1' : Slots [(0, .pointer (some ⟨b, 0, none⟩)), (1, .int .u64 p), (2, .int .i64 ck), (4, .slice xr n rc), (5, .slice xi n ic), (12, .bool sp)] a1 := ⟨s1.1, s1.2.1, s1.2.2.1, s1.2.2.2.1, s1.2.2.2.2.1, s1.2.2.2.2.2.1, trivial⟩
  refine wp_navI (j := 35) rfl s1.2.2.2.2.2.2.1 (fun ht => ?_) (fun ht => ?_)
  · subst ht
    refine p10 _ _ _ _ _ _ _ _ _ T _ _ _ fr1 s1' hB fun a2 w2 fr2 s2 k2 B2 => ?_
    simp only [Exit.inBlock, Exit.then]
    refine hQ a2 w2 k2 ?_ fr2 s2
    simpa using B2
  · subst ht
    refine wp_nav rfl (p12 _ _ _ _ _ _ _ _ _ T c _ _ _ fr1 s1' hB hcall fun a2 w2 hw2 fr2 s2 => ?_)
    obtain ⟨m, rfl⟩ := hw2
    have s2' : Slots [(0, .pointer (some ⟨b, 0, none⟩)), (1, .int .u64 p), (2, .int .i64 ck), (4, .slice xr n rc), (5, .slice xi n ic), (12, .bool false)] a2 := ⟨s2.1, s2.2.1, s2.2.2.1, s2.2.2.2.1, s2.2.2.2.2.1, s2.2.2.2.2.2.1, trivial⟩
    refine wp_navI (j := 48) rfl s2.2.2.2.2.2.2.1 (fun ht => ?_) (fun ht => ?_)
    · refine p13 _ _ _ _ _ _ _ _ _ T _ _ _ fr2 s2' (hB.drewN m) v0 v1 fun a3 w3 fr3 s3 k3 B3 => ?_
      simp only [Exit.inBlock, Exit.then]
      refine hQ a3 w3 (((Kept.refl _ _).drewN m).trans k3) ?_ fr3 s3
      rw [ht]
      simpa using B3
    · refine wp_skip' rfl ?_
      simp only [Exit.inBlock, Exit.then]
      refine hQ a2 _ ((Kept.refl _ _).drewN m) ?_ fr2 s2'
      rw [ht]
      simpa using hB.drewN m

theorem IsB.grown {w w' : World} {row : Option Nat} {b : Nat} {c : Array Value} {t : TypeId} (h : IsB w b c t) (hg : w.grownBy w' row) (hne : some b ≠ row) : IsB w' b c t := by
  unfold IsB at *
  rw [hg.block b (IsB.lt h) hne]; exact h
theorem Kept.of_grown {w w' : World} {row : Option Nat} {X : List Nat} (hg : w.grownBy w' row) (h : ∀ g, row = some g → g ∈ X) : Kept X w w' :=
  ⟨hg.os, hg.tape, hg.output, hg.size, fun k hk hn => hg.block k hk (fun e => hn (h k e.symm))⟩

/-- observe -/
theorem iobserve_calls (b n rc ic rb ro ib io : Nat) (xr xi : Option Addr) (p ck : Int) (T : IW) (m0 : Nat) (prev res idx : Nat → Int) (w : World) (ln : (n : Int) ≤ 65536)
    (hB : IsB w b T.arr 93) (hL : Held w T.lv m0 prev) (hm : T.seen = true → m0 = n) (hLb : ∀ g, T.lv.ownBlock = some g → g ≠ b ∧ (0 < n → g ≠ rb ∧ g ≠ ib)) (hR : RowR .u8 xr rb ro n res w) (hI : RowR .u32 xi ib io n idx w) (hne : 0 < n → rb ≠ b ∧ ib ≠ b)
    (r8 : ∀ i, i < n → 0 ≤ res i ∧ res i < 256) (p32 : ∀ i, i < n → 0 ≤ prev i ∧ prev i < 4294967296) (t0 : 0 < T.st) (t1 : T.st < 4294967296) (v0 : 0 ≤ T.viol) (v1 : T.viol ≤ 1000000) :
    Calls Try.prog 37 #[.pointer (some ⟨b, 0, none⟩), .int .u64 p, .int .i64 ck, .slice none 0 0, .slice xr n rc, .slice xi n ic] w
      fun e w' => e = .returned (.tuple #[]) ∧ ∃ lv, Kept (b :: (T.lv.ownBlock.toList)) w w' ∧ Held w' lv n idx ∧ (lv.ownBlock = T.lv.ownBlock ∨ ∃ g, lv.ownBlock = some g ∧ w.heap.size ≤ g) ∧ IsB w' b { T.obs n p ck prev res idx with lv := lv }.arr 93 := by
  refine calls_nav 101 Try.func37 rfl rfl (by simp) fun a fr ha => ?_
  have s0 : Slots [(0, .pointer (some ⟨b, 0, none⟩)), (1, .int .u64 p), (2, .int .i64 ck), (4, .slice xr n rc), (5, .slice xi n ic)] a := ⟨ha 0 (by simp), ha 1 (by simp), ha 2 (by simp), ha 4 (by simp), ha 5 (by simp), trivial⟩
  refine wp_nav rfl (p0 _ _ _ _ _ _ _ _ _ _ _ fr s0 fun a1 fr1 s1 => ?_)
  refine wp_nav rfl (wp_nav rfl (p1i _ _ _ _ _ _ _ _ _ _ _ fr1 s1 fun a2 fr2 s2 => ?_))
  refine wp_navB (id := 0) rfl ?_
  refine iob_loop _ _ _ _ ib io _ _ _ _ idx _ _ _ fr2 s2 ln hI (fun a3 fr3 s3 => ?_)
  simp only [Exit.inBlock, Exit.then, if_true]
  obtain ⟨lp, lc, hlv, hlp⟩ := hL.form
  have rest : ∀ (U : IW) (w1 : World) (a1 : Act), Kept [b] w w1 → IsB w1 b U.arr 93 → U.lv = T.lv → ({ U with seen := true, split := dif idx (idx 0) n } : IW) = T.obs n p ck prev res idx → Fr 101 a1 → Slots [(0, .pointer (some ⟨b, 0, none⟩)), (1, .int .u64 p), (2, .int .i64 ck), (4, .slice xr n rc), (5, .slice xi n ic), (12, .bool (dif idx (idx 0) n))] a1 →
      Code.wp Try.prog (dropC 4 (bodyC Try.f37)) (bodyPost Try.prog Try.f37 fun e w' => e = .returned (.tuple #[]) ∧ ∃ lv, Kept (b :: (T.lv.ownBlock.toList)) w w' ∧ Held w' lv n idx ∧ (lv.ownBlock = T.lv.ownBlock ∨ ∃ g, lv.ownBlock = some g ∧ w.heap.size ≤ g) ∧ IsB w' b { T.obs n p ck prev res idx with lv := lv }.arr 93) a1 w1 := by
    intro U w1 a1 k1 B1 hU1 hU2 fr1 s1
    have L1 := hL.keep k1 (fun g hg => by simpa using (hLb g hg).1)
    have I1 := hI.keep k1 (fun h => by simpa using (hne h).2)
    rw [hlv] at L1
    obtain ⟨v', w2, hrun, hh, hg, hw, -⟩ := app_held L1 n ib io ic xi idx hI.ptr I1.cell (by omega)
    obtain ⟨vp, vc, rfl, -⟩ := hh.form
    have hbne : some b ≠ (Value.slice lp m0 lc).ownBlock := fun e => (hLb b (by rw [hlv]; exact e.symm)).1 rfl
    have B2 := B1.grown hg hbne
    have k2 : Kept (b :: T.lv.ownBlock.toList) w w2 := (k1.wide (Y := b :: T.lv.ownBlock.toList) (by simp)).trans (Kept.of_grown hg (fun g e => by rw [hlv, e]; simp))
    have hvb : ∀ g, (Value.slice vp n vc).ownBlock = some g → g ≠ b := fun g e => by
      rcases hw with h | h
      · rw [h] at e; exact (hLb g (by rw [hlv]; exact e)).1
      · rw [h] at e; cases e; have := B1.lt; omega
    refine wp_nav rfl (p15 _ _ _ _ _ _ _ _ _ U lp vp m0 lc n vc w2 _ _ _ fr1 s1 (hU1.trans hlv) hlp B1 B2 hrun fun a3 w3 fr3 s3 k3 B3 => ?_)
    refine p16 _ _ _ _ _ _ _ _ _ _ _ _ _ fr3 s3 B3 fun a4 w4 fr4 k4 B4 => ?_
    have k34 := k3.trans k4
    refine bodyPost_end (results_none rfl _ _ _) fr4.defers ⟨rfl, .slice vp n vc, k2.trans (k34.wide (by simp)), hh.keep k34 (fun g e => by simpa using hvb g e), ?_, ?_⟩
    · rw [hlv]
      rcases hw with h | h
      · exact .inl h
      · exact .inr ⟨_, h, k1.size⟩
    · rw [← hU2]
      exact B4
  have call : ∀ (U : IW) (w1 : World), Kept [b] w w1 → IsB w1 b U.arr 93 → U.lv = T.lv → U.kap = T.kap → U.st = T.st → U.seen = T.seen → (U.whole && U.seen && !U.cnt) = true → Calls Try.prog 44 #[.pointer (some ⟨b, 0, none⟩), .int .i64 ck, .slice xr n rc, .slice xi n ic] w1 fun e w' => e = .returned (.bool (cls T.kap T.st ck prev res idx n)) ∧ ∃ m, w' = w1.drewN m := by
    intro U w1 k1 B1 e1 e2 e3 e4 ht
    have hs : T.seen = true := by rw [← e4]; simp at ht; exact ht.1.2
    have hmn := hm hs
    subst hmn
    rw [← e2, ← e3]
    exact closed_calls b m0 rc ic rb ro ib io xr xi ck U prev res idx w1 ln B1 (by rw [e1]; exact hL.keep k1 (fun g hg => by simpa using (hLb g hg).1)) (hR.keep k1 (fun h => by simpa using (hne h).1)) (hI.keep k1 (fun h => by simpa using (hne h).2)) r8 p32 (by rw [e3]; exact t0) (by rw [e3]; exact t1)
  refine wp_nav rfl (wp_nav rfl (p2h _ _ _ _ _ _ _ _ _ _ _ _ fr3 s3 fun a4 fr4 s4 => ?_))
  have s4' : Slots [(0, .pointer (some ⟨b, 0, none⟩)), (1, .int .u64 p), (2, .int .i64 ck), (4, .slice xr n rc), (5, .slice xi n ic), (12, .bool (dif idx (idx 0) n))] a4 := ⟨s4.1, s4.2.1, s4.2.2.1, s4.2.2.2.1, s4.2.2.2.2.1, s4.2.2.2.2.2.1, trivial⟩
  refine wp_navI (j := 28) rfl s4.2.2.2.2.2.2.1 (fun ht => ?_) (fun ht => ?_)
  · refine p2t _ _ _ _ _ _ _ _ _ T _ _ _ fr4 s4' hB fun a5 w5 fr5 s5 k5 B5 => ?_
    simp only [Exit.then]
    refine wp_nav rfl (iob_sw _ _ _ _ _ _ _ _ _ (cls T.kap T.st ck prev res idx n) _ _ _ _ fr5 s5 B5 v0 v1 (call _ _ k5 B5 rfl rfl rfl rfl) fun a6 w6 k6 B6 fr6 s6 => ?_)
    refine rest _ w6 a6 (k5.trans k6) B6 rfl ?_ fr6 s6
    simp [IW.obs, ht]
  · refine wp_skip' rfl ?_
    simp only [Exit.then]
    refine wp_nav rfl (iob_sw _ _ _ _ _ _ _ _ _ (cls T.kap T.st ck prev res idx n) T _ _ _ fr4 s4' hB v0 v1 (call _ _ (Kept.refl _ _) hB rfl rfl rfl rfl) fun a6 w6 k6 B6 fr6 s6 => ?_)
    refine rest _ w6 a6 k6 B6 rfl ?_ fr6 s6
    simp [IW.obs, ht]

end Go.Proofs.Qxb6602526a
