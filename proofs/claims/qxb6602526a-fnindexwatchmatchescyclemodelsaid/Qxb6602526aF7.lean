import Derived.Test.Qxb6602526aF1
import Derived.Test.Qxb6602526aF3
import Derived.Test.Qxb6602526aF4
import Derived.Test.Qxb6602526aF6
namespace Go.Proofs.Qxb6602526a
open Go.RowKit
set_option linter.unusedSimpArgs false
set_option linter.unusedVariables false

theorem RowR.congr {k : IntKind} {x : Option Addr} {b o n : Nat} {f g : Nat → Int} {w : World} (h : RowR k x b o n f w) (he : ∀ i, i < n → f i = g i) : RowR k x b o n g w :=
  ⟨h.ptr, h.lt, fun i hi => by rw [← he i hi]; exact h.cell i hi⟩
theorem RowR.sub {kd : IntKind} {x : Option Addr} {b I : Nat} {f : Nat → Int} {w : World} (h : RowR kd x b 0 I f w) (o m : Nat) (hle : o + m ≤ I) : RowR kd (some ⟨b, o, none⟩) b o m (fun i => f (o + i)) w :=
  ⟨fun _ => rfl, fun h0 => h.lt (by omega), fun i hi => by have := h.cell (o + i) (by omega); rwa [Nat.zero_add] at this⟩
theorem RowR.none {kd : IntKind} {x : Option Addr} {b o : Nat} {f : Nat → Int} {w : World} : RowR kd x b o 0 f w :=
  ⟨fun h => by omega, fun h => by omega, fun i hi => by omega⟩

/-- How a watch stands. -/
structure Wat (b H0 : Nat) (T : IW) (m0 : Nat) (prev : Nat → Int) (lv : Value) (w : World) : Prop where
  B : IsB w b { T with lv := lv }.arr 93
  L : Held w lv m0 prev
  g : ∀ g, lv.ownBlock = some g → H0 ≤ g
theorem Wat.keep {b H0 m0 : Nat} {T : IW} {prev : Nat → Int} {lv : Value} {w w' : World} {X : List Nat} (h : Wat b H0 T m0 prev lv w) (hk : Kept X w w') (hb : b ∉ X) (hg : ∀ g, lv.ownBlock = some g → g ∉ X) : Wat b H0 T m0 prev lv w' :=
  ⟨hk.isB h.B hb, h.L.keep hk hg, h.g⟩

/-- One pulse of one watch. -/
theorem step27 (b H0 n rc ic rb ro ib io : Nat) (xr xi : Option Addr) (p ck : Int) (T : IW) (m0 : Nat) (prev res idx : Nat → Int) (lv : Value) (w : World) (ln : (n : Int) ≤ 65536)
    (hW : Wat b H0 T m0 prev lv w) (hm : T.seen = true → m0 = n) (hb : b < H0) (hrb : 0 < n → rb < H0 ∧ ib < H0) (hH : H0 ≤ w.heap.size) (hR : RowR .u8 xr rb ro n res w) (hI : RowR .u32 xi ib io n idx w) (hne : 0 < n → rb ≠ b ∧ ib ≠ b)
    (r8 : ∀ i, i < n → 0 ≤ res i ∧ res i < 256) (p32 : ∀ i, i < n → 0 ≤ prev i ∧ prev i < 4294967296) (t0 : 0 < T.st) (t1 : T.st < 4294967296) (v0 : 0 ≤ T.viol) (v1 : T.viol ≤ 1000000) :
    Calls Try.prog 27 #[.pointer (some ⟨b, 0, none⟩), .int .u64 p, .int .i64 ck, .slice xr n rc, .slice xi n ic] w fun e w' => e = .returned (.tuple #[]) ∧
      ∃ lv', Kept (b :: lv.ownBlock.toList) w w' ∧ Wat b H0 (T.obs n p ck prev res idx) n idx lv' w' ∧ (lv'.ownBlock = lv.ownBlock ∨ ∃ g, lv'.ownBlock = some g ∧ w.heap.size ≤ g) := by
  refine (obs27 b n rc ic rb ro ib io xr xi p ck { T with lv := lv } m0 prev res idx w ln hW.B hW.L hm (fun g hg => ?_) hR hI hne r8 p32 t0 t1 v0 v1).mono ?_
  · have := hW.g g hg
    exact ⟨by omega, fun h => by have := hrb h; omega⟩
  · rintro e w' ⟨he, lv', h1, h2, h3, h4⟩
    refine ⟨he, lv', h1, ⟨h4, h2, fun g hg => ?_⟩, h3⟩
    rcases h3 with h | ⟨g', h, hl⟩
    · exact hW.g g (by rw [← hg, h])
    · rw [h] at hg; cases hg; omega

theorem l7_28 (kap st : Int) (m K I : Nat) (xp xc xr xi : Option Addr) (q1 q2 b1 b2 : Nat) (pb cb rb ib k : Nat) (p ck fr fi : Nat → Int) (G : World → Prop) (a : Act) (w : World) (Q : Exit → Act → World → Prop) (hfr : Fr 282 a) (hs : Slots [(0, .int .i64 kap), (1, .int .u32 st), (2, .int .i64 (m : Nat)), (3, .slice xp K K), (4, .slice xc K K), (5, .slice xr I I), (6, .slice xi I I), (15, .slice (some ⟨q1, 0, none⟩) I I), (16, .slice (some ⟨q2, 0, none⟩) I I), (19, .pointer (some ⟨b1, 0, none⟩)), (20, .pointer (some ⟨b2, 0, none⟩)), (21, .int .i64 (k : Nat))] a)
    (hP : RowR .u64 xp pb 0 K p w) (hC : RowR .i64 xc cb 0 K ck w) (hR : RowR .u8 xr rb 0 I fr w) (hX : RowR .u32 xi ib 0 I fi w) 
    (hk : k < K) (lK : (K : Int) ≤ 65536) (hI : I = m * K) (lI : (I : Int) ≤ 1048576)
    (hcall : ∀ yr yi rc ic, RowR .u8 yr rb (k * m) m (fun i => fr (k * m + i)) w.drew → RowR .u32 yi ib (k * m) m (fun i => fi (k * m + i)) w.drew →
      Calls Try.prog 27 #[.pointer (some ⟨b1, 0, none⟩), .int .u64 (p k), .int .i64 (ck k), .slice yr m rc, .slice yi m ic] w.drew fun e w' => e = .returned (.tuple #[]) ∧ (fun w' : World => w'.cell? ⟨pb, k, none⟩ = some (.int .u64 (p k)) ∧ w'.cell? ⟨cb, k, none⟩ = some (.int .i64 (ck k))) w' ∧ G w')
    (hQ : ∀ a' w', G w' → Fr 282 a' → Slots [(0, .int .i64 kap), (1, .int .u32 st), (2, .int .i64 (m : Nat)), (3, .slice xp K K), (4, .slice xc K K), (5, .slice xr I I), (6, .slice xi I I), (15, .slice (some ⟨q1, 0, none⟩) I I), (16, .slice (some ⟨q2, 0, none⟩) I I), (19, .pointer (some ⟨b1, 0, none⟩)), (20, .pointer (some ⟨b2, 0, none⟩)), (21, .int .i64 (k : Nat))] a' → Q .normal a' w') :
    Code.wp Try.prog (hdC (inC (hdC (tlC (inC (inC (tlC (nthC 14 (bodyC Try.f7))))))))) Q a w := by
  have e1 := hP.ptr (by omega)
  have e2 := hC.ptr (by omega)
  subst e1 e2
  have cp := hP.cell k hk
  have cc := hC.cell k hk
  rw [Nat.zero_add] at cp cc
  rcases Nat.eq_zero_or_pos m with hm | hm
  · subst hm
    have h0 : I = 0 := by rw [hI, Nat.zero_mul]
    subst h0
    refine l7_28z kap st K pb cb b1 b2 k xr xi (some ⟨q1, 0, none⟩) (some ⟨q2, 0, none⟩) (p k) (ck k) G a w Q hfr hs (by decide) (by rw [IntKind.wrap_i64]; omega) (by omega) cp cc (hcall _ _ 0 0 RowR.none RowR.none) hQ
  · obtain ⟨g1, g2, g3, g4, g5, g6, g7, g8⟩ := bounds hI hk hm lI
    have hI0 : 0 < I := by omega
    have e3 := hR.ptr hI0
    have e4 := hX.ptr hI0
    subst e3 e4
    have e5 : (k + 1) * m = k * m + m := Nat.succ_mul k m
    refine l7_28p kap st m K I pb cb rb ib q1 q2 b1 b2 k (k * m) ((k + 1) * m) (p k) (ck k) G a w Q hfr hs g1 g3 g4 g5 g6 g2 (by omega) cp cc ?_ hQ
    rw [g7]
    exact hcall _ _ _ _ ((hR.keep (Kept.refl [] w).drew (by simp)).sub (k * m) m (by omega)) ((hX.keep (Kept.refl [] w).drew (by simp)).sub (k * m) m (by omega))

theorem l7_29 (kap st : Int) (m K I : Nat) (xp xc xr xi : Option Addr) (q1 q2 b1 b2 : Nat) (pb cb rb ib k : Nat) (p ck fr fi f1 f2 : Nat → Int) (G : World → Prop) (a : Act) (w : World) (Q : Exit → Act → World → Prop) (hfr : Fr 282 a) (hs : Slots [(0, .int .i64 kap), (1, .int .u32 st), (2, .int .i64 (m : Nat)), (3, .slice xp K K), (4, .slice xc K K), (5, .slice xr I I), (6, .slice xi I I), (15, .slice (some ⟨q1, 0, none⟩) I I), (16, .slice (some ⟨q2, 0, none⟩) I I), (19, .pointer (some ⟨b1, 0, none⟩)), (20, .pointer (some ⟨b2, 0, none⟩)), (21, .int .i64 (k : Nat))] a)
    (hP : RowR .u64 xp pb 0 K p w) (hC : RowR .i64 xc cb 0 K ck w) (hR : RowR .u8 xr rb 0 I fr w) (hX : RowR .u32 xi ib 0 I fi w) (h1 : RowR .u8 (some ⟨q1, 0, none⟩) q1 0 I f1 w) (h2 : RowR .u32 (some ⟨q2, 0, none⟩) q2 0 I f2 w)
    (hk : k < K) (lK : (K : Int) ≤ 65536) (hI : I = m * K) (lI : (I : Int) ≤ 1048576)
    (hcall : ∀ yr yi rc ic, RowR .u8 yr q1 (k * m) m (fun i => f1 (k * m + i)) w.drew → RowR .u32 yi q2 (k * m) m (fun i => f2 (k * m + i)) w.drew →
      Calls Try.prog 27 #[.pointer (some ⟨b2, 0, none⟩), .int .u64 (p k), .int .i64 (ck k), .slice yr m rc, .slice yi m ic] w.drew fun e w' => e = .returned (.tuple #[]) ∧ (fun w' : World => w'.cell? ⟨pb, k, none⟩ = some (.int .u64 (p k)) ∧ w'.cell? ⟨cb, k, none⟩ = some (.int .i64 (ck k))) w' ∧ G w')
    (hQ : ∀ a' w', G w' → Fr 282 a' → Slots [(0, .int .i64 kap), (1, .int .u32 st), (2, .int .i64 (m : Nat)), (3, .slice xp K K), (4, .slice xc K K), (5, .slice xr I I), (6, .slice xi I I), (15, .slice (some ⟨q1, 0, none⟩) I I), (16, .slice (some ⟨q2, 0, none⟩) I I), (19, .pointer (some ⟨b1, 0, none⟩)), (20, .pointer (some ⟨b2, 0, none⟩)), (21, .int .i64 (k : Nat))] a' → Q .normal a' w') :
    Code.wp Try.prog (tlC (inC (hdC (tlC (inC (inC (tlC (nthC 14 (bodyC Try.f7))))))))) Q a w := by
  have e1 := hP.ptr (by omega)
  have e2 := hC.ptr (by omega)
  subst e1 e2
  have cp := hP.cell k hk
  have cc := hC.cell k hk
  rw [Nat.zero_add] at cp cc
  rcases Nat.eq_zero_or_pos m with hm | hm
  · subst hm
    have h0 : I = 0 := by rw [hI, Nat.zero_mul]
    subst h0
    refine l7_29z kap st K pb cb b1 b2 k xr xi (some ⟨q1, 0, none⟩) (some ⟨q2, 0, none⟩) (p k) (ck k) G a w Q hfr hs (by decide) (by rw [IntKind.wrap_i64]; omega) (by omega) cp cc (hcall _ _ 0 0 RowR.none RowR.none) hQ
  · obtain ⟨g1, g2, g3, g4, g5, g6, g7, g8⟩ := bounds hI hk hm lI
    have hI0 : 0 < I := by omega
    have e3 := hR.ptr hI0
    have e4 := hX.ptr hI0
    subst e3 e4
    have e5 : (k + 1) * m = k * m + m := Nat.succ_mul k m
    refine l7_29p kap st m K I pb cb rb ib q1 q2 b1 b2 k (k * m) ((k + 1) * m) (p k) (ck k) G a w Q hfr hs g1 g3 g4 g5 g6 g2 (by omega) cp cc ?_ hQ
    rw [g7]
    exact hcall _ _ _ _ ((h1.keep (Kept.refl [] w).drew (by simp)).sub (k * m) m (by omega)) ((h2.keep (Kept.refl [] w).drew (by simp)).sub (k * m) m (by omega))

/-- One pulse of both watches. -/
theorem l7_round (kap st : Int) (m K I : Nat) (xp xc xr xi : Option Addr) (q1 q2 b1 b2 : Nat) (H0 pb cb rb ib k : Nat) (p ck fr fi : Nat → Int) (a : Act) (w0 w : World) (Q : Exit → Act → World → Prop) (hfr : Fr 282 a) (hs : Slots [(0, .int .i64 kap), (1, .int .u32 st), (2, .int .i64 (m : Nat)), (3, .slice xp K K), (4, .slice xc K K), (5, .slice xr I I), (6, .slice xi I I), (15, .slice (some ⟨q1, 0, none⟩) I I), (16, .slice (some ⟨q2, 0, none⟩) I I), (19, .pointer (some ⟨b1, 0, none⟩)), (20, .pointer (some ⟨b2, 0, none⟩)), (21, .int .i64 (k : Nat))] a)
    (hP : RowR .u64 xp pb 0 K p w) (hC : RowR .i64 xc cb 0 K ck w) (hR : RowR .u8 xr rb 0 I fr w) (hX : RowR .u32 xi ib 0 I fi w) (h1 : RowR .u8 (some ⟨q1, 0, none⟩) q1 0 I (fun j => fr (rev m j)) w) (h2 : RowR .u32 (some ⟨q2, 0, none⟩) q2 0 I (fun j => fi (rev m j)) w) (r8 : ∀ i, i < I → 0 ≤ fr i ∧ fr i < 256) (x32 : ∀ i, i < I → 0 ≤ fi i ∧ fi i < 4294967296) (t0 : 0 < st) (t1 : st < 4294967296)
    (hb : b1 ≠ b2) (hlt : b1 < H0 ∧ b2 < H0) (hpl : 0 < K → pb < H0 ∧ cb < H0 ∧ pb ∉ [b1, b2] ∧ cb ∉ [b1, b2]) (hpl2 : 0 < I → rb < H0 ∧ ib < H0 ∧ rb ∉ [b1, b2] ∧ ib ∉ [b1, b2] ∧ q1 < H0 ∧ q2 < H0 ∧ q1 ∉ [b1, b2] ∧ q2 ∉ [b1, b2])
    (hk : k < K) (lK : (K : Int) ≤ 65536) (hI : I = m * K) (lI : (I : Int) ≤ 1048576) (lm : (m : Int) ≤ 65536) (hH : H0 ≤ w0.heap.size) (kp : Kept [b1, b2] w0 w) (hH0 : w0.heap.size = H0) (hW : ∃ lv1 lv2, Wat b1 H0 (IW.run kap st m p ck (fun k i => fr (k * m + i)) (fun k i => fi (k * m + i)) k) (if k = 0 then 0 else m) (fun i => fi ((k - 1) * m + i)) lv1 w ∧ Wat b2 H0 (IW.run kap st m p ck (fun k i => fr (k * m + (m - 1 - i))) (fun k i => fi (k * m + (m - 1 - i))) k) (if k = 0 then 0 else m) (fun i => fi ((k - 1) * m + (m - 1 - i))) lv2 w ∧ (∀ g, lv1.ownBlock = some g → lv2.ownBlock ≠ some g))
    (hQ : ∀ a' w', Kept [b1, b2] w0 w' → (∃ lv1 lv2, Wat b1 H0 (IW.run kap st m p ck (fun k i => fr (k * m + i)) (fun k i => fi (k * m + i)) (k + 1)) (if (k + 1) = 0 then 0 else m) (fun i => fi (((k + 1) - 1) * m + i)) lv1 w' ∧ Wat b2 H0 (IW.run kap st m p ck (fun k i => fr (k * m + (m - 1 - i))) (fun k i => fi (k * m + (m - 1 - i))) (k + 1)) (if (k + 1) = 0 then 0 else m) (fun i => fi (((k + 1) - 1) * m + (m - 1 - i))) lv2 w' ∧ (∀ g, lv1.ownBlock = some g → lv2.ownBlock ≠ some g)) → Fr 282 a' → Slots [(0, .int .i64 kap), (1, .int .u32 st), (2, .int .i64 (m : Nat)), (3, .slice xp K K), (4, .slice xc K K), (5, .slice xr I I), (6, .slice xi I I), (15, .slice (some ⟨q1, 0, none⟩) I I), (16, .slice (some ⟨q2, 0, none⟩) I I), (19, .pointer (some ⟨b1, 0, none⟩)), (20, .pointer (some ⟨b2, 0, none⟩)), (21, .int .i64 (k : Nat))] a' → Q .normal a' w') :
    Code.wp Try.prog (inC (hdC (tlC (inC (inC (tlC (nthC 14 (bodyC Try.f7)))))))) Q a w := by
  obtain ⟨lv1, lv2, A1, A2, hdis⟩ := hW
  have hKpos : 0 < K := by omega
  obtain ⟨l1, l2, l3, l4⟩ := hpl hKpos
  simp only [List.mem_cons, List.not_mem_nil, or_false, not_or] at l3 l4
  have hHw : H0 ≤ w.heap.size := by have := kp.size; omega
  have hIm : 0 < m → k * m + m ≤ I ∧ 0 < I := fun h => by
    have e5 : (k + 1) * m = k * m + m := Nat.succ_mul k m
    have : (k + 1) * m ≤ I := by rw [hI, Nat.mul_comm m K]; exact Nat.mul_le_mul_right m hk
    omega
  have hkm1 : 0 < m → (k - 1) * m + m ≤ I := fun h => by
    have : (k - 1) * m ≤ k * m := Nat.mul_le_mul_right m (by omega)
    have := hIm h
    omega
  have seen1 : ∀ (R X : Nat → Nat → Int), (IW.run kap st m p ck R X k).seen = true → (if k = 0 then 0 else m) = m := fun R X h => by
    rw [IW.run_seen] at h
    rw [if_neg (by simp at h; omega)]
  have step : ∀ (b : Nat) (R X : Nat → Nat → Int) (lv : Value) (w : World) (rbb ibb : Nat) (yr yi : Option Addr) (rc ic : Nat), H0 ≤ w.heap.size → b < H0 → (b = b1 ∨ b = b2) → (0 < I → rbb < H0 ∧ ibb < H0 ∧ rbb ∉ [b1, b2] ∧ ibb ∉ [b1, b2]) →
      RowR .u64 xp pb 0 K p w → RowR .i64 xc cb 0 K ck w → (∀ i, i < m → 0 ≤ R k i ∧ R k i < 256) → (∀ i, i < m → 0 ≤ X (k - 1) i ∧ X (k - 1) i < 4294967296) →
      Wat b H0 (IW.run kap st m p ck R X k) (if k = 0 then 0 else m) (X (k - 1)) lv w → RowR .u8 yr rbb (k * m) m (R k) w.drew → RowR .u32 yi ibb (k * m) m (X k) w.drew →
      Calls Try.prog 27 #[.pointer (some ⟨b, 0, none⟩), .int .u64 (p k), .int .i64 (ck k), .slice yr m rc, .slice yi m ic] w.drew fun e w' => e = .returned (.tuple #[]) ∧ (fun w' : World => w'.cell? ⟨pb, k, none⟩ = some (.int .u64 (p k)) ∧ w'.cell? ⟨cb, k, none⟩ = some (.int .i64 (ck k))) w' ∧
        ∃ lv', Kept (b :: lv.ownBlock.toList) w w' ∧ Wat b H0 (IW.run kap st m p ck R X (k + 1)) m (X k) lv' w' ∧ (lv'.ownBlock = lv.ownBlock ∨ ∃ g, lv'.ownBlock = some g ∧ w.heap.size ≤ g) := by
    intro b R X lv w rbb ibb yr yi rc ic hHw hbl hbb hpl2 hP hC hr8 hx32 A hR hX
    have kd : Kept [] w w.drew := (Kept.refl _ _).drew
    refine (step27 b H0 m rc ic rbb (k * m) ibb (k * m) yr yi (p k) (ck k) _ _ _ (R k) (X k) lv w.drew lm (A.keep kd (by simp) (by simp)) (seen1 R X) hbl (fun h => ?_) hHw hR hX (fun h => ?_) hr8 hx32 (by rw [IW.run_st]; exact t0) (by rw [IW.run_st]; exact t1) (IW.run_viol _ _ _ _ _ _ _ _).1 (by have := (IW.run_viol kap st m p ck R X k).2; omega)).mono ?_
    · have := hpl2 (hIm h).2; exact ⟨this.1, this.2.1⟩
    · have := hpl2 (hIm h).2
      simp only [List.mem_cons, List.not_mem_nil, or_false, not_or] at this
      rcases hbb with rfl | rfl
      · exact ⟨this.2.2.1.1, this.2.2.2.1⟩
      · exact ⟨this.2.2.1.2, this.2.2.2.2⟩
    rintro e w' ⟨he, lv', k1, A', hw⟩
    have k2 : Kept (b :: lv.ownBlock.toList) w w' := (Kept.refl _ _).drew.trans k1
    have own : ∀ x, x < H0 → x ∉ [b1, b2] → x ∉ b :: lv.ownBlock.toList := fun x hx hn hm => by
      simp only [List.mem_cons, List.not_mem_nil, or_false, not_or] at hn
      rcases List.mem_cons.1 hm with e | e
      · rcases hbb with rfl | rfl
        · exact hn.1 e
        · exact hn.2 e
      · have := A.g x (by simpa using e)
        omega
    have c1 := (hP.keep k2 (fun _ => own pb l1 (by simpa using l3))).cell k hk
    have c2 := (hC.keep k2 (fun _ => own cb l2 (by simpa using l4))).cell k hk
    rw [Nat.zero_add] at c1 c2
    exact ⟨he, ⟨c1, c2⟩, lv', k2, A', hw⟩
  have own1 : ∀ x, x < H0 → x ∉ [b1, b2] → x ∉ b1 :: lv1.ownBlock.toList := fun x hx hn hm => by
    simp only [List.mem_cons, List.not_mem_nil, or_false, not_or] at hn
    rcases List.mem_cons.1 hm with e | e
    · exact hn.1 e
    · have := A1.g x (by simpa using e)
      omega
  refine wp_nav rfl (l7_28 _ _ _ _ _ _ _ _ _ _ _ _ _ pb cb rb ib k p ck fr fi _ _ _ _ hfr hs hP hC hR hX hk lK hI lI (fun yr yi rc ic hyr hyi => step b1 (fun k i => fr (k * m + i)) (fun k i => fi (k * m + i)) lv1 w rb ib yr yi rc ic hHw hlt.1 (.inl rfl) (fun h => ⟨(hpl2 h).1, (hpl2 h).2.1, (hpl2 h).2.2.1, (hpl2 h).2.2.2.1⟩) hP hC (fun i hi => r8 _ (by have := hIm (by omega); omega)) (fun i hi => x32 _ (by have := hkm1 (by omega); omega)) A1 hyr hyi) fun a1 w1 hG fr1 s1 => ?_)
  obtain ⟨lv1', k1, A1', hw1⟩ := hG
  have hb2 : b2 ∉ b1 :: lv1.ownBlock.toList := fun hm => by
    rcases List.mem_cons.1 hm with e | e
    · exact hb e.symm
    · have := A1.g b2 (by simpa using e); omega
  have P1 := hP.keep k1 (fun _ => own1 pb l1 (by simpa using l3))
  have C1 := hC.keep k1 (fun _ => own1 cb l2 (by simpa using l4))
  have R1 := hR.keep k1 (fun h => own1 rb (hpl2 h).1 (hpl2 h).2.2.1)
  have X1 := hX.keep k1 (fun h => own1 ib (hpl2 h).2.1 (hpl2 h).2.2.2.1)
  have Q1 := h1.keep k1 (fun h => own1 q1 (hpl2 h).2.2.2.2.1 (hpl2 h).2.2.2.2.2.2.1)
  have Q2 := h2.keep k1 (fun h => own1 q2 (hpl2 h).2.2.2.2.2.1 (hpl2 h).2.2.2.2.2.2.2)
  have A21 := A2.keep k1 hb2 (fun g hg hm => by
    rcases List.mem_cons.1 hm with e | e
    · have := A2.g g hg; omega
    · exact hdis g (by simpa using e) hg)
  have hs1 := k1.size
  refine l7_29 _ _ _ _ _ _ _ _ _ _ _ _ _ pb cb rb ib k p ck fr fi (fun j => fr (rev m j)) (fun j => fi (rev m j)) _ _ _ _ fr1 s1 P1 C1 R1 X1 Q1 Q2 hk lK hI lI (fun yr yi rc ic hyr hyi => step b2 (fun k i => fr (k * m + (m - 1 - i))) (fun k i => fi (k * m + (m - 1 - i))) lv2 w1 q1 q2 yr yi rc ic (by omega) hlt.2 (.inr rfl) (fun h => ⟨(hpl2 h).2.2.2.2.1, (hpl2 h).2.2.2.2.2.1, (hpl2 h).2.2.2.2.2.2.1, (hpl2 h).2.2.2.2.2.2.2⟩) P1 C1 (fun i hi => r8 _ (by have := hIm (by omega); omega)) (fun i hi => x32 _ (by have := hkm1 (by omega); omega)) A21 (hyr.congr fun i hi => by rw [rev_at hi]) (hyi.congr fun i hi => by rw [rev_at hi])) fun a2 w2 hG fr2 s2 => ?_
  obtain ⟨lv2', k2, A2', hw2⟩ := hG
  have kA : Kept [b1, b2] w0 w1 := kp.then k1 (fun x hx => by
    rcases List.mem_cons.1 hx with e | e
    · subst e; exact .inl (by simp)
    · have := A1.g x (by simpa using e); exact .inr (by omega))
  have kB : Kept [b1, b2] w0 w2 := kA.then k2 (fun x hx => by
    rcases List.mem_cons.1 hx with e | e
    · subst e; exact .inl (by simp)
    · have := A2.g x (by simpa using e); exact .inr (by omega))
  have hd1 : ∀ g, lv1'.ownBlock = some g → lv2.ownBlock ≠ some g := fun g hg => by
    rcases hw1 with h | ⟨g', h, hl⟩
    · exact hdis g (by rw [← hg, h])
    · intro h2
      have := A2.L.lt g h2
      rw [h] at hg; cases hg; omega
  have A1'' := A1'.keep k2 (fun hm => by
    rcases List.mem_cons.1 hm with e | e
    · exact hb e
    · have := A2.g b1 (by simpa using e); omega) (fun g hg hm => by
    rcases List.mem_cons.1 hm with e | e
    · have := A1'.g g hg; omega
    · exact hd1 g hg (by simpa using e))
  refine hQ a2 w2 kB ⟨lv1', lv2', by simpa using A1'', by simpa using A2', fun g hg => ?_⟩ fr2 s2
  rcases hw2 with h | ⟨g', h, hl⟩
  · rw [h]; exact hd1 g hg
  · rw [h]; intro e; cases e
    have := A1'.L.lt g hg
    omega

theorem l7_loop (kap st : Int) (m K I : Nat) (xp xc xr xi : Option Addr) (q1 q2 b1 b2 : Nat) (H0 pb cb rb ib : Nat) (p ck fr fi : Nat → Int) (a : Act) (w : World) (Q : Exit → Act → World → Prop) (hfr : Fr 282 a) (hs : Slots [(0, .int .i64 kap), (1, .int .u32 st), (2, .int .i64 (m : Nat)), (3, .slice xp K K), (4, .slice xc K K), (5, .slice xr I I), (6, .slice xi I I), (15, .slice (some ⟨q1, 0, none⟩) I I), (16, .slice (some ⟨q2, 0, none⟩) I I), (19, .pointer (some ⟨b1, 0, none⟩)), (20, .pointer (some ⟨b2, 0, none⟩)), (21, .int .i64 (0 : Nat))] a)
    (hP : RowR .u64 xp pb 0 K p w) (hC : RowR .i64 xc cb 0 K ck w) (hR : RowR .u8 xr rb 0 I fr w) (hX : RowR .u32 xi ib 0 I fi w) (h1 : RowR .u8 (some ⟨q1, 0, none⟩) q1 0 I (fun j => fr (rev m j)) w) (h2 : RowR .u32 (some ⟨q2, 0, none⟩) q2 0 I (fun j => fi (rev m j)) w) (r8 : ∀ i, i < I → 0 ≤ fr i ∧ fr i < 256) (x32 : ∀ i, i < I → 0 ≤ fi i ∧ fi i < 4294967296) (t0 : 0 < st) (t1 : st < 4294967296)
    (hb : b1 ≠ b2) (hlt2 : b1 < H0 ∧ b2 < H0) (hpl : 0 < K → pb < H0 ∧ cb < H0 ∧ pb ∉ [b1, b2] ∧ cb ∉ [b1, b2]) (hpl2 : 0 < I → rb < H0 ∧ ib < H0 ∧ rb ∉ [b1, b2] ∧ ib ∉ [b1, b2] ∧ q1 < H0 ∧ q2 < H0 ∧ q1 ∉ [b1, b2] ∧ q2 ∉ [b1, b2])
    (lK : (K : Int) ≤ 65536) (hI : I = m * K) (lI : (I : Int) ≤ 1048576) (lm : (m : Int) ≤ 65536) (hH0 : w.heap.size = H0) (hW : ∃ lv1 lv2, Wat b1 H0 (IW.run kap st m p ck (fun k i => fr (k * m + i)) (fun k i => fi (k * m + i)) 0) (if 0 = 0 then 0 else m) (fun i => fi ((0 - 1) * m + i)) lv1 w ∧ Wat b2 H0 (IW.run kap st m p ck (fun k i => fr (k * m + (m - 1 - i))) (fun k i => fi (k * m + (m - 1 - i))) 0) (if 0 = 0 then 0 else m) (fun i => fi ((0 - 1) * m + (m - 1 - i))) lv2 w ∧ (∀ g, lv1.ownBlock = some g → lv2.ownBlock ≠ some g))
    (hexit : ∀ a' w', Kept [b1, b2] w w' → (∃ lv1 lv2, Wat b1 H0 (IW.run kap st m p ck (fun k i => fr (k * m + i)) (fun k i => fi (k * m + i)) K) (if K = 0 then 0 else m) (fun i => fi ((K - 1) * m + i)) lv1 w' ∧ Wat b2 H0 (IW.run kap st m p ck (fun k i => fr (k * m + (m - 1 - i))) (fun k i => fi (k * m + (m - 1 - i))) K) (if K = 0 then 0 else m) (fun i => fi ((K - 1) * m + (m - 1 - i))) lv2 w' ∧ (∀ g, lv1.ownBlock = some g → lv2.ownBlock ≠ some g)) → Fr 282 a' → Slots [(0, .int .i64 kap), (1, .int .u32 st), (2, .int .i64 (m : Nat)), (3, .slice xp K K), (4, .slice xc K K), (5, .slice xr I I), (6, .slice xi I I), (15, .slice (some ⟨q1, 0, none⟩) I I), (16, .slice (some ⟨q2, 0, none⟩) I I), (19, .pointer (some ⟨b1, 0, none⟩)), (20, .pointer (some ⟨b2, 0, none⟩))] a' → Q (.exit 4) a' w') :
    Code.wp Try.prog (inC (tlC (nthC 14 (bodyC Try.f7)))) Q a w := by
  refine wp_navL rfl (wp_loop (fun a' w' => ∃ k : Nat, k ≤ K ∧ Kept [b1, b2] w w' ∧ (∃ lv1 lv2, Wat b1 H0 (IW.run kap st m p ck (fun k i => fr (k * m + i)) (fun k i => fi (k * m + i)) k) (if k = 0 then 0 else m) (fun i => fi ((k - 1) * m + i)) lv1 w' ∧ Wat b2 H0 (IW.run kap st m p ck (fun k i => fr (k * m + (m - 1 - i))) (fun k i => fi (k * m + (m - 1 - i))) k) (if k = 0 then 0 else m) (fun i => fi ((k - 1) * m + (m - 1 - i))) lv2 w' ∧ (∀ g, lv1.ownBlock = some g → lv2.ownBlock ≠ some g)) ∧ Fr 282 a' ∧ Slots [(0, .int .i64 kap), (1, .int .u32 st), (2, .int .i64 (m : Nat)), (3, .slice xp K K), (4, .slice xc K K), (5, .slice xr I I), (6, .slice xi I I), (15, .slice (some ⟨q1, 0, none⟩) I I), (16, .slice (some ⟨q2, 0, none⟩) I I), (19, .pointer (some ⟨b1, 0, none⟩)), (20, .pointer (some ⟨b2, 0, none⟩)), (21, .int .i64 (k : Nat))] a') (fun a' _ => K - (intOf (sl a' 21)).toNat) ⟨0, Nat.zero_le _, Kept.refl _ _, hW, hfr, hs⟩ ?_)
  rintro a1 w1 ⟨k, hk, kp, hW1, fr1, s1⟩
  have mu : (intOf (sl a1 21)).toNat = k := by
    have : sl a1 21 = .int .i64 (k : Nat) := s1.2.2.2.2.2.2.2.2.2.2.2.1
    rw [this]; simp only [intOf]; omega
  have hIK : 0 < I → 0 < K := fun h => by
    rcases Nat.eq_zero_or_pos K with e | e
    · subst e; simp at hI; omega
    · exact e
  refine wp_nav rfl (l7_14h _ _ _ _ _ _ _ _ _ _ _ _ _ k a1 w1 _ fr1 s1 hk lK (fun a2 hlt fr2 s2 => ?_) (fun a2 hke fr2 s2 => by subst hke; exact hexit a2 w1 kp hW1 fr2 s2))
  refine wp_nav rfl (wp_navB (id := 5) rfl ?_)
  refine l7_round _ _ _ _ _ _ _ _ _ _ _ _ _ H0 pb cb rb ib k p ck fr fi a2 w w1 _ fr2 s2 (hP.keep kp (fun h => (hpl h).2.2.1)) (hC.keep kp (fun h => (hpl h).2.2.2)) (hR.keep kp (fun h => (hpl2 h).2.2.1)) (hX.keep kp (fun h => (hpl2 h).2.2.2.1)) (h1.keep kp (fun h => (hpl2 h).2.2.2.2.2.2.1)) (h2.keep kp (fun h => (hpl2 h).2.2.2.2.2.2.2)) r8 x32 t0 t1 hb hlt2 hpl hpl2 hlt lK hI lI lm (by omega) kp hH0 hW1 (fun a3 w3 kp3 hW3 fr3 s3 => ?_)
  refine l7_14n _ _ _ _ _ _ _ _ _ _ _ _ _ k a3 w3 _ fr3 s3 (by omega) (fun a4 fr4 s4 => ?_)
  refine ⟨⟨k + 1, by omega, kp3, hW3, fr4, s4⟩, ?_⟩
  have mu2 : (intOf (sl a4 21)).toNat = k + 1 := by
    have : sl a4 21 = .int .i64 (k + 1 : Nat) := s4.2.2.2.2.2.2.2.2.2.2.2.1
    rw [this]; simp only [intOf]; omega
  rw [mu, mu2]; omega

end Go.Proofs.Qxb6602526a
