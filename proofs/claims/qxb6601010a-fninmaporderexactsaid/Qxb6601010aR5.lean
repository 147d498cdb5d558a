import Derived.Test.Qxb6601010aR4
import Derived.Test.Qxb6601010aP3
namespace Go.Proofs.Qxb6601010a
open Go.RowKit
set_option linter.unusedSimpArgs false
set_option linter.unusedVariables false

def OPost (nm : Nat → ByteArray) (n : Nat) (E : Nat → Hd) (w : World) (e : Ending) (w' : World) : Prop := ∃ rb K c r, e = .returned (.slice (some ⟨rb, 0, none⟩) K c) ∧ Kept [] w w' ∧ HB w' rb K E r ∧ Res nm n K r

theorem lay_list {α : Type} (l : List α) (k : Nat) (a b : α) (h : k + 2 ≤ l.length) (c : Nat) : (l.take k ++ [a, b] ++ l.drop (k + 2))[c]? = if c < k then l[c]? else if c = k then some a else if c = k + 1 then some b else l[c]? := by
  have h1 : (l.take k).length = k := by simp; omega
  by_cases c1 : c < k
  · rw [if_pos c1, List.append_assoc, List.getElem?_append_left (by omega), List.getElem?_take, if_pos c1]
  · rw [if_neg c1, List.append_assoc, List.getElem?_append_right (by omega), h1]
    by_cases c2 : c = k
    · rw [if_pos c2, c2, Nat.sub_self]; rfl
    · rw [if_neg c2]
      by_cases c3 : c = k + 1
      · rw [if_pos c3, c3, show k + 1 - k = 1 by omega]; rfl
      · rw [if_neg c3, List.getElem?_append_right (by simp; omega), List.getElem?_drop]
        congr 1
        simp; omega

/-- The cells of the row while the last ones are laid to its head. -/
structure Row2 (w : World) (g n k K : Nat) (E : Nat → Hd) (t th : Nat → Nat) (cur : Array Value) : Prop where
  B : IsB w g cur 39
  sz : n * 2 ≤ cur.size
  lo : ∀ j, j < K → cur[j * 2]? = some (.string (E (t (th j))).nm) ∧ cur[j * 2 + 1]? = some (E (t (th j))).val
  hi : ∀ j, k ≤ j → j < n → cur[j * 2]? = some (.string (E (t j)).nm) ∧ cur[j * 2 + 1]? = some (E (t j)).val
theorem Row2.keep {w w' : World} {g n k K : Nat} {E : Nat → Hd} {t th : Nat → Nat} {cur : Array Value} {X : List Nat} (h : Row2 w g n k K E t th cur) (hk : Kept X w w') (hX : g ∉ X) : Row2 w' g n k K E t th cur := ⟨hk.isB h.B hX, h.sz, h.lo, h.hi⟩

theorem app_row {w : World} {g n k K cap : Nat} {E : Nat → Hd} {t th : Nat → Nat} {cur : Array Value} (h : Row2 w g n k K E t th cur) (hK : K ≤ k) (hk : k < n) (hc : n ≤ cap) (hg : g < w.heap.size) :
    ∃ w1 cur', (Builtin.append_ #[34, 34] 0 #[.slice (some ⟨g, 0, none⟩) K cap, .slice (some ⟨w.heap.size, 0, none⟩) 1 1]).run Try.prog (w.alloc (.cells #[.string (E (t k)).nm, .slice (some ⟨(E (t k)).vb, 0, none⟩) 2 2] 39)) = .ok (.slice (some ⟨g, 0, none⟩) (K + 1) cap) w1 ∧
      Kept [g] w w1 ∧ Row2 w1 g n (k + 1) (K + 1) E t (fun j => if j = K then k else th j) cur' := by
  have hBa := h.B.alloc (.cells #[.string (E (t k)).nm, .slice (some ⟨(E (t k)).vb, 0, none⟩) 2 2] 39)
  have kA : Kept [g] w (w.alloc (.cells #[.string (E (t k)).nm, .slice (some ⟨(E (t k)).vb, 0, none⟩) 2 2] 39)) := (Kept.refl _ _).alloc _
  have nA := IsB.new w #[.string (E (t k)).nm, .slice (some ⟨(E (t k)).vb, 0, none⟩) 2 2] 39
  generalize w.alloc (.cells #[.string (E (t k)).nm, .slice (some ⟨(E (t k)).vb, 0, none⟩) 2 2] 39) = wa at *
  obtain ⟨i, hi, hz, hs, hb⟩ := info39
  have sz := h.sz
  have hr := run_append_room (P := Try.prog) wa 34 0 39 i Try.underlying34 hi g K cap cur hBa ⟨w.heap.size, 0, none⟩ 1 1 [.string (E (t k)).nm, .slice (some ⟨(E (t k)).vb, 0, none⟩) 2 2] (by simp [hs])
    (fun j u hj => by
      rw [Addr.add_lit, Nat.zero_add, nA.cell]
      match j, hj with
      | 0, hj => simpa using hj
      | 1, hj => simpa using hj
      | j + 2, hj => simp at hj)
    (fun u hu => by
      simp only [List.mem_cons, List.not_mem_nil, or_false] at hu
      rcases hu with rfl | rfl <;> rfl)
    (by omega) (by simp [hs]; omega)
  rw [hs] at hr
  refine ⟨_, _, hr, kA.row g _ (.inl (by simp)), hBa.row _, ?_, fun j hj => ?_, fun j j1 j2 => ?_⟩
  · simp; omega
  · have at_ := fun c => lay_list cur.toList (K * 2) (Value.string (E (t k)).nm) (.slice (some ⟨(E (t k)).vb, 0, none⟩) 2 2) (by simp; omega) c
    simp only [List.getElem?_toArray, List.length_cons, List.length_nil]
    by_cases e : j = K
    · rw [show (if j = K then k else th j) = k from if_pos e, e]
      constructor
      · rw [at_, if_neg (by omega), if_pos rfl]
      · rw [at_, if_neg (by omega), if_neg (by omega), if_pos rfl]; rfl
    · rw [show (if j = K then k else th j) = th j from if_neg e]
      have := h.lo j (by omega)
      constructor
      · rw [at_, if_pos (by omega)]; simpa using this.1
      · rw [at_, if_pos (by omega)]; simpa using this.2
  · have at_ := fun c => lay_list cur.toList (K * 2) (Value.string (E (t k)).nm) (.slice (some ⟨(E (t k)).vb, 0, none⟩) 2 2) (by simp; omega) c
    simp only [List.getElem?_toArray, List.length_cons, List.length_nil]
    rw [at_, at_, if_neg (by omega), if_neg (by omega), if_neg (by omega), if_neg (by omega), if_neg (by omega), if_neg (by omega)]
    have := h.hi j (by omega) j2
    simpa using this

theorem ord_round (g n cap k K : Nat) (nm : Nat → ByteArray) (E : Nat → Hd) (hE : ∀ i, (E i).nm = nm i) (t th : Nat → Nat) (cur : Array Value) (a : Act) (w0 w : World) (Q : Exit → Act → World → Prop) (hfr : Fr 67 a) (hs : Slots [(5, .slice (some ⟨g, 0, none⟩) n cap), (6, .slice (some ⟨g, 0, none⟩) K cap), (38, .slice (some ⟨g, 0, none⟩) n cap), (39, .int .i64 (n : Nat)), (40, .int .i64 (k : Nat))] a)
    (k0 : Kept [] w0 w) (hg0 : w0.heap.size ≤ g) (hR : Row2 w g n k K E t th cur) (hK : Keep nm t n k K th) (hk : k < n) (hc : n ≤ cap) (ln : n ≤ 4096)
    (hQ : ∀ a' w' K' th' cur', Kept [] w0 w' → Row2 w' g n (k + 1) K' E t th' cur' → Keep nm t n (k + 1) K' th' → Fr 67 a' → Slots [(5, .slice (some ⟨g, 0, none⟩) n cap), (6, .slice (some ⟨g, 0, none⟩) K' cap), (38, .slice (some ⟨g, 0, none⟩) n cap), (39, .int .i64 (n : Nat)), (40, .int .i64 (k : Nat))] a' → Q .normal a' w') :
    Code.wp Try.prog (nthC 2 (inC (inC (tlC (nthC 7 (bodyC Try.f23)))))) Q a w := by
  refine wp_navB (id := 3) rfl ?_
  have hgl := hR.B.lt
  have hki := hR.hi k (Nat.le_refl _) hk
  refine wp_nav rfl (j13 _ _ _ _ k (E (t k)) _ _ _ hfr hs (by omega) ((hR.B.cell _).trans hki.1) ((hR.B.cell _).trans hki.2) hgl fun a1 f1 s1 => ?_)
  have kA : Kept [] w (w.alloc (.cells #[.string (E (t k)).nm, .slice (some ⟨(E (t k)).vb, 0, none⟩) 2 2] 39)) := (Kept.refl _ _).alloc _
  have nA := IsB.new w #[.string (E (t k)).nm, .slice (some ⟨(E (t k)).vb, 0, none⟩) 2 2] 39
  generalize w.alloc (.cells #[.string (E (t k)).nm, .slice (some ⟨(E (t k)).vb, 0, none⟩) 2 2] 39) = w1 at *
  have hR1 := hR.keep kA (by simp)
  have fin : ∀ (a2 : Act) (r : Nat) (b : Bool), Fr 67 a2 → Slots [(5, .slice (some ⟨g, 0, none⟩) n cap), (6, .slice (some ⟨g, 0, none⟩) K cap), (38, .slice (some ⟨g, 0, none⟩) n cap), (39, .int .i64 (n : Nat)), (40, .int .i64 (k : Nat)), (7, .int .i64 (k : Nat)), (8, .pointer (some ⟨w.heap.size, 0, none⟩)), (60, .bool b)] a2 → (b = true ↔ lastAt nm t n k) → Code.wp Try.prog (dropC 2 (inC (nthC 2 (inC (inC (tlC (nthC 7 (bodyC Try.f23)))))))) (Exit.inBlock 3 Q) a2 (w1.drewN r) := by
    intro a2 r b f2 s2 hb
    have kR : Kept [] w1 (w1.drewN r) := (Kept.refl _ _).drewN r
    have hR2 := hR1.keep kR (by simp)
    have n2 := kR.isB nA (by simp)
    have k02 := (k0.trans kA).trans kR
    refine wp_navI (j := 60) rfl s2.2.2.2.2.2.2.2.1 (fun ht => ?_) (fun ht => ?_)
    · obtain ⟨w5, cur', hrun, k5, hR5⟩ := app_row hR2 hK.le hk hc hR2.B.lt
      refine j15 _ _ _ _ k w.heap.size (E (t k)) w5 _ _ _ f2 ⟨s2.1, s2.2.1, s2.2.2.1, s2.2.2.2.1, s2.2.2.2.2.1, s2.2.2.2.2.2.1, s2.2.2.2.2.2.2.1, trivial⟩ (n2.cell 0) (n2.cell 1) hrun fun a3 f3 s3 => ?_
      simp only [Exit.inBlock]
      exact hQ a3 w5 (K + 1) _ cur' (k02.then k5 (by simp; omega)) hR5 (hK.add (hb.1 ht)) f3 s3
    · refine wp_skip' rfl ?_
      simp only [Exit.inBlock]
      exact hQ a2 _ K th cur k02 ⟨hR2.B, hR2.sz, hR2.lo, fun j j1 j2 => hR2.hi j (by omega) j2⟩ (hK.skip fun hl => by rw [hb.2 hl] at ht; cases ht) f2 ⟨s2.1, s2.2.1, s2.2.2.1, s2.2.2.2.1, s2.2.2.2.2.1, trivial⟩
  by_cases e : k + 1 = n
  · refine wp_nav rfl (j14z _ _ _ _ k w.heap.size _ _ _ f1 s1 (by rw [IntKind.wrap_i64]; omega) fun a2 r f2 s2 => ?_)
    exact fin a2 r true f2 s2 ⟨fun _ => .inl e, fun _ => rfl⟩
  · have h2 := hR1.hi (k + 1) (by omega) (by omega)
    refine wp_nav rfl (j14 _ _ _ _ k w.heap.size (k + 1) (E (t (k + 1))).nm (E (t k)).nm _ _ _ f1 s1 (by rw [IntKind.wrap_i64]; omega) (by omega) ((hR1.B.cell _).trans h2.1) (nA.cell 0) fun a2 r f2 s2 => ?_)
    refine fin a2 r _ f2 s2 ⟨fun hb => .inr fun he => ?_, fun hl => ?_⟩
    · rw [hE, hE, he] at hb; simp at hb
    · rcases hl with hl | hl
      · exact absurd hl e
      · rw [hE, hE]
        simp only [Bool.not_eq_true', beq_eq_false_iff_ne]
        exact fun he => hl (name_eq he)

theorem order23 (hb n : Nat) (nm : Nat → ByteArray) (E : Nat → Hd) (hE : ∀ i, (E i).nm = nm i) (w : World) (hH : HB w hb n E (fun j => j)) (ln : n ≤ 4096) : Calls Try.prog 23 #[.slice (some ⟨hb, 0, none⟩) n n] w (OPost nm n E w) := by
  refine calls_nav 67 Try.func23 rfl rfl (by simp) fun a fr0 ha => ?_
  have s0 : Slots [(0, .slice (some ⟨hb, 0, none⟩) n n)] a := ⟨ha 0 (by simp), trivial⟩
  refine wp_nav rfl (j0 _ _ _ _ _ fr0 s0 fun a1 f1 s1 => ?_)
  refine wp_nav rfl (j1 _ _ _ _ _ f1 s1 fun a2 f2 s2 => ?_)
  refine wp_nav rfl (wp_nav rfl (j2i _ _ _ _ _ _ f2 s2 fun a3 f3 s3 => ?_))
  refine wp_navB (id := 0) rfl ?_
  refine wp_navL rfl (wp_loop (fun a' w' => (∃ q, w' = w.drewN q) ∧ ∃ (i : Nat) (od : Bool), 1 ≤ i ∧ (od = true → ∀ j, j + 1 < i → j + 1 < n → nl (nm j) (nm (j + 1)) = true) ∧ (od = false → 0 < n) ∧ Fr 67 a' ∧ Slots [(0, .slice (some ⟨hb, 0, none⟩) n n), (3, .bool od), (4, .int .i64 (i : Nat))] a') (fun a' _ => n - (intOf (sl a' 4)).toNat) ⟨⟨0, rfl⟩, 1, true, Nat.le_refl _, fun _ j hj => by omega, (fun e => by cases e), f3, s3⟩ ?_)
  rintro a4 w4 ⟨⟨q, rfl⟩, i, od, i1, hod, hn0, f4, s4⟩
  have mu : (intOf (sl a4 4)).toNat = i := by
    have : sl a4 4 = .int .i64 (i : Nat) := s4.2.2.1
    rw [this]; simp only [intOf]; omega
  have kq : Kept [] w (w.drewN q) := (Kept.refl _ _).drewN q
  have hHq := hH.keep kq (by simp)
  refine wp_nav rfl (jh _ _ od i _ _ _ f4 s4 (fun a5 hlt ho f5 s5 => ?_) (fun a5 hke f5 s5 => ?_))
  · refine wp_nav rfl (wp_navB (id := 1) rfl ?_)
    refine j5 _ _ od i (i - 1) (E (i - 1)).nm (E i).nm _ _ _ f5 s5 (by rw [IntKind.wrap_i64]; omega) (by omega) (by omega) (hHq.c0 (by omega)) (hHq.c0 (by omega)) fun a6 q2 f6 s6 => ?_
    refine j4 _ _ _ i _ _ _ f6 s6 (by omega) fun a7 f7 s7 => ?_
    refine ⟨⟨⟨q + q2, by simp [World.drewN, Nat.add_assoc]⟩, i + 1, _, by omega, fun hn j j1 j2 => ?_, fun _ => by omega, f7, s7⟩, ?_⟩
    · by_cases e : j + 1 = i
      · rw [hE, hE] at hn
        rw [show j = i - 1 by omega, show i - 1 + 1 = i by omega]; exact hn
      · exact hod ho j (by omega) j2
    have mu2 : (intOf (sl a7 4)).toNat = i + 1 := by
      have : sl a7 4 = .int .i64 (i + 1 : Nat) := s7.2.2.1
      rw [this]; simp only [intOf]; omega
    rw [mu, mu2]; omega
  · simp only [Exit.inBlock, Exit.then, if_true]
    refine wp_nav rfl (wp_nav rfl (j6 _ _ od _ _ _ f5 s5 fun a6 f6 s6 => ?_))
    have s6' : Slots [(0, .slice (some ⟨hb, 0, none⟩) n n)] a6 := ⟨s6.1, trivial⟩
    refine wp_navI (j := 30) rfl s6.2.1 (fun ht => ?_) (fun ht => ?_)
    · refine j7 _ _ _ _ _ f6 s6' fun a7 f7 t7 => ?_
      simp only [Exit.then]
      refine bodyPost_ret (results_tmp rfl _ _ _) f7.defers ⟨hb, n, n, fun j => j, ?_, kq, hHq, Res.ordered fun j hj => hod ht j ?_ hj⟩
      · rw [show a7.tmps.getD 2 undef = _ from t7]
      · have : ¬ i < n := fun h => hke ⟨h, ht⟩
        omega
    · refine wp_skip' rfl ?_
      simp only [Exit.then]
      have h0 := hn0 ht
      refine wp_nav rfl (j8 _ _ _ _ _ _ f6 s6' (clone25 hb n n E (fun j => j) (w.drewN q) hHq h0 ln) fun a7 g cap w7 hG f7 s7 => ?_)
      obtain ⟨g1, g2, g3, k7, hH7, -⟩ := hG
      refine wp_nav rfl (j9 _ _ _ _ _ _ _ f7 s7 (sort26 g n cap E (weakLE E) ln w7 hH7) fun a8 w8 hG f8 s8 => ?_)
      obtain ⟨k8, t, hH8, hBlk⟩ := hG
      have hBt := hBlk h0
      have gz : w.heap.size ≤ g := by have := kq.size; omega
      have k08 : Kept [] w w8 := (kq.trans k7).anew k8 (by simpa using gz)
      refine wp_nav rfl (j10 _ _ _ _ _ _ f8 s8 (by omega) fun a9 f9 s9 => ?_)
      refine wp_nav rfl (wp_nav rfl (j11 _ _ _ _ _ _ _ f9 s9 fun a10 f10 s10 => ?_))
      refine wp_navB (id := 2) rfl ?_
      obtain ⟨cur, hB8, hc8⟩ := hH8
      have szc : n * 2 ≤ cur.size := by
        have := (hc8 (n - 1) (by omega)).2
        rcases Nat.lt_or_ge ((n - 1) * 2 + 1) cur.size with q | q
        · omega
        · rw [Array.getElem?_eq_none q] at this; cases this
      refine wp_navL rfl (wp_loop (fun a' w' => ∃ (k K : Nat) (th : Nat → Nat) (cur : Array Value), k ≤ n ∧ Kept [] w w' ∧ Row2 w' g n k K E t th cur ∧ Keep nm t n k K th ∧ Fr 67 a' ∧ Slots [(5, .slice (some ⟨g, 0, none⟩) n cap), (6, .slice (some ⟨g, 0, none⟩) K cap), (38, .slice (some ⟨g, 0, none⟩) n cap), (39, .int .i64 (n : Nat)), (40, .int .i64 (k : Nat))] a') (fun a' _ => n - (intOf (sl a' 40)).toNat) ⟨0, 0, fun _ => 0, cur, Nat.zero_le _, k08, ⟨hB8, szc, fun j hj => by omega, fun j _ hj => hc8 j hj⟩, Keep.zero _ _ _, f10, s10⟩ ?_)
      rintro a11 w11 ⟨k, K, th, cu, hk, k11, hR, hK, f11, s11⟩
      have mu11 : (intOf (sl a11 40)).toNat = k := by
        have : sl a11 40 = .int .i64 (k : Nat) := s11.2.2.2.2.1
        rw [this]; simp only [intOf]; omega
      refine wp_nav rfl (j12 _ _ _ _ k _ _ _ f11 s11 fun a12 f12 s12 => ?_)
      have s12' : Slots [(5, .slice (some ⟨g, 0, none⟩) n cap), (6, .slice (some ⟨g, 0, none⟩) K cap), (38, .slice (some ⟨g, 0, none⟩) n cap), (39, .int .i64 (n : Nat)), (40, .int .i64 (k : Nat))] a12 := ⟨s12.1, s12.2.1, s12.2.2.1, s12.2.2.2.1, s12.2.2.2.2.1, trivial⟩
      refine wp_nav rfl (wp_navI (j := 41) rfl s12.2.2.2.2.2.1 (fun hl => ?_) (fun hl => ?_))
      · have hlt : k < n := by simpa using hl
        refine wp_skip' rfl ?_
        simp only [Exit.then]
        refine wp_nav rfl (ord_round g n cap k K nm E hE t th cu a12 w w11 _ f12 s12' k11 gz hR hK hlt g2 ln fun a13 w13 K' th' cu' k13 hR13 hK13 f13 s13 => ?_)
        refine j16 _ _ _ _ k _ _ _ f13 s13 (by omega) fun a14 f14 s14 => ?_
        refine ⟨⟨k + 1, K', th', cu', hlt, k13, hR13, hK13, f14, s14⟩, ?_⟩
        have mu14 : (intOf (sl a14 40)).toNat = k + 1 := by
          have : sl a14 40 = .int .i64 (k + 1 : Nat) := s14.2.2.2.2.1
          rw [this]; simp only [intOf]; omega
        rw [mu11, mu14]; omega
      · have hge : ¬ k < n := by simpa using hl
        obtain rfl : k = n := by omega
        have ex : Code.wp Try.prog (elC (nthC 1 (inC (inC (tlC (nthC 7 (bodyC Try.f23))))))) (fun e a' w' => e = .exit 2 ∧ a' = a12 ∧ w' = w11) a12 w11 := by
          show Code.wp Try.prog (Code.exit 2) _ _ _
          exact wp_exit ⟨rfl, rfl, rfl⟩
        refine wp_mono ex ?_
        rintro e a' w' ⟨rfl, ha1, hw1⟩
        rw [ha1, hw1]
        simp only [Exit.inBlock, Exit.then, if_true]
        refine j17 _ _ _ _ _ _ _ f12 ⟨s12.1, s12.2.1, trivial⟩ fun a13 f13 t13 => ?_
        refine bodyPost_ret (results_tmp rfl _ _ _) f13.defers ⟨g, K, cap, fun j => t (th j), ?_, k11, ⟨cu, hR.B, hR.lo⟩, Res.of_keep hE hBt hK⟩
        rw [show a13.tmps.getD 2 undef = _ from t13]

theorem zorder16 (hb n : Nat) (nm : Nat → ByteArray) (E : Nat → Hd) (hE : ∀ i, (E i).nm = nm i) (w : World) (hH : HB w hb n E (fun j => j)) (ln : n ≤ 4096) : Calls Try.prog 16 #[.slice (some ⟨hb, 0, none⟩) n n] w (OPost nm n E w) := by
  have HC : Hid _ := order23 hb n nm E hE w hH ln
  clear hH ln
  go_enter Try.func16, Try.ntmps16
  go_wp2_with (go_at_call 23; refine Calls.mono HC.out ?_; rintro e w' ⟨rb, K, c, r, rfl, hp⟩)
  go_ret
  exact ⟨rb, K, c, r, rfl, hp⟩

end Go.Proofs.Qxb6601010a
