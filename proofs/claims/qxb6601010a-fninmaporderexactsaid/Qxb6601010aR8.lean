import Derived.Test.Qxb6601010aR6
import Derived.Test.Qxb6601010aR7
namespace Go.Proofs.Qxb6601010a
open Go.RowKit
set_option linter.unusedSimpArgs false
set_option linter.unusedVariables false

/-- The row of truth values. -/
def LB (w : World) (lb n : Nat) (l : Nat → Bool) : Prop := IsB w lb (rowA (fun i => .bool (l i)) n) 4
theorem LB.at {w : World} {lb n : Nat} {l : Nat → Bool} (h : LB w lb n l) {i : Nat} (hi : i < n) : w.cell? ⟨lb, i, none⟩ = some (.bool (l i)) := (IsB.cell h i).trans (rowA_at _ _ _ hi)
theorem LB.put {w : World} {lb n : Nat} {l : Nat → Bool} (h : LB w lb n l) (i : Nat) (v : Bool) : LB (w.setCell ⟨lb, i, none⟩ (.bool v)) lb n (fun k => if k = i then v else l k) := by
  have := IsB.set h i (.bool v)
  rw [rowA_set] at this
  unfold LB
  rw [rowA_congr (fun k => .bool (if k = i then v else l k)) (fun k => if k = i then .bool v else .bool (l k)) n (fun k _ => by split <;> rfl)]
  exact this

/-- What lies in the world while the law compares. -/
structure Sit (x : Option Addr) (nb no n : Nat) (nm : Nat → ByteArray) (rb K : Nat) (r : Nat → Nat) (h0 lb : Nat) (w0 : World) (w : World) (l : Nat → Bool) : Prop where
  kept : Kept [] w0 w
  new : w0.heap.size ≤ lb
  row : RowS x nb no n nm w
  nbl : 0 < n → nb ≠ lb
  hb : HB w rb K (hdOf nm h0) r
  rbl : rb ≠ lb
  hv : HV w h0 n
  hvl : ∀ j, j < n → h0 + 1 + j ≠ lb
  ls : LB w lb n l
theorem Sit.keep {x : Option Addr} {nb no n : Nat} {nm : Nat → ByteArray} {rb K : Nat} {r : Nat → Nat} {h0 lb : Nat} {w0 : World} {w w' : World} {l : Nat → Bool} (h : Sit x nb no n nm rb K r h0 lb w0 w l) (k : Kept [] w w') : Sit x nb no n nm rb K r h0 lb w0 w' l :=
  ⟨h.kept.trans k, h.new, h.row.keep k (by simp), h.nbl, h.hb.keep k (by simp), h.rbl, fun j hj => k.isB (h.hv j hj) (by simp), h.hvl, k.isB h.ls (by simp)⟩
theorem Sit.put {x : Option Addr} {nb no n : Nat} {nm : Nat → ByteArray} {rb K : Nat} {r : Nat → Nat} {h0 lb : Nat} {w0 : World} {w : World} {l : Nat → Bool} (h : Sit x nb no n nm rb K r h0 lb w0 w l) (i : Nat) (v : Bool) : Sit x nb no n nm rb K r h0 lb w0 (w.setCell ⟨lb, i, none⟩ (.bool v)) (fun k => if k = i then v else l k) := by
  have k : Kept [lb] w (w.setCell ⟨lb, i, none⟩ (.bool v)) := (Kept.refl _ _).set _ (.inl (by simp))
  exact ⟨h.kept.set _ (.inr h.new), h.new, h.row.keep k (fun h0 => by simpa using h.nbl h0), h.nbl, h.hb.keep k (by simpa using h.rbl), h.rbl, fun j hj => k.isB (h.hv j hj) (by simpa using h.hvl j hj), h.hvl, h.ls.put i v⟩

theorem last_in {x : Option Addr} {nb no n : Nat} {nm : Nat → ByteArray} {rb K : Nat} {r : Nat → Nat} {h0 lb : Nat} {w0 : World} (c cn ct i : Nat) (a : Act) (w : World) (l : Nat → Bool) (Q : Exit → Act → World → Prop) (hfr : Fr 129 a) (hs : Slots [(0, .slice x n cn), (3, .slice (some ⟨rb, 0, none⟩) K c), (4, .int .i64 (n : Nat)), (5, .slice (some ⟨lb, 0, none⟩) n n), (6, .int .i64 (ct : Nat)), (7, .int .i64 (i : Nat))] a) (ln : n ≤ 4096) (hi : i < n)
    (hS : Sit x nb no n nm rb K r h0 lb w0 w l) (hl : ∀ k, k < i → l k = ls nm n k) (ht : l i = true)
    (hQ : ∀ a' w' l', Sit x nb no n nm rb K r h0 lb w0 w' l' → (∀ k, k < i + 1 → l' k = ls nm n k) → Fr 129 a' → Slots [(0, .slice x n cn), (3, .slice (some ⟨rb, 0, none⟩) K c), (4, .int .i64 (n : Nat)), (5, .slice (some ⟨lb, 0, none⟩) n n), (6, .int .i64 (ct : Nat)), (7, .int .i64 (i : Nat))] a' → Q .normal a' w') :
    Code.wp Try.prog (nthC 1 (inC (hdC (tlC (inC (inC (tlC (nthC 7 (bodyC Try.f5))))))))) Q a w := by
  refine wp_nav rfl (q13 _ _ _ _ _ _ _ _ i _ _ _ hfr hs (by omega) fun a1 f1 s1 => ?_)
  refine wp_navB (id := 2) rfl ?_
  refine wp_navL rfl (wp_loop (fun a' w' => ∃ j : Nat, i + 1 ≤ j ∧ Sit x nb no n nm rb K r h0 lb w0 w' l ∧ (∀ k, i < k → k < j → k < n → nm k ≠ nm i) ∧ Fr 129 a' ∧ Slots [(0, .slice x n cn), (3, .slice (some ⟨rb, 0, none⟩) K c), (4, .int .i64 (n : Nat)), (5, .slice (some ⟨lb, 0, none⟩) n n), (6, .int .i64 (ct : Nat)), (7, .int .i64 (i : Nat)), (8, .int .i64 (j : Nat))] a') (fun a' _ => n - (intOf (sl a' 8)).toNat) ⟨i + 1, Nat.le_refl _, hS, fun k h1 h2 => by omega, f1, s1⟩ ?_)
  rintro a2 w2 ⟨j, hj, hS2, hne, f2, s2⟩
  have mu : (intOf (sl a2 8)).toNat = j := by
    have : sl a2 8 = .int .i64 (j : Nat) := s2.2.2.2.2.2.2.1
    rw [this]; simp only [intOf]; omega
  refine wp_nav rfl (q14 _ _ _ _ _ _ _ _ i j _ _ _ f2 s2 (fun a3 hlt f3 s3 => ?_) (fun a3 hke f3 s3 => ?_))
  · refine wp_nav rfl (wp_navB (id := 3) rfl ?_)
    refine wp_nav rfl (q16 _ _ _ _ _ _ _ _ i j nb no (nm j) (nm i) _ _ _ f3 s3 (hS2.row.ptr (by omega)) (by omega) (by omega) (hS2.row.cell j hlt) (hS2.row.cell i hi) fun a4 q f4 s4 => ?_)
    have hS4 := hS2.keep ((Kept.refl _ _).drewN q)
    refine wp_navI (j := 49) rfl s4.2.2.2.2.2.2.2.1 (fun he => ?_) (fun he => ?_)
    · refine q17 _ _ _ _ _ _ _ _ i j _ _ _ f4 ⟨s4.1, s4.2.1, s4.2.2.1, s4.2.2.2.1, s4.2.2.2.2.1, s4.2.2.2.2.2.1, s4.2.2.2.2.2.2.1, trivial⟩ (by omega) _ (hS4.ls.at hi) (IsB.frozen hS4.ls i) fun a5 f5 s5 => ?_
      simp only [Exit.inBlock, Exit.then, reduceCtorEq, if_true, if_false, Nat.reduceEqDiff]
      refine hQ a5 _ _ (hS4.put i false) (fun k hk => ?_) f5 s5
      by_cases e : k = i
      · subst e
        rw [if_pos rfl]
        cases e : ls nm n k
        · rfl
        · exact absurd (name_eq (by simpa using he)) (ls_iff.1 e j (by omega) hlt)
      · rw [if_neg e]; exact hl k (by omega)
    · refine wp_skip' rfl ?_
      simp only [Exit.inBlock, Exit.then]
      refine q15 _ _ _ _ _ _ _ _ i j _ _ _ f4 ⟨s4.1, s4.2.1, s4.2.2.1, s4.2.2.2.1, s4.2.2.2.2.1, s4.2.2.2.2.2.1, s4.2.2.2.2.2.2.1, trivial⟩ (by omega) fun a5 f5 s5 => ?_
      refine ⟨⟨j + 1, by omega, hS4, fun k h1 h2 h3 => ?_, f5, s5⟩, ?_⟩
      · by_cases e : k = j
        · subst e; intro g
          rw [g] at he; simp at he
        · exact hne k h1 (by omega) h3
      have mu2 : (intOf (sl a5 8)).toNat = j + 1 := by
        have : sl a5 8 = .int .i64 (j + 1 : Nat) := s5.2.2.2.2.2.2.1
        rw [this]; simp only [intOf]; omega
      rw [mu, mu2]; omega
  · simp only [Exit.inBlock, Exit.then, if_true]
    refine hQ a3 w2 l hS2 (fun k hk => ?_) f3 s3
    by_cases e : k = i
    · subst e
      rw [ht]; exact (ls_iff.2 fun j h1 h2 => hne j h1 (by omega) h2).symm
    · exact hl k (by omega)

theorem last_round {x : Option Addr} {nb no n : Nat} {nm : Nat → ByteArray} {rb K : Nat} {r : Nat → Nat} {h0 lb : Nat} {w0 : World} (c cn i : Nat) (a : Act) (w : World) (l : Nat → Bool) (Q : Exit → Act → World → Prop) (hfr : Fr 129 a) (hs : Slots [(0, .slice x n cn), (3, .slice (some ⟨rb, 0, none⟩) K c), (4, .int .i64 (n : Nat)), (5, .slice (some ⟨lb, 0, none⟩) n n), (6, .int .i64 ((cnt (ls nm n) i) : Nat)), (7, .int .i64 (i : Nat))] a) (ln : n ≤ 4096) (hi : i < n)
    (hS : Sit x nb no n nm rb K r h0 lb w0 w l) (hl : ∀ k, k < i → l k = ls nm n k)
    (hQ : ∀ a' w' l', Sit x nb no n nm rb K r h0 lb w0 w' l' → (∀ k, k < i + 1 → l' k = ls nm n k) → Fr 129 a' → Slots [(0, .slice x n cn), (3, .slice (some ⟨rb, 0, none⟩) K c), (4, .int .i64 (n : Nat)), (5, .slice (some ⟨lb, 0, none⟩) n n), (6, .int .i64 (cnt (ls nm n) (i + 1) : Nat)), (7, .int .i64 (i : Nat))] a' → Q .normal a' w') :
    Code.wp Try.prog (hdC (tlC (inC (inC (tlC (nthC 7 (bodyC Try.f5))))))) Q a w := by
  refine wp_navB (id := 1) rfl ?_
  refine wp_nav rfl (q12 _ _ _ _ _ _ _ _ i _ _ _ hfr hs (by omega) _ (hS.ls.at hi) (IsB.frozen hS.ls i) fun a1 f1 s1 => ?_)
  refine wp_nav rfl (last_in c cn _ i a1 _ _ _ f1 s1 ln hi (hS.put i true) (fun k hk => by rw [if_neg (by omega)]; exact hl k hk) (by simp) fun a2 w2 l2 hS2 hl2 f2 s2 => ?_)
  refine wp_nav rfl (q18 _ _ _ _ _ _ _ _ i (l2 i) _ _ _ f2 s2 (by omega) (hS2.ls.at hi) fun a3 f3 s3 => ?_)
  have hc := cnt_le (ls nm n) i
  have hli := hl2 i (by omega)
  refine wp_navI (j := 56) rfl s3.2.2.2.2.2.2.1 (fun he => ?_) (fun he => ?_)
  · refine q19 _ _ _ _ _ _ _ _ i _ _ _ f3 ⟨s3.1, s3.2.1, s3.2.2.1, s3.2.2.2.1, s3.2.2.2.2.1, s3.2.2.2.2.2.1, trivial⟩ (by omega) fun a4 f4 s4 => ?_
    simp only [Exit.inBlock, Exit.then]
    have e1 : cnt (ls nm n) i + 1 = cnt (ls nm n) (i + 1) := by rw [cnt, ← hli, he]; simp
    rw [e1] at s4
    exact hQ a4 w2 l2 hS2 hl2 f4 s4
  · refine wp_skip' rfl ?_
    simp only [Exit.inBlock, Exit.then]
    have e1 : cnt (ls nm n) i = cnt (ls nm n) (i + 1) := by rw [cnt, ← hli, he]; simp
    have s3' : Slots [(0, .slice x n cn), (3, .slice (some ⟨rb, 0, none⟩) K c), (4, .int .i64 (n : Nat)), (5, .slice (some ⟨lb, 0, none⟩) n n), (6, .int .i64 ((cnt (ls nm n) i) : Nat)), (7, .int .i64 (i : Nat))] a3 := ⟨s3.1, s3.2.1, s3.2.2.1, s3.2.2.2.1, s3.2.2.2.2.1, s3.2.2.2.2.2.1, trivial⟩
    rw [e1] at s3'
    exact hQ a3 w2 l2 hS2 hl2 f3 s3'

theorem last_loop {x : Option Addr} {nb no n : Nat} {nm : Nat → ByteArray} {rb K : Nat} {r : Nat → Nat} {h0 lb : Nat} {w0 : World} (c cn : Nat) (a : Act) (w : World) (l : Nat → Bool) (Q : Exit → Act → World → Prop) (hfr : Fr 129 a) (hs : Slots [(0, .slice x n cn), (3, .slice (some ⟨rb, 0, none⟩) K c), (4, .int .i64 (n : Nat)), (5, .slice (some ⟨lb, 0, none⟩) n n), (6, .int .i64 (0 : Nat))] a) (ln : n ≤ 4096)
    (hS : Sit x nb no n nm rb K r h0 lb w0 w l)
    (hQ : ∀ a' w' l', Sit x nb no n nm rb K r h0 lb w0 w' l' → (∀ k, k < n → l' k = ls nm n k) → Fr 129 a' → Slots [(0, .slice x n cn), (3, .slice (some ⟨rb, 0, none⟩) K c), (4, .int .i64 (n : Nat)), (5, .slice (some ⟨lb, 0, none⟩) n n), (6, .int .i64 (cnt (ls nm n) n : Nat))] a' → Q .normal a' w') :
    Code.wp Try.prog (nthC 7 (bodyC Try.f5)) Q a w := by
  refine wp_nav rfl (q9 _ _ _ _ _ _ _ _ _ _ _ hfr hs fun a1 f1 s1 => ?_)
  refine wp_navB (id := 0) rfl ?_
  refine wp_navL rfl (wp_loop (fun a' w' => ∃ (i : Nat) (l' : Nat → Bool), i ≤ n ∧ Sit x nb no n nm rb K r h0 lb w0 w' l' ∧ (∀ k, k < i → l' k = ls nm n k) ∧ Fr 129 a' ∧ Slots [(0, .slice x n cn), (3, .slice (some ⟨rb, 0, none⟩) K c), (4, .int .i64 (n : Nat)), (5, .slice (some ⟨lb, 0, none⟩) n n), (6, .int .i64 ((cnt (ls nm n) i) : Nat)), (7, .int .i64 (i : Nat))] a') (fun a' _ => n - (intOf (sl a' 7)).toNat) ⟨0, l, Nat.zero_le _, hS, fun k hk => by omega, f1, s1⟩ ?_)
  rintro a2 w2 ⟨i, l2, hi, hS2, hl2, f2, s2⟩
  have mu : (intOf (sl a2 7)).toNat = i := by
    have : sl a2 7 = .int .i64 (i : Nat) := s2.2.2.2.2.2.1
    rw [this]; simp only [intOf]; omega
  refine wp_nav rfl (q10 _ _ _ _ _ _ _ _ i _ _ _ f2 s2 (fun a3 hlt f3 s3 => ?_) (fun a3 hke f3 s3 => ?_))
  · refine wp_nav rfl (last_round c cn i a3 w2 l2 _ f3 s3 ln hlt hS2 hl2 fun a4 w4 l4 hS4 hl4 f4 s4 => ?_)
    refine q11 _ _ _ _ _ _ _ _ i _ _ _ f4 s4 (by omega) fun a5 f5 s5 => ?_
    refine ⟨⟨i + 1, l4, hlt, hS4, hl4, f5, s5⟩, ?_⟩
    have mu2 : (intOf (sl a5 7)).toNat = i + 1 := by
      have : sl a5 7 = .int .i64 (i + 1 : Nat) := s5.2.2.2.2.2.1
      rw [this]; simp only [intOf]; omega
    rw [mu, mu2]; omega
  · obtain rfl : i = n := by omega
    simp only [Exit.inBlock, Exit.then, if_true]
    exact hQ a3 w2 l2 hS2 hl2 f3 s3

theorem rank_loop {x : Option Addr} {nb no n : Nat} {nm : Nat → ByteArray} {rb K : Nat} {r : Nat → Nat} {h0 lb : Nat} {w0 : World} (c cn i : Nat) (a : Act) (w : World) (l : Nat → Bool) (Q : Exit → Act → World → Prop) (hfr : Fr 129 a) (hs : Slots [(0, .slice x n cn), (3, .slice (some ⟨rb, 0, none⟩) K c), (4, .int .i64 (n : Nat)), (5, .slice (some ⟨lb, 0, none⟩) n n), (9, .int .i64 (i : Nat)), (10, .int .i64 (0 : Nat))] a) (ln : n ≤ 4096) (hi : i < n)
    (hS : Sit x nb no n nm rb K r h0 lb w0 w l) (hl : ∀ k, k < n → l k = ls nm n k)
    (hQ : ∀ a' w', Sit x nb no n nm rb K r h0 lb w0 w' l → Fr 129 a' → Slots [(0, .slice x n cn), (3, .slice (some ⟨rb, 0, none⟩) K c), (4, .int .i64 (n : Nat)), (5, .slice (some ⟨lb, 0, none⟩) n n), (9, .int .i64 (i : Nat)), (10, .int .i64 (cnt (fun k => ls nm n k && nl (nm k) (nm i)) n : Nat))] a' → Q .normal a' w') :
    Code.wp Try.prog (nthC 2 (inC (hdC (tlC (inC (inC (tlC (nthC 9 (bodyC Try.f5))))))))) Q a w := by
  refine wp_nav rfl (q27 _ _ _ _ _ _ _ i _ _ _ _ hfr hs fun a1 f1 s1 => ?_)
  refine wp_navB (id := 6) rfl ?_
  refine wp_navL rfl (wp_loop (fun a' w' => ∃ (j : Nat), j ≤ n ∧ Sit x nb no n nm rb K r h0 lb w0 w' l ∧ Fr 129 a' ∧ Slots [(0, .slice x n cn), (3, .slice (some ⟨rb, 0, none⟩) K c), (4, .int .i64 (n : Nat)), (5, .slice (some ⟨lb, 0, none⟩) n n), (9, .int .i64 (i : Nat)), (10, .int .i64 ((cnt (fun k => ls nm n k && nl (nm k) (nm i)) j) : Nat)), (11, .int .i64 (j : Nat))] a') (fun a' _ => n - (intOf (sl a' 11)).toNat) ⟨0, Nat.zero_le _, hS, f1, s1⟩ ?_)
  rintro a2 w2 ⟨j, hj, hS2, f2, s2⟩
  have mu : (intOf (sl a2 11)).toNat = j := by
    have : sl a2 11 = .int .i64 (j : Nat) := s2.2.2.2.2.2.2.1
    rw [this]; simp only [intOf]; omega
  refine wp_nav rfl (q28 _ _ _ _ _ _ _ i _ j _ _ _ f2 s2 (fun a3 hlt f3 s3 => ?_) (fun a3 hke f3 s3 => ?_))
  · refine wp_nav rfl (wp_navB (id := 7) rfl ?_)
    refine wp_nav rfl (q30 _ _ _ _ _ _ _ i _ j nb no (nm j) (nm i) (l j) _ _ _ f3 s3 (hS2.row.ptr (by omega)) (by omega) (by omega) (hS2.ls.at hlt) (hS2.row.cell j hlt) (hS2.row.cell i hi) fun a4 q f4 s4 => ?_)
    have hS4 := hS2.keep ((Kept.refl _ _).drewN q)
    have hc := cnt_le (fun k => ls nm n k && nl (nm k) (nm i)) j
    have hlj := hl j hlt
    have fin : ∀ a5, Fr 129 a5 → Slots [(0, .slice x n cn), (3, .slice (some ⟨rb, 0, none⟩) K c), (4, .int .i64 (n : Nat)), (5, .slice (some ⟨lb, 0, none⟩) n n), (9, .int .i64 (i : Nat)), (10, .int .i64 (cnt (fun k => ls nm n k && nl (nm k) (nm i)) (j + 1) : Nat)), (11, .int .i64 (j : Nat))] a5 → Code.wp Try.prog (tlC (tlC (inC (inC (tlC (nthC 2 (inC (hdC (tlC (inC (inC (tlC (nthC 9 (bodyC Try.f5)))))))))))))) (fun e a' w' => e = .normal ∧ (∃ (j : Nat), j ≤ n ∧ Sit x nb no n nm rb K r h0 lb w0 w' l ∧ Fr 129 a' ∧ Slots [(0, .slice x n cn), (3, .slice (some ⟨rb, 0, none⟩) K c), (4, .int .i64 (n : Nat)), (5, .slice (some ⟨lb, 0, none⟩) n n), (9, .int .i64 (i : Nat)), (10, .int .i64 ((cnt (fun k => ls nm n k && nl (nm k) (nm i)) j) : Nat)), (11, .int .i64 (j : Nat))] a') ∧ (intOf (sl a' 11)).toNat = j + 1) a5 (w2.drewN q) := by
      intro a5 f5 s5
      refine q29 _ _ _ _ _ _ _ i _ j _ _ _ f5 s5 (by omega) fun a6 f6 s6 => ⟨rfl, ⟨j + 1, hlt, hS4, f6, s6⟩, ?_⟩
      have : sl a6 11 = .int .i64 (j + 1 : Nat) := s6.2.2.2.2.2.2.1
      rw [this]; simp only [intOf]; omega
    refine wp_navI (j := 92) rfl s4.2.2.2.2.2.2.2.1 (fun he => ?_) (fun he => ?_)
    · refine q31 _ _ _ _ _ _ _ i _ j _ _ _ f4 ⟨s4.1, s4.2.1, s4.2.2.1, s4.2.2.2.1, s4.2.2.2.2.1, s4.2.2.2.2.2.1, s4.2.2.2.2.2.2.1, trivial⟩ (by omega) fun a5 f5 s5 => ?_
      simp only [Exit.inBlock, Exit.then]
      have e1 : (cnt (fun k => ls nm n k && nl (nm k) (nm i)) j) + 1 = cnt (fun k => ls nm n k && nl (nm k) (nm i)) (j + 1) := by
        rw [cnt, ← hlj, he]; simp
      rw [e1] at s5
      refine wp_mono (fin a5 f5 s5) ?_
      rintro e a' w' ⟨rfl, h1, h2⟩
      refine ⟨h1, ?_⟩
      rw [mu, h2]; omega
    · refine wp_skip' rfl ?_
      simp only [Exit.inBlock, Exit.then]
      have e1 : (cnt (fun k => ls nm n k && nl (nm k) (nm i)) j) = cnt (fun k => ls nm n k && nl (nm k) (nm i)) (j + 1) := by
        rw [cnt, ← hlj, he]; simp
      have s4' : Slots [(0, .slice x n cn), (3, .slice (some ⟨rb, 0, none⟩) K c), (4, .int .i64 (n : Nat)), (5, .slice (some ⟨lb, 0, none⟩) n n), (9, .int .i64 (i : Nat)), (10, .int .i64 ((cnt (fun k => ls nm n k && nl (nm k) (nm i)) j) : Nat)), (11, .int .i64 (j : Nat))] a4 := ⟨s4.1, s4.2.1, s4.2.2.1, s4.2.2.2.1, s4.2.2.2.2.1, s4.2.2.2.2.2.1, s4.2.2.2.2.2.2.1, trivial⟩
      rw [e1] at s4'
      refine wp_mono (fin a4 f4 s4') ?_
      rintro e a' w' ⟨rfl, h1, h2⟩
      refine ⟨h1, ?_⟩
      rw [mu, h2]; omega
  · obtain rfl : j = n := by omega
    simp only [Exit.inBlock, Exit.then, if_true]
    exact hQ a3 w2 hS2 f3 s3

theorem rank_round {x : Option Addr} {nb no n : Nat} {nm : Nat → ByteArray} {rb K : Nat} {r : Nat → Nat} {h0 lb : Nat} {w0 : World} (c cn i : Nat) (a : Act) (w : World) (l : Nat → Bool) (Q : Exit → Act → World → Prop) (hfr : Fr 129 a) (hs : Slots [(0, .slice x n cn), (3, .slice (some ⟨rb, 0, none⟩) K c), (4, .int .i64 (n : Nat)), (5, .slice (some ⟨lb, 0, none⟩) n n), (9, .int .i64 (i : Nat))] a) (ln : n ≤ 4096) (hi : i < n)
    (hS : Sit x nb no n nm rb K r h0 lb w0 w l) (hl : ∀ k, k < n → l k = ls nm n k) (hres : Res nm n K r)
    (hQ : ∀ a' w', Sit x nb no n nm rb K r h0 lb w0 w' l → Fr 129 a' → Slots [(0, .slice x n cn), (3, .slice (some ⟨rb, 0, none⟩) K c), (4, .int .i64 (n : Nat)), (5, .slice (some ⟨lb, 0, none⟩) n n), (9, .int .i64 (i : Nat))] a' → Q .normal a' w') :
    Code.wp Try.prog (hdC (tlC (inC (inC (tlC (nthC 9 (bodyC Try.f5))))))) Q a w := by
  refine wp_navB (id := 5) rfl ?_
  refine wp_nav rfl (wp_nav rfl (q25 _ _ _ _ _ _ _ i (l i) _ _ _ hfr hs (by omega) (hS.ls.at hi) fun a1 f1 s1 => ?_))
  have s1' : Slots [(0, .slice x n cn), (3, .slice (some ⟨rb, 0, none⟩) K c), (4, .int .i64 (n : Nat)), (5, .slice (some ⟨lb, 0, none⟩) n n), (9, .int .i64 (i : Nat))] a1 := ⟨s1.1, s1.2.1, s1.2.2.1, s1.2.2.2.1, s1.2.2.2.2.1, trivial⟩
  refine wp_navI (j := 72) rfl s1.2.2.2.2.2.1 (fun he => ?_) (fun he => ?_)
  · have ex : Code.wp Try.prog (thC (tlC (nthC 0 (inC (hdC (tlC (inC (inC (tlC (nthC 9 (bodyC Try.f5))))))))))) (fun e a' w' => e = .exit 5 ∧ a' = a1 ∧ w' = w) a1 w := by
      show Code.wp Try.prog (Code.exit 5) _ _ _
      exact wp_exit ⟨rfl, rfl, rfl⟩
    refine wp_mono ex ?_
    rintro e a' w' ⟨rfl, ha1, hw1⟩
    rw [ha1, hw1]
    simp only [Exit.inBlock, Exit.then, if_true]
    exact hQ a1 w hS f1 s1'
  · refine wp_skip' rfl ?_
    simp only [Exit.then]
    have hli : ls nm n i = true := by rw [← hl i hi]; simpa using he
    obtain ⟨p, hp, rfl⟩ := hres.all i hi (ls_iff.1 hli)
    refine wp_nav rfl (q26 _ _ _ _ _ _ _ (r p) _ _ _ f1 s1' fun a2 f2 s2 => ?_)
    refine wp_nav rfl (rank_loop c cn (r p) a2 w l _ f2 s2 ln hi hS hl fun a3 w3 hS3 f3 s3 => ?_)
    rw [hres.rank hp] at s3
    refine wp_nav rfl (q32 _ _ _ _ _ _ _ (r p) p (hdOf nm h0 (r p)) _ _ _ f3 s3 (by omega) (hS3.hb.c0 hp) (hS3.hb.c1 hp) hS3.hb.lt fun a4 f4 s4 => ?_)
    have nA := IsB.new w3 #[.string (hdOf nm h0 (r p)).nm, .slice (some ⟨(hdOf nm h0 (r p)).vb, 0, none⟩) 2 2] 39
    have hS4 := hS3.keep ((Kept.refl _ w3).alloc (.cells #[.string (hdOf nm h0 (r p)).nm, .slice (some ⟨(hdOf nm h0 (r p)).vb, 0, none⟩) 2 2] 39))
    generalize w3.alloc (.cells #[.string (hdOf nm h0 (r p)).nm, .slice (some ⟨(hdOf nm h0 (r p)).vb, 0, none⟩) 2 2] 39) = w4 at *
    refine wp_nav rfl (wp_nav rfl (q33 _ _ _ _ _ _ _ (r p) _ nb no (nm (r p)) _ _ _ f4 s4 (hS4.row.ptr (by omega)) (by omega) (nA.cell 0) (hS4.row.cell (r p) hi) fun a5 q f5 s5 => ?_))
    have kD : Kept [] w4 (w4.drewN q) := (Kept.refl _ _).drewN q
    have hS5 := hS4.keep kD
    have n5 := kD.isB nA (by simp)
    refine wp_navI (j := 105) rfl s5.2.2.2.2.2.2.1 (fun ht => by cases ht) (fun _ => ?_)
    refine wp_skip' rfl ?_
    simp only [Exit.then]
    refine wp_nav rfl (q35 _ _ _ _ _ _ _ (r p) _ (h0 + 1 + r p) _ _ _ f5 ⟨s5.1, s5.2.1, s5.2.2.1, s5.2.2.2.1, s5.2.2.2.2.1, s5.2.2.2.2.2.1, trivial⟩ (by omega) (n5.cell 1) ((hS5.hv (r p) hi).cell 0) ((hS5.hv (r p) hi).cell 1) fun a6 f6 s6 => ?_)
    refine wp_navI (j := 128) rfl s6.2.2.2.2.2.1 (fun ht => by cases ht) (fun _ => ?_)
    refine wp_skip' rfl ?_
    simp only [Exit.inBlock, Exit.then]
    exact hQ a6 _ hS5 f6 ⟨s6.1, s6.2.1, s6.2.2.1, s6.2.2.2.1, s6.2.2.2.2.1, trivial⟩

theorem rank_all {x : Option Addr} {nb no n : Nat} {nm : Nat → ByteArray} {rb K : Nat} {r : Nat → Nat} {h0 lb : Nat} {w0 : World} (c cn : Nat) (a : Act) (w : World) (l : Nat → Bool) (Q : Exit → Act → World → Prop) (hfr : Fr 129 a) (hs : Slots [(0, .slice x n cn), (3, .slice (some ⟨rb, 0, none⟩) K c), (4, .int .i64 (n : Nat)), (5, .slice (some ⟨lb, 0, none⟩) n n)] a) (ln : n ≤ 4096)
    (hS : Sit x nb no n nm rb K r h0 lb w0 w l) (hl : ∀ k, k < n → l k = ls nm n k) (hres : Res nm n K r)
    (hQ : ∀ a' w', Sit x nb no n nm rb K r h0 lb w0 w' l → Fr 129 a' → Slots [(0, .slice x n cn), (3, .slice (some ⟨rb, 0, none⟩) K c), (4, .int .i64 (n : Nat)), (5, .slice (some ⟨lb, 0, none⟩) n n)] a' → Q .normal a' w') :
    Code.wp Try.prog (nthC 9 (bodyC Try.f5)) Q a w := by
  refine wp_nav rfl (q22 _ _ _ _ _ _ _ _ _ _ hfr hs fun a1 f1 s1 => ?_)
  refine wp_navB (id := 4) rfl ?_
  refine wp_navL rfl (wp_loop (fun a' w' => ∃ (i : Nat), i ≤ n ∧ Sit x nb no n nm rb K r h0 lb w0 w' l ∧ Fr 129 a' ∧ Slots [(0, .slice x n cn), (3, .slice (some ⟨rb, 0, none⟩) K c), (4, .int .i64 (n : Nat)), (5, .slice (some ⟨lb, 0, none⟩) n n), (9, .int .i64 (i : Nat))] a') (fun a' _ => n - (intOf (sl a' 9)).toNat) ⟨0, Nat.zero_le _, hS, f1, s1⟩ ?_)
  rintro a2 w2 ⟨i, hi, hS2, f2, s2⟩
  have mu : (intOf (sl a2 9)).toNat = i := by
    have : sl a2 9 = .int .i64 (i : Nat) := s2.2.2.2.2.1
    rw [this]; simp only [intOf]; omega
  refine wp_nav rfl (q23 _ _ _ _ _ _ _ i _ _ _ f2 s2 (fun a3 hlt f3 s3 => ?_) (fun a3 hke f3 s3 => ?_))
  · refine wp_nav rfl (rank_round c cn i a3 w2 l _ f3 s3 ln hlt hS2 hl hres fun a4 w4 hS4 f4 s4 => ?_)
    refine q24 _ _ _ _ _ _ _ i _ _ _ f4 s4 (by omega) fun a5 f5 s5 => ?_
    refine ⟨⟨i + 1, hlt, hS4, f5, s5⟩, ?_⟩
    have mu2 : (intOf (sl a5 9)).toNat = i + 1 := by
      have : sl a5 9 = .int .i64 (i + 1 : Nat) := s5.2.2.2.2.1
      rw [this]; simp only [intOf]; omega
    rw [mu, mu2]; omega
  · simp only [Exit.inBlock, Exit.then, if_true]
    exact hQ a3 w2 hS2 f3 s3

theorem l7_walk (x : Option Addr) (nb no n cn : Nat) (nm : Nat → ByteArray) (w : World) (hR : RowS x nb no n nm w) (ln : n ≤ 9223372036854775807) (lsz : ∀ i, i < n → (nm i).size ≤ 9223372036854775807) :
    Calls Try.prog 5 #[.slice x n cn] w fun e w' => e = .returned (.bool true) ∧ Kept [] w w' := by
  refine calls_nav 129 Try.func5 rfl rfl (by simp) fun a fr0 ha => ?_
  have s0 : Slots [(0, .slice x n cn)] a := ⟨ha 0 (by simp), trivial⟩
  refine wp_nav rfl (q0 _ _ _ _ _ _ fr0 s0 fun a1 f1 s1 => ?_)
  refine wp_nav rfl (wp_nav rfl (q1 _ _ _ _ _ _ _ f1 s1 (zz14 x nb no n cn nm w hR ln lsz) fun a2 ok hz f2 s2 => ?_))
  have s2' : Slots [(0, .slice x n cn)] a2 := ⟨s2.1, trivial⟩
  refine wp_navI (j := 15) rfl s2.2.1 (fun ht => ?_) (fun ht => ?_)
  · refine q1r _ _ _ _ _ _ f2 s2' fun a3 f3 t3 => ?_
    simp only [Exit.then]
    refine bodyPost_ret (results_tmp rfl _ _ _) f3.defers ⟨?_, Kept.refl _ _⟩
    rw [show a3.tmps.getD 2 undef = _ from t3]
  refine wp_skip' rfl ?_
  simp only [Exit.then]
  obtain ⟨ln1, ls1⟩ := hz (by simpa using ht)
  refine wp_nav rfl (wp_nav rfl (q3 _ _ _ _ _ _ _ f2 s2' (fit15 x nb no n cn nm w hR ln1 ls1) fun a3 ok hz f3 s3 => ?_))
  have s3' : Slots [(0, .slice x n cn)] a3 := ⟨s3.1, trivial⟩
  refine wp_navI (j := 18) rfl s3.2.1 (fun ht => ?_) (fun ht => ?_)
  · refine q3r _ _ _ _ _ _ f3 s3' fun a4 f4 t4 => ?_
    simp only [Exit.then]
    refine bodyPost_ret (results_tmp rfl _ _ _) f4.defers ⟨?_, Kept.refl _ _⟩
    rw [show a4.tmps.getD 2 undef = _ from t4]
  refine wp_skip' rfl ?_
  simp only [Exit.then]
  have ln2 := hz (by simpa using ht)
  have hc2 : ∀ w1, (Kept [] w w1 ∧ HB w1 w.heap.size n (hdOf nm w.heap.size) (fun j => j) ∧ HV w1 w.heap.size n) → Calls Try.prog 16 #[.slice (some ⟨w.heap.size, 0, none⟩) n n] w1 fun e w2 => ∃ rb K c, e = .returned (.slice (some ⟨rb, 0, none⟩) K c) ∧ ∃ r, Kept [] w1 w2 ∧ HB w2 rb K (hdOf nm w.heap.size) r ∧ Res nm n K r := by
    intro w1 hG
    refine Calls.mono (zorder16 w.heap.size n nm (hdOf nm w.heap.size) (fun _ => rfl) w1 hG.2.1 ln2) ?_
    rintro e w2 ⟨rb, K, c, r, he, hp⟩
    exact ⟨rb, K, c, he, r, hp⟩
  refine wp_nav rfl (q5 _ _ _ w.heap.size _ (fun w1 rb K c w2 => ∃ r, Kept [] w1 w2 ∧ HB w2 rb K (hdOf nm w.heap.size) r ∧ Res nm n K r) _ _ _ f3 s3' (headers17 x nb no n cn nm w hR ln2) hc2 fun a4 w1 rb K c w2 hG hG2 f4 s4 => ?_)
  obtain ⟨k1, -, hv1⟩ := hG
  obtain ⟨r, k2, hb2, hres⟩ := hG2
  have k02 := k1.trans k2
  have hv2 : HV w2 w.heap.size n := fun j hj => k2.isB (hv1 j hj) (by simp)
  have hR2 := hR.keep k02 (by simp)
  refine wp_nav rfl (q6 _ _ _ _ _ _ _ _ _ f4 s4 fun a5 f5 s5 => ?_)
  refine wp_nav rfl (q7 _ _ _ _ _ _ _ _ _ f5 s5 ln2 fun a6 f6 s6 => ?_)
  have kA : Kept [] w2 (w2.alloc (.cells (madeCells #[.bool false] n) 4)) := (Kept.refl _ _).alloc _
  have nA := IsB.new w2 (madeCells #[.bool false] n) 4
  have zA : madeCells #[Value.bool false] n = rowA (fun _ => .bool false) n := by
    refine Array.ext (by simp [madeCells, rowA]) fun i h1 h2 => ?_
    simp [madeCells, rowA, Nat.mod_one]
  have hS : Sit x nb no n nm rb K r w.heap.size w2.heap.size w (w2.alloc (.cells (madeCells #[.bool false] n) 4)) (fun _ => false) :=
    ⟨k02.trans kA, k02.size, hR2.keep kA (by simp), fun h0 => Nat.ne_of_lt (hR2.lt h0), hb2.keep kA (by simp), Nat.ne_of_lt hb2.lt, fun j hj => kA.isB (hv2 j hj) (by simp), fun j hj => Nat.ne_of_lt (hv2 j hj).lt, by unfold LB; rw [← zA]; exact nA⟩
  generalize w2.alloc (.cells (madeCells #[.bool false] n) 4) = w3 at *
  generalize w2.heap.size = lb at *
  refine wp_nav rfl (q8 _ _ _ _ _ _ _ _ _ _ f6 s6 fun a7 f7 s7 => ?_)
  refine wp_nav rfl (last_loop c cn a7 w3 _ _ f7 s7 ln2 hS fun a8 w8 l hS8 hl f8 s8 => ?_)
  rw [hres.count] at s8
  refine wp_nav rfl (wp_nav rfl (q20 _ _ _ _ _ _ _ _ _ _ f8 s8 (by simp) fun a9 f9 s9 => ?_))
  refine wp_navI (j := 62) rfl s9.2.2.2.2.1 (fun ht => by cases ht) (fun _ => ?_)
  refine wp_skip' rfl ?_
  simp only [Exit.then]
  refine wp_nav rfl (rank_all c cn a9 w8 l _ f9 ⟨s9.1, s9.2.1, s9.2.2.1, s9.2.2.2.1, trivial⟩ ln2 hS8 hl hres fun a10 w10 hS10 f10 s10 => ?_)
  refine q37 _ _ _ _ _ _ _ _ _ _ f10 s10 fun a11 f11 t11 => ?_
  refine bodyPost_ret (results_tmp rfl _ _ _) f11.defers ⟨?_, hS10.kept⟩
  rw [show a11.tmps.getD 2 undef = _ from t11]

end Go.Proofs.Qxb6601010a
