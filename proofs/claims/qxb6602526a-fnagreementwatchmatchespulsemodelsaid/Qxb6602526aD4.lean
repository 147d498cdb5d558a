import Derived.Test.Qxb6602526aD3
namespace Go.Proofs.Qxb6602526a
open Go.RowKit
set_option linter.unusedSimpArgs false
set_option linter.unusedVariables false


/-- At clock 0. -/
theorem ml_in (fc : Int) (m K I : Nat) (pb cb ib rb : Nat) (ag iv an : Bool) (la : Int) (k : Nat) (x y : Int) (bad : Bool) (p ck fi fr : Nat → Int) (a : Act) (w : World) (Q : Exit → Act → World → Prop) (hfr : Fr 134 a) (hs : Slots [(0, .int .u64 fc), (1, .int .i64 (m : Nat)), (2, .slice (some ⟨pb, 0, none⟩) K K), (3, .slice (some ⟨cb, 0, none⟩) K K), (4, .slice (some ⟨ib, 0, none⟩) I I), (5, .slice (some ⟨rb, 0, none⟩) I I), (16, .int .i64 (K : Nat)), (17, .bool ag), (20, .bool iv), (21, .bool an), (22, .int .u64 la), (23, .int .i64 (k : Nat)), (24, .int .u8 x), (25, .int .u8 y), (26, .bool bad)] a)
    (hR : PRows K I (some ⟨pb, 0, none⟩) (some ⟨cb, 0, none⟩) (some ⟨ib, 0, none⟩) (some ⟨rb, 0, none⟩) pb cb ib rb p ck fi fr w)
    (hk : k < K) (lK : (K : Int) ≤ 65536) (hI : I = m * K) (hm : 0 < m) (lI : (I : Int) ≤ 1048576) (lm : (m : Int) ≤ 65536) (X : Bool)
    (hX : X = match lastZ ck k with | none => false | some j => (decide (fc ≤ p j) && ((minTo (fun i => fi (j * m + i)) m == maxTo (fun i => fi (j * m + i)) m) && (!(x == minTo (fun i => fi (j * m + i)) m) || !(y == minTo (fun i => fi (j * m + i)) m)))))
    (hQ : ∀ a', Fr 134 a' → Slots [(0, .int .u64 fc), (1, .int .i64 (m : Nat)), (2, .slice (some ⟨pb, 0, none⟩) K K), (3, .slice (some ⟨cb, 0, none⟩) K K), (4, .slice (some ⟨ib, 0, none⟩) I I), (5, .slice (some ⟨rb, 0, none⟩) I I), (16, .int .i64 (K : Nat)), (17, .bool ag), (20, .bool (iv || X)), (21, .bool an), (22, .int .u64 la), (23, .int .i64 (k : Nat)), (24, .int .u8 x), (25, .int .u8 y), (26, .bool (bad || X))] a' → Q .normal a' w) :
    Code.wp Try.prog (thC (tlC (nthC 2 (inC (hdC (tlC (inC (inC (tlC (nthC 7 (bodyC Try.f22))))))))))) Q a w := by
  refine wp_nav rfl (m15 _ _ _ _ _ _ _ _ _ _ _ _ _ _ _ _ _ _ _ hfr hs (by omega) fun a1 fr1 s1 => ?_)
  refine wp_nav rfl (wp_navB (id := 2) rfl ?_)
  refine ml_j _ _ _ _ _ _ _ _ _ _ _ k _ _ _ cb ck _ _ _ fr1 s1 hk lK hR.cc (fun a2 hl fr2 s2 => ?_) (fun a2 j hl fr2 s2 => ?_)
  · simp only [Exit.inBlock, Exit.then, if_true]
    rw [hl] at hX
    simp only [] at hX
    subst hX
    rw [Bool.or_false, Bool.or_false] at hQ
    refine wp_nav rfl (m18z _ _ _ _ _ _ _ _ _ _ _ _ _ _ _ _ _ _ _ fr2 s2 fun a3 fr3 s3 => ?_)
    refine wp_navI (j := 98) rfl s3.2.2.2.2.2.2.2.2.2.2.2.2.2.2.2.1 (fun ht => by cases ht) (fun _ => ?_)
    refine wp_skip' rfl ?_
    exact hQ a3 fr3 ⟨s3.1, s3.2.1, s3.2.2.1, s3.2.2.2.1, s3.2.2.2.2.1, s3.2.2.2.2.2.1, s3.2.2.2.2.2.2.1, s3.2.2.2.2.2.2.2.1, s3.2.2.2.2.2.2.2.2.1, s3.2.2.2.2.2.2.2.2.2.1, s3.2.2.2.2.2.2.2.2.2.2.1, s3.2.2.2.2.2.2.2.2.2.2.2.1, s3.2.2.2.2.2.2.2.2.2.2.2.2.1, s3.2.2.2.2.2.2.2.2.2.2.2.2.2.1, s3.2.2.2.2.2.2.2.2.2.2.2.2.2.2.1, trivial⟩
  · simp only [Exit.inBlock, Exit.then, if_true]
    rw [hl] at hX
    simp only [] at hX
    have hj := lastZ_lt ck k j hl
    refine wp_nav rfl (m18 _ _ _ _ _ _ _ _ _ _ _ _ _ _ _ pb j (p j) _ _ _ fr2 s2 (by omega) (hR.cp j (by omega)) fun a3 fr3 s3 => ?_)
    refine wp_navI (j := 98) rfl s3.2.2.2.2.2.2.2.2.2.2.2.2.2.2.2.2.1 (fun ht => ?_) (fun ht => ?_)
    · obtain ⟨h1, h2, h3, h4, h5, h6, h7, h8⟩ := bounds (k := j) hI (by omega) hm lI
      have e1 : (j + 1) * m = j * m + m := Nat.succ_mul j m
      refine wp_nav rfl (m19 _ _ _ _ _ _ _ _ _ _ _ _ _ _ _ ib j (j * m) ((j + 1) * m) (minTo (fun i => fi (j * m + i)) m) (maxTo (fun i => fi (j * m + i)) m) _ _ _ fr3 ⟨s3.1, s3.2.1, s3.2.2.1, s3.2.2.2.1, s3.2.2.2.2.1, s3.2.2.2.2.2.1, s3.2.2.2.2.2.2.1, s3.2.2.2.2.2.2.2.1, s3.2.2.2.2.2.2.2.2.1, s3.2.2.2.2.2.2.2.2.2.1, s3.2.2.2.2.2.2.2.2.2.2.1, s3.2.2.2.2.2.2.2.2.2.2.2.1, s3.2.2.2.2.2.2.2.2.2.2.2.2.1, s3.2.2.2.2.2.2.2.2.2.2.2.2.2.1, s3.2.2.2.2.2.2.2.2.2.2.2.2.2.2.1, s3.2.2.2.2.2.2.2.2.2.2.2.2.2.2.2.1, trivial⟩ (by omega) lK h1 h2 h3 h4 h5 h6
        (by rw [h7]; exact mm36 ib (j * m) m _ (fun i => fi (j * m + i)) w hm (by omega) (fun i hi => hR.ci _ (by omega))) fun a4 fr4 s4 => ?_)
      refine m20 _ _ _ _ _ _ _ _ _ _ _ _ _ _ _ _ _ _ _ _ _ fr4 s4 fun a5 fr5 s5 => ?_
      rw [ht, Bool.true_and] at hX
      rw [← hX] at s5
      exact hQ a5 fr5 s5
    · rw [ht, Bool.false_and] at hX
      subst hX
      rw [Bool.or_false, Bool.or_false] at hQ
      refine wp_skip' rfl ?_
      exact hQ a3 fr3 ⟨s3.1, s3.2.1, s3.2.2.1, s3.2.2.2.1, s3.2.2.2.2.1, s3.2.2.2.2.2.1, s3.2.2.2.2.2.2.1, s3.2.2.2.2.2.2.2.1, s3.2.2.2.2.2.2.2.2.1, s3.2.2.2.2.2.2.2.2.2.1, s3.2.2.2.2.2.2.2.2.2.2.1, s3.2.2.2.2.2.2.2.2.2.2.2.1, s3.2.2.2.2.2.2.2.2.2.2.2.2.1, s3.2.2.2.2.2.2.2.2.2.2.2.2.2.1, s3.2.2.2.2.2.2.2.2.2.2.2.2.2.2.1, trivial⟩

theorem ml_round (fc : Int) (m K I : Nat) (pb cb ib rb : Nat) (ag iv an : Bool) (la : Int) (k : Nat) (p ck fi fr : Nat → Int) (a : Act) (w : World) (Q : Exit → Act → World → Prop) (hfr : Fr 134 a) (hs : Slots [(0, .int .u64 fc), (1, .int .i64 (m : Nat)), (2, .slice (some ⟨pb, 0, none⟩) K K), (3, .slice (some ⟨cb, 0, none⟩) K K), (4, .slice (some ⟨ib, 0, none⟩) I I), (5, .slice (some ⟨rb, 0, none⟩) I I), (16, .int .i64 (K : Nat)), (17, .bool ag), (20, .bool iv), (21, .bool an), (22, .int .u64 la), (23, .int .i64 (k : Nat))] a)
    (hR : PRows K I (some ⟨pb, 0, none⟩) (some ⟨cb, 0, none⟩) (some ⟨ib, 0, none⟩) (some ⟨rb, 0, none⟩) pb cb ib rb p ck fi fr w)
    (hk : k < K) (lK : (K : Int) ≤ 65536) (hI : I = m * K) (hm : 0 < m) (lI : (I : Int) ≤ 1048576) (lm : (m : Int) ≤ 65536)
    (hQ : ∀ a', Fr 134 a' → Slots [(0, .int .u64 fc), (1, .int .i64 (m : Nat)), (2, .slice (some ⟨pb, 0, none⟩) K K), (3, .slice (some ⟨cb, 0, none⟩) K K), (4, .slice (some ⟨ib, 0, none⟩) I I), (5, .slice (some ⟨rb, 0, none⟩) I I), (16, .int .i64 (K : Nat)), (17, .bool ag), (20, .bool (iv || modX fc m p ck (fun k i => fi (k * m + i)) (fun k i => fr (k * m + i)) k)), (21, .bool (an || badK fc m p ck (fun k i => fi (k * m + i)) (fun k i => fr (k * m + i)) k)), (22, .int .u64 (if badK fc m p ck (fun k i => fi (k * m + i)) (fun k i => fr (k * m + i)) k then p k else la)), (23, .int .i64 (k : Nat))] a' → Q .normal a' w) :
    Code.wp Try.prog (inC (hdC (tlC (inC (inC (tlC (nthC 7 (bodyC Try.f22)))))))) Q a w := by
  obtain ⟨h1, h2, h3, h4, h5, h6, h7, h8⟩ := bounds hI hk hm lI
  have e1 : (k + 1) * m = k * m + m := Nat.succ_mul k m
  refine wp_nav rfl (m12 _ _ _ _ _ _ _ rb _ _ _ _ k (k * m) ((k + 1) * m) (minTo (fun i => fr (k * m + i)) m) (maxTo (fun i => fr (k * m + i)) m) _ _ _ hfr hs (by omega) lK h1 h2 h3 h4 h5 h6
    (by rw [h7]; exact mm36 rb (k * m) m _ (fun i => fr (k * m + i)) w hm (by omega) (fun i hi => hR.cr _ (by omega))) fun a1 fr1 s1 => ?_)
  refine wp_nav rfl (m13 _ _ _ _ _ _ _ _ _ _ _ _ _ _ _ _ _ _ fr1 s1 fun a2 fr2 s2 => ?_)
  have fin : ∀ (a3 : Act), Fr 134 a3 → Slots [(0, .int .u64 fc), (1, .int .i64 (m : Nat)), (2, .slice (some ⟨pb, 0, none⟩) K K), (3, .slice (some ⟨cb, 0, none⟩) K K), (4, .slice (some ⟨ib, 0, none⟩) I I), (5, .slice (some ⟨rb, 0, none⟩) I I), (16, .int .i64 (K : Nat)), (17, .bool ag), (20, .bool (iv || modX fc m p ck (fun k i => fi (k * m + i)) (fun k i => fr (k * m + i)) k)), (21, .bool an), (22, .int .u64 la), (23, .int .i64 (k : Nat)), (24, .int .u8 (minTo (fun i => fr (k * m + i)) m)), (25, .int .u8 (maxTo (fun i => fr (k * m + i)) m)), (26, .bool (!(minTo (fun i => fr (k * m + i)) m == maxTo (fun i => fr (k * m + i)) m) || modX fc m p ck (fun k i => fi (k * m + i)) (fun k i => fr (k * m + i)) k))] a3 → Code.wp Try.prog (dropC 3 (inC (hdC (tlC (inC (inC (tlC (nthC 7 (bodyC Try.f22))))))))) Q a3 w := by
    intro a3 fr3 s3
    exact m23 _ _ _ _ _ _ _ _ _ _ _ _ _ _ _ pb (p k) _ _ _ fr3 s3 (by omega) (hR.cp k hk) fun a4 fr4 s4 => hQ a4 fr4 s4
  refine wp_nav rfl (wp_nav rfl (m14 _ _ _ _ _ _ _ _ _ _ _ _ _ _ _ cb (ck k) _ _ _ fr2 s2 (by omega) (hR.cc k hk) fun a3 fr3 s3 => ?_))
  refine wp_navI (j := 75) rfl s3.2.2.2.2.2.2.2.2.2.2.2.2.2.2.2.1 (fun ht => ?_) (fun ht => ?_)
  · have hz : ck k = 0 := by simpa using ht
    refine ml_in fc m K I pb cb ib rb ag iv an la k _ _ _ p ck fi fr _ _ _ fr3 ⟨s3.1, s3.2.1, s3.2.2.1, s3.2.2.2.1, s3.2.2.2.2.1, s3.2.2.2.2.2.1, s3.2.2.2.2.2.2.1, s3.2.2.2.2.2.2.2.1, s3.2.2.2.2.2.2.2.2.1, s3.2.2.2.2.2.2.2.2.2.1, s3.2.2.2.2.2.2.2.2.2.2.1, s3.2.2.2.2.2.2.2.2.2.2.2.1, s3.2.2.2.2.2.2.2.2.2.2.2.2.1, s3.2.2.2.2.2.2.2.2.2.2.2.2.2.1, s3.2.2.2.2.2.2.2.2.2.2.2.2.2.2.1, trivial⟩ hR hk lK hI hm lI lm (modX fc m p ck (fun k i => fi (k * m + i)) (fun k i => fr (k * m + i)) k) ?_ (fun a4 fr4 s4 => fin a4 fr4 s4)
    unfold modX
    rw [if_pos hz]
    cases lastZ ck k <;> rfl
  · have hz : ¬ (ck k = 0) := by simpa using ht
    have hX : modX fc m p ck (fun k i => fi (k * m + i)) (fun k i => fr (k * m + i)) k = false := by unfold modX; rw [if_neg hz]
    refine wp_skip' rfl ?_
    refine fin a3 fr3 ?_
    rw [hX, Bool.or_false, Bool.or_false]
    exact ⟨s3.1, s3.2.1, s3.2.2.1, s3.2.2.2.1, s3.2.2.2.2.1, s3.2.2.2.2.2.1, s3.2.2.2.2.2.2.1, s3.2.2.2.2.2.2.2.1, s3.2.2.2.2.2.2.2.2.1, s3.2.2.2.2.2.2.2.2.2.1, s3.2.2.2.2.2.2.2.2.2.2.1, s3.2.2.2.2.2.2.2.2.2.2.2.1, s3.2.2.2.2.2.2.2.2.2.2.2.2.1, s3.2.2.2.2.2.2.2.2.2.2.2.2.2.1, s3.2.2.2.2.2.2.2.2.2.2.2.2.2.2.1, trivial⟩

end Go.Proofs.Qxb6602526a
