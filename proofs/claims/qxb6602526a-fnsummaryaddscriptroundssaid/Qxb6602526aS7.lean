import Derived.Test.Qxb6602526aS6
namespace Go.Proofs.Qxb6602526a
open Go.RowKit
set_option linter.unusedSimpArgs false
set_option linter.unusedVariables false

def inc64 (c : Bool) (x : Int) : Int := if c then IntKind.u64.wrap (x + 1) else x

set_option maxRecDepth 10000 in
set_option maxHeartbeats 1000000 in
/-- Fragment: do two correct nodes disagree? -/
theorem add_dis (S : SumS) (bs bp br bn nn : Nat) (l : Int) (ad er : Bool) (k : Nat) (r0 r1 : Bool) (a : Act) (w : World) (Q : Exit → Act → World → Prop)
    (hf : AddH bs bp br bn nn l ad er k a) (hB : IsB w bs S.arr 41) (hr : IsB w br (two r0 r1) 97)
    (hQ : ∀ a' w', AddH bs bp br bn nn l ad er k a' → Kept [bs] w w' → w'.heap.size = w.heap.size → IsB w' bs { S with dis := inc64 (r0 && r1) S.dis }.arr 41 → Q .normal a' w') :
    Code.wp Try.prog (nthC 9 (bodyC Try.f34)) Q a w := by
  obtain ⟨fr, s0, s5, s6, s7, s8, s9, s53, s54, s55⟩ := hf
  obtain ⟨u, hu, rfl⟩ := lay213 fr
  rw [hu] at s0 s5 s6 s7 s8 s9 s53 s54 s55
  rw [s0, s5, s6, s7, s8, s9, s53, s54, s55]
  clear fr hu s0 s5 s6 s7 s8 s9 s53 s54 s55
  conv => arg 2; whnf
  have c0 : w.cell? ⟨br, 0, none⟩ = some (.bool r0) := hr.cell 0
  have c1 : w.cell? ⟨br, 1, none⟩ = some (.bool r1) := hr.cell 1
  have d0 : w.cell? ⟨bs, 10, none⟩ = some (.int .u64 S.dis) := hB.cell 10
  have f0 := hB.frozen 10
  have HB : Hid _ := hB
  have H : Hid _ := hQ
  clear hQ hB hr
  cases r0
  · go_wp2
    exact H.out _ _ ⟨⟨rfl, rfl⟩, rfl, rfl, rfl, rfl, rfl, rfl, rfl, rfl, rfl⟩ (Kept.refl _ _) rfl HB.out
  · cases r1
    · go_wp2
      exact H.out _ _ ⟨⟨rfl, rfl⟩, rfl, rfl, rfl, rfl, rfl, rfl, rfl, rfl, rfl⟩ (Kept.refl _ _) rfl HB.out
    · go_wp2
      exact H.out _ _ ⟨⟨rfl, rfl⟩, rfl, rfl, rfl, rfl, rfl, rfl, rfl, rfl, rfl⟩ ((Kept.refl _ _).set _ (.inl (by simp))) (by simp) (IsB.set HB.out 10 _)

set_option maxRecDepth 10000 in
set_option maxHeartbeats 1000000 in
/-- Fragment: a Summary that counts no invalid instances. -/
theorem add_inv_nil (S : SumS) (bs bp br bn nn : Nat) (l : Int) (ad er : Bool) (k : Nat) (a : Act) (w : World) (Q : Exit → Act → World → Prop)
    (hf : AddH bs bp br bn nn l ad er k a) (hB : IsB w bs S.arr 41) (hi : S.inv = none)
    (hQ : ∀ a', AddH bs bp br bn nn l ad er k a' → Q .normal a' w) :
    Code.wp Try.prog (nthC 10 (bodyC Try.f34)) Q a w := by
  obtain ⟨fr, s0, s5, s6, s7, s8, s9, s53, s54, s55⟩ := hf
  obtain ⟨u, hu, rfl⟩ := lay213 fr
  rw [hu] at s0 s5 s6 s7 s8 s9 s53 s54 s55
  rw [s0, s5, s6, s7, s8, s9, s53, s54, s55]
  clear fr hu s0 s5 s6 s7 s8 s9 s53 s54 s55
  conv => arg 2; whnf
  have d0 : w.cell? ⟨bs, 11, none⟩ = some (.pointer none) := by rw [← hi]; exact hB.cell 11
  have H : Hid _ := hQ
  clear hQ hB hi
  go_wp2
  exact H.out _ ⟨⟨rfl, rfl⟩, rfl, rfl, rfl, rfl, rfl, rfl, rfl, rfl, rfl⟩

def invalidB (r0 r1 p0 p1 : Bool) : Bool := r0 && !p0 || r1 && !p1

set_option maxRecDepth 10000 in
set_option maxHeartbeats 1000000 in
/-- Fragment: a Summary that counts invalid instances. -/
theorem add_inv (S : SumS) (bs bp br bn nn bi : Nat) (iv : Int) (l : Int) (ad er : Bool) (k : Nat) (r0 r1 p0 p1 : Bool) (a : Act) (w : World) (Q : Exit → Act → World → Prop)
    (hf : AddH bs bp br bn nn l ad er k a) (hB : IsB w bs S.arr 41) (hi : S.inv = some ⟨bi, 0, none⟩) (hI : IsB w bi #[.int .u64 iv] 31)
    (hr : IsB w br (two r0 r1) 97) (hp : IsB w bp (two p0 p1) 97)
    (hQ : ∀ a' w', AddH bs bp br bn nn l ad er k a' → Kept [bi] w w' → w'.heap.size = w.heap.size → IsB w' bi #[.int .u64 (inc64 (invalidB r0 r1 p0 p1) iv)] 31 → Q .normal a' w') :
    Code.wp Try.prog (nthC 10 (bodyC Try.f34)) Q a w := by
  obtain ⟨fr, s0, s5, s6, s7, s8, s9, s53, s54, s55⟩ := hf
  obtain ⟨u, hu, rfl⟩ := lay213 fr
  rw [hu] at s0 s5 s6 s7 s8 s9 s53 s54 s55
  rw [s0, s5, s6, s7, s8, s9, s53, s54, s55]
  clear fr hu s0 s5 s6 s7 s8 s9 s53 s54 s55
  conv => arg 2; whnf
  have d0 : w.cell? ⟨bs, 11, none⟩ = some (.pointer (some ⟨bi, 0, none⟩)) := by rw [← hi]; exact hB.cell 11
  have i0 : w.cell? ⟨bi, 0, none⟩ = some (.int .u64 iv) := hI.cell 0
  have fi := hI.frozen 0
  have c0 : w.cell? ⟨br, 0, none⟩ = some (.bool r0) := hr.cell 0
  have c1 : w.cell? ⟨br, 1, none⟩ = some (.bool r1) := hr.cell 1
  have e0 : w.cell? ⟨bp, 0, none⟩ = some (.bool p0) := hp.cell 0
  have e1 : w.cell? ⟨bp, 1, none⟩ = some (.bool p1) := hp.cell 1
  have HI : Hid _ := hI
  have H : Hid _ := hQ
  clear hQ hB hi hI hr hp
  cases r0 <;> cases p0 <;> cases r1 <;> cases p1 <;> go_wp2
  all_goals first
    | exact H.out _ _ ⟨⟨rfl, rfl⟩, rfl, rfl, rfl, rfl, rfl, rfl, rfl, rfl, rfl⟩ (Kept.refl _ _) rfl HI.out
    | exact H.out _ _ ⟨⟨rfl, rfl⟩, rfl, rfl, rfl, rfl, rfl, rfl, rfl, rfl, rfl⟩ ((Kept.refl _ _).set _ (.inl (by simp))) (by simp) (IsB.set HI.out 0 _)

set_option maxRecDepth 10000 in
set_option maxHeartbeats 1000000 in
/-- Fragment: did a correct node report an error? -/
theorem add_err (S : SumS) (bs bp br bn nn : Nat) (l : Int) (ad er : Bool) (k : Nat) (a : Act) (w : World) (Q : Exit → Act → World → Prop)
    (hf : AddH bs bp br bn nn l ad er k a) (hB : IsB w bs S.arr 41)
    (hQ : ∀ a' w', AddH bs bp br bn nn l ad er k a' → Kept [bs] w w' → w'.heap.size = w.heap.size → IsB w' bs { S with ei := inc64 er S.ei }.arr 41 → Q .normal a' w') :
    Code.wp Try.prog (nthC 11 (bodyC Try.f34)) Q a w := by
  obtain ⟨fr, s0, s5, s6, s7, s8, s9, s53, s54, s55⟩ := hf
  obtain ⟨u, hu, rfl⟩ := lay213 fr
  rw [hu] at s0 s5 s6 s7 s8 s9 s53 s54 s55
  rw [s0, s5, s6, s7, s8, s9, s53, s54, s55]
  clear fr hu s0 s5 s6 s7 s8 s9 s53 s54 s55
  conv => arg 2; whnf
  have d0 : w.cell? ⟨bs, 12, none⟩ = some (.int .u64 S.ei) := hB.cell 12
  have f0 := hB.frozen 12
  have HB : Hid _ := hB
  have H : Hid _ := hQ
  clear hQ hB
  cases er
  · go_wp2
    exact H.out _ _ ⟨⟨rfl, rfl⟩, rfl, rfl, rfl, rfl, rfl, rfl, rfl, rfl, rfl⟩ (Kept.refl _ _) rfl HB.out
  · go_wp2
    exact H.out _ _ ⟨⟨rfl, rfl⟩, rfl, rfl, rfl, rfl, rfl, rfl, rfl, rfl, rfl⟩ ((Kept.refl _ _).set _ (.inl (by simp))) (by simp) (IsB.set HB.out 12 _)

set_option maxRecDepth 10000 in
set_option maxHeartbeats 1000000 in
/-- Fragment: some correct node did not decide. -/
theorem add_mean_no (bs bp br bn nn : Nat) (l : Int) (er : Bool) (k : Nat) (a : Act) (w : World) (Q : Exit → Act → World → Prop)
    (hf : AddH bs bp br bn nn l false er k a) (hQ : ∀ a', Fr 213 a' → Q .normal a' w) :
    Code.wp Try.prog (dropC 12 (bodyC Try.f34)) Q a w := by
  obtain ⟨fr, s0, s5, s6, s7, s8, s9, s53, s54, s55⟩ := hf
  obtain ⟨u, hu, rfl⟩ := lay213 fr
  rw [hu] at s0 s5 s6 s7 s8 s9 s53 s54 s55
  rw [s0, s5, s6, s7, s8, s9, s53, s54, s55]
  clear fr hu s0 s5 s6 s7 s8 s9 s53 s54 s55
  conv => arg 2; whnf
  have H : Hid _ := hQ
  clear hQ
  go_wp2
  exact H.out _ ⟨rfl, rfl⟩

set_option maxRecDepth 10000 in
set_option maxHeartbeats 1000000 in
/-- Fragment: every correct node decided, the last in round j + 1. -/
theorem add_mean (S : SumS) (f : Nat → Int) (j : Nat) (bs bp br bn nn : Nat) (er : Bool) (k : Nat) (a : Act) (w : World) (Q : Exit → Act → World → Prop)
    (hf : AddH bs bp br bn nn ((j : Int) + 1) true er k a) (hB : IsB w bs S.arr 41) (hj : j < S.drn) (hn : S.drn ≤ 65536) (hD : IsB w S.drb (rowA (fun i => .int .u64 (f i)) S.drn) 31) (hne : S.drb ≠ bs)
    (hff : ∀ i, i < S.drn → 0 ≤ f i ∧ f i ≤ 1099511627776)
    (hQ : ∀ a' w', Fr 213 a' → Kept [bs, S.drb] w w' → IsB w' bs { S with mean := some ⟨w.heap.size, 0, none⟩ }.arr 41 →
      IsB w' S.drb (rowA (fun i => .int .u64 (if i = j then f i + 1 else f i)) S.drn) 31 →
      IsB w' w.heap.size #[.float .f64 (fdiv (totTo (fun i => if i = j then f i + 1 else f i) S.drn % 18446744073709551616) (sumTo (fun i => if i = j then f i + 1 else f i) S.drn))] 54 → Q .normal a' w') :
    Code.wp Try.prog (dropC 12 (bodyC Try.f34)) Q a w := by
  obtain ⟨fr, s0, s5, s6, s7, s8, s9, s53, s54, s55⟩ := hf
  obtain ⟨u, hu, rfl⟩ := lay213 fr
  rw [hu] at s0 s5 s6 s7 s8 s9 s53 s54 s55
  rw [s0, s5, s6, s7, s8, s9, s53, s54, s55]
  clear fr hu s0 s5 s6 s7 s8 s9 s53 s54 s55
  conv => arg 2; whnf
  have d0 : w.cell? ⟨bs, 14, none⟩ = some (.slice (some ⟨S.drb, 0, none⟩) S.drn S.drn) := hB.cell 14
  have d1 : w.cell? ⟨bs, 13, none⟩ = some (.pointer S.mean) := hB.cell 13
  have f1 := hB.frozen 13
  have c0 : w.cell? ⟨S.drb, j, none⟩ = some (.int .u64 (f j)) := by rw [hD.cell j, rowA_at _ _ _ hj]
  have fj := hD.frozen j
  have hb := hB.lt
  have hdb := hD.lt
  have hfj := hff j hj
  have ew : IntKind.u64.wrap (f j + 1) = f j + 1 := by rw [IntKind.wrap_u64]; omega
  have HB : Hid _ := hB
  have HD : Hid _ := hD
  have HF : Hid _ := hff
  have H : Hid _ := hQ
  have HE : Hid _ := ew
  clear hQ hB hD hff ew hfj
  go_wp2_with fail
  rw [HE.out]
  have D1 : IsB (w.setCell ⟨S.drb, j, none⟩ (.int .u64 (f j + 1))) S.drb (rowA (fun i => .int .u64 (if i = j then f i + 1 else f i)) S.drn) 31 := by
    have h := IsB.set HD.out j (.int .u64 (f j + 1))
    rw [rowA_set] at h
    have e : (fun i => if i = j then Value.int .u64 (f j + 1) else Value.int .u64 (f i)) = fun i => Value.int .u64 (if i = j then f i + 1 else f i) := by
      funext i; by_cases hi : i = j <;> simp [hi]
    rw [e] at h; exact h
  have B1 : IsB (w.setCell ⟨S.drb, j, none⟩ (.int .u64 (f j + 1))) bs S.arr 41 := IsB.off HB.out _ hne
  have K1 : Kept [bs, S.drb] w (w.setCell ⟨S.drb, j, none⟩ (.int .u64 (f j + 1))) := (Kept.refl _ _).set _ (.inl (by simp))
  have z1 : (w.setCell ⟨S.drb, j, none⟩ (.int .u64 (f j + 1))).heap.size = w.heap.size := by simp
  generalize w.setCell ⟨S.drb, j, none⟩ (.int .u64 (f j + 1)) = w1 at *
  refine (mean_any S.drb S.drn S.drn (fun i => if i = j then f i + 1 else f i) w1 hn ?_ ?_ ?_).mono ?_
  · intro i hi; rw [D1.cell i, rowA_at _ _ _ hi]
  · intro i hi
    have := HF.out i hi
    show 0 ≤ (if i = j then f i + 1 else f i) ∧ (if i = j then f i + 1 else f i) ≤ _
    split <;> omega
  · have h1 := sumTo_ge (fun i => if i = j then f i + 1 else f i) j S.drn (fun i hi => by have := HF.out i hi; show 0 ≤ (if i = j then f i + 1 else f i); split <;> omega) hj
    have h2 := HF.out j hj
    simp only [if_true] at h1
    omega
  · rintro e w' ⟨rfl, rfl⟩
    have m1 : w1.cell? ⟨bs, 13, none⟩ = some (.pointer S.mean) := B1.cell 13
    have m2 := B1.frozen 13
    rw [← z1] at hb hdb
    clear d0 d1 f1 c0 fj
    generalize fdiv (totTo (fun i => if i = j then f i + 1 else f i) S.drn % 18446744073709551616) (sumTo (fun i => if i = j then f i + 1 else f i) S.drn) = q at *
    have X1 : Hid _ := D1
    have X2 : Hid _ := B1
    have X3 : Hid _ := z1
    clear D1 B1 z1 HE HF
    go_wp2
    refine H.out _ _ ⟨rfl, rfl⟩ ((K1.set _ (.inl (by simp))).alloc _) ?_ ?_ ?_
    · rw [← X3.out]; exact (IsB.set X2.out 13 _).alloc _
    · exact (IsB.off X1.out _ (fun e => hne e.symm)).alloc _
    · rw [← X3.out]
      have := IsB.new (w1.setCell ⟨bs, 13, none⟩ (.pointer (some ⟨w1.heap.size, 0, none⟩))) #[.float .f64 q] 54
      simpa using this

end Go.Proofs.Qxb6602526a
