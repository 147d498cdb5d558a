import Derived.Test.Qxb6602526aS6
import Derived.Deep.RegionWith
namespace Go.Proofs.Qxb6602526a
open Go.RowKit
set_option linter.unusedSimpArgs false
set_option linter.unusedVariables false

/-- What 'maxOrNil' hands back; it turns nothing. -/
def MaxGives (first : Bool) (l v r : Option Addr) (w : World) : Prop :=
  Calls Try.prog 40 #[.pointer l, .pointer v, .bool first] w fun e w' => e = .returned (.pointer r) ∧ ∃ n, w' = w.drewN n

/-- The instance in its box. -/
def instA (ino : Int) (bn nn : Nat) (rr sr : Option Addr) : Array Value := #[.int .u64 ino, .slice (some ⟨bn, 0, none⟩) nn nn, .pointer rr, .pointer sr]

/-- The frame of 'add' ahead of its loop. -/
structure AddP (bs bx : Nat) (first : Bool) (a : Act) : Prop where
  fr : Fr 213 a
  s0 : sl a 0 = .pointer (some ⟨bs, 0, none⟩)
  s3 : sl a 3 = .pointer (some ⟨bx, 0, none⟩)
  s4 : sl a 4 = .bool first

set_option maxRecDepth 10000 in
set_option maxHeartbeats 1000000 in
theorem add_p0 (bs bn nn : Nat) (ino : Int) (rr sr : Option Addr) (w : World) (Q : Exit → Act → World → Prop) (a : Act)
    (hfr : Fr 213 a) (s0 : sl a 0 = .pointer (some ⟨bs, 0, none⟩)) (s1 : sl a 1 = .agg (instA ino bn nn rr sr))
    (hQ : ∀ a', Fr 213 a' → sl a' 0 = .pointer (some ⟨bs, 0, none⟩) → sl a' 3 = .pointer (some ⟨w.heap.size, 0, none⟩) → Q .normal a' (w.alloc (.cells (instA ino bn nn rr sr) 50))) :
    Code.wp Try.prog (nthC 0 (bodyC Try.f34)) Q a w := by
  obtain ⟨u, hu, rfl⟩ := lay213 hfr
  rw [hu] at s0 s1
  rw [s0, s1]
  clear hfr hu s0 s1
  have H : Hid _ := hQ
  clear hQ
  unfold instA at *
  conv => arg 2; whnf
  go_wp2
  exact H.out _ ⟨rfl, rfl⟩ rfl rfl

set_option maxRecDepth 10000 in
set_option maxHeartbeats 1000000 in
theorem add_p1 (S : SumS) (bs bx : Nat) (w : World) (Q : Exit → Act → World → Prop) (a : Act)
    (hfr : Fr 213 a) (s0 : sl a 0 = .pointer (some ⟨bs, 0, none⟩)) (s3 : sl a 3 = .pointer (some ⟨bx, 0, none⟩)) (hB : IsB w bs S.arr 41)
    (hQ : ∀ a', AddP bs bx (S.inst == 0) a' → Q .normal a' w) :
    Code.wp Try.prog (nthC 1 (bodyC Try.f34)) Q a w := by
  obtain ⟨u, hu, rfl⟩ := lay213 hfr
  rw [hu] at s0 s3
  rw [s0, s3]
  clear hfr hu s0 s3
  have c5 : w.cell? ⟨bs, 5, none⟩ = some (.int .u64 S.inst) := hB.cell 5
  have H : Hid _ := hQ
  clear hQ hB
  conv => arg 2; whnf
  go_wp2
  exact H.out _ ⟨⟨rfl, rfl⟩, rfl, rfl, rfl⟩

set_option maxRecDepth 10000 in
set_option maxHeartbeats 1000000 in
theorem add_p2 (S : SumS) (bs bx : Nat) (first : Bool) (w : World) (Q : Exit → Act → World → Prop) (a : Act)
    (hf : AddP bs bx first a) (hB : IsB w bs S.arr 41)
    (hQ : ∀ a' w', AddP bs bx first a' → Kept [bs] w w' → w'.heap.size = w.heap.size → IsB w' bs { S with inst := IntKind.u64.wrap (S.inst + 1) }.arr 41 → Q .normal a' w') :
    Code.wp Try.prog (nthC 2 (bodyC Try.f34)) Q a w := by
  obtain ⟨fr, s0, s3, s4⟩ := hf
  obtain ⟨u, hu, rfl⟩ := lay213 fr
  rw [hu] at s0 s3 s4
  rw [s0, s3, s4]
  clear fr hu s0 s3 s4
  conv => arg 2; whnf
  have c5 : w.cell? ⟨bs, 5, none⟩ = some (.int .u64 S.inst) := hB.cell 5
  have f5 := hB.frozen 5
  have HB : Hid _ := hB
  have H : Hid _ := hQ
  clear hQ hB
  go_wp2
  exact H.out _ _ ⟨⟨rfl, rfl⟩, rfl, rfl, rfl⟩ ((Kept.refl _ _).set _ (.inl (by simp))) (by simp) (IsB.set HB.out 5 _)

set_option maxRecDepth 10000 in
set_option maxHeartbeats 1000000 in
theorem add_p3 (S : SumS) (bs bx bn nn : Nat) (ino : Int) (rr sr r : Option Addr) (first : Bool) (w : World) (Q : Exit → Act → World → Prop) (a : Act)
    (hf : AddP bs bx first a) (hB : IsB w bs S.arr 41) (hX : IsB w bx (instA ino bn nn rr sr) 50) (hne : bx ≠ bs)
    (hm : MaxGives first S.rmax rr r w.drew)
    (hQ : ∀ a' w', AddP bs bx first a' → Kept [bs] w w' → w'.heap.size = w.heap.size → IsB w' bs { S with rmax := r }.arr 41 → Q .normal a' w') :
    Code.wp Try.prog (nthC 3 (bodyC Try.f34)) Q a w := by
  obtain ⟨fr, s0, s3, s4⟩ := hf
  obtain ⟨u, hu, rfl⟩ := lay213 fr
  rw [hu] at s0 s3 s4
  rw [s0, s3, s4]
  clear fr hu s0 s3 s4
  conv => arg 2; whnf
  have c5 : w.cell? ⟨bs, 21, none⟩ = some (.pointer S.rmax) := hB.cell 21
  have c6 : w.cell? ⟨bx, 2, none⟩ = some (.pointer rr) := hX.cell 2
  have f5 := hB.frozen 21
  refine wp_np (R := fun a' w' => AddP bs bx first a' ∧ Kept [bs] w w' ∧ w'.heap.size = w.heap.size ∧ IsB w' bs { S with rmax := r }.arr 41) ?_ (fun a' w' h => hQ a' w' h.1 h.2.1 h.2.2.1 h.2.2.2)
  have HB : Hid _ := hB
  have HM : Hid _ := hm
  clear hQ hB hX hm
  go_region_with (go_at_call 40; refine Calls.mono HM.out ?_; rintro e w' ⟨rfl, n, rfl⟩)
  all_goals
    exact ⟨⟨⟨rfl, rfl⟩, rfl, rfl, rfl⟩, Kept.drewN ((Kept.refl _ _).set _ (.inl (by simp))) _, by simp, IsB.drewN (IsB.set HB.out 21 _) _⟩

set_option maxRecDepth 10000 in
set_option maxHeartbeats 1000000 in
theorem add_p4 (S : SumS) (bs bx bn nn : Nat) (ino : Int) (rr sr r : Option Addr) (first : Bool) (w : World) (Q : Exit → Act → World → Prop) (a : Act)
    (hf : AddP bs bx first a) (hB : IsB w bs S.arr 41) (hX : IsB w bx (instA ino bn nn rr sr) 50) (hne : bx ≠ bs)
    (hm : MaxGives first S.smax sr r w.drew)
    (hQ : ∀ a' w', AddP bs bx first a' → Kept [bs] w w' → w'.heap.size = w.heap.size → IsB w' bs { S with smax := r }.arr 41 → Q .normal a' w') :
    Code.wp Try.prog (nthC 4 (bodyC Try.f34)) Q a w := by
  obtain ⟨fr, s0, s3, s4⟩ := hf
  obtain ⟨u, hu, rfl⟩ := lay213 fr
  rw [hu] at s0 s3 s4
  rw [s0, s3, s4]
  clear fr hu s0 s3 s4
  conv => arg 2; whnf
  have c5 : w.cell? ⟨bs, 22, none⟩ = some (.pointer S.smax) := hB.cell 22
  have c6 : w.cell? ⟨bx, 3, none⟩ = some (.pointer sr) := hX.cell 3
  have f5 := hB.frozen 22
  refine wp_np (R := fun a' w' => AddP bs bx first a' ∧ Kept [bs] w w' ∧ w'.heap.size = w.heap.size ∧ IsB w' bs { S with smax := r }.arr 41) ?_ (fun a' w' h => hQ a' w' h.1 h.2.1 h.2.2.1 h.2.2.2)
  have HB : Hid _ := hB
  have HM : Hid _ := hm
  clear hQ hB hX hm
  go_region_with (go_at_call 40; refine Calls.mono HM.out ?_; rintro e w' ⟨rfl, n, rfl⟩)
  all_goals
    exact ⟨⟨⟨rfl, rfl⟩, rfl, rfl, rfl⟩, Kept.drewN ((Kept.refl _ _).set _ (.inl (by simp))) _, by simp, IsB.drewN (IsB.set HB.out 22 _) _⟩

end Go.Proofs.Qxb6602526a
