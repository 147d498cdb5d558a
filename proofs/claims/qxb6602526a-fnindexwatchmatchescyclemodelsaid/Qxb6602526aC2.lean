import Derived.Test.Qxb6602526aC1
namespace Go.Proofs.Qxb6602526a
open Go.RowKit
set_option linter.unusedSimpArgs false
set_option linter.unusedVariables false

set_option maxRecDepth 10000 in
set_option maxHeartbeats 1000000 in
theorem o23 (b ib io rb ro n icap rcap : Nat) (p ck : Int) (iv : Bool) (T : AW) (a : Act) (w : World) (Q : Exit → Act → World → Prop) (hfr : Fr 128 a) (hs : Slots [(0, .pointer (some ⟨b, 0, none⟩)), (1, .int .u64 p), (2, .int .i64 ck), (3, .slice (some ⟨ib, io, none⟩) n icap), (4, .slice (some ⟨rb, ro, none⟩) n rcap), (14, .bool iv)] a)
    (hB : IsB w b T.arr 88) (hQ : ∀ a' w', Fr 128 a' → Slots [(0, .pointer (some ⟨b, 0, none⟩)), (1, .int .u64 p), (2, .int .i64 ck), (3, .slice (some ⟨ib, io, none⟩) n icap), (4, .slice (some ⟨rb, ro, none⟩) n rcap), (14, .bool iv)] a' → Kept [b] w w' → IsB w' b { T with inv := T.inv || iv }.arr 88 → Q .normal a' w') :
    Code.wp Try.prog (nthC 4 (bodyC Try.f35)) Q a w := by
  obtain ⟨u, hu, rfl⟩ := lay128 hfr
  obtain ⟨s0, s1, s2, s3, s4, s14, -⟩ := hs
  replace s0 : u 0 = .pointer (some ⟨b, 0, none⟩) := (hu 0).symm.trans s0
  replace s1 : u 1 = .int .u64 p := (hu 1).symm.trans s1
  replace s2 : u 2 = .int .i64 ck := (hu 2).symm.trans s2
  replace s3 : u 3 = .slice (some ⟨ib, io, none⟩) n icap := (hu 3).symm.trans s3
  replace s4 : u 4 = .slice (some ⟨rb, ro, none⟩) n rcap := (hu 4).symm.trans s4
  replace s14 : u 14 = .bool iv := (hu 14).symm.trans s14
  rw [s0, s1, s2, s3, s4, s14]
  clear hfr hu s0 s1 s2 s3 s4 s14
  conv => arg 2; whnf
  obtain ⟨tfc, tcb, tun, tcs, tbit, tag, tinv, tany, tlast⟩ := T
  have b6 : w.cell? ⟨b, 6, none⟩ = some (.bool tinv) := hB.cell 6
  have fz6 := hB.frozen 6
  have HB : Hid _ := hB
  have H : Hid _ := hQ
  clear hQ hB
  cases tinv <;> cases iv
  all_goals
    go_wp2
    exact H.out _ _ ⟨rfl, rfl⟩ ⟨rfl, rfl, rfl, rfl, rfl, rfl, trivial⟩ ((Kept.refl _ _).set _ (.inl (by simp))) (IsB.set (IsB.as HB.out) 6 _)

set_option maxRecDepth 10000 in
set_option maxHeartbeats 1000000 in
theorem o24 (b ib io rb ro n icap rcap : Nat) (p ck : Int) (iv : Bool) (T : AW) (a : Act) (w : World) (Q : Exit → Act → World → Prop) (hfr : Fr 128 a) (hs : Slots [(0, .pointer (some ⟨b, 0, none⟩)), (1, .int .u64 p), (2, .int .i64 ck), (3, .slice (some ⟨ib, io, none⟩) n icap), (4, .slice (some ⟨rb, ro, none⟩) n rcap), (14, .bool iv)] a)
    (hB : IsB w b T.arr 88) (hQ : ∀ a', Fr 128 a' → Slots [(0, .pointer (some ⟨b, 0, none⟩)), (1, .int .u64 p), (2, .int .i64 ck), (3, .slice (some ⟨ib, io, none⟩) n icap), (4, .slice (some ⟨rb, ro, none⟩) n rcap), (14, .bool iv), (122, .bool (!T.ag || iv))] a' → Q .normal a' w) :
    Code.wp Try.prog (nthC 5 (bodyC Try.f35)) Q a w := by
  obtain ⟨u, hu, rfl⟩ := lay128 hfr
  obtain ⟨s0, s1, s2, s3, s4, s14, -⟩ := hs
  replace s0 : u 0 = .pointer (some ⟨b, 0, none⟩) := (hu 0).symm.trans s0
  replace s1 : u 1 = .int .u64 p := (hu 1).symm.trans s1
  replace s2 : u 2 = .int .i64 ck := (hu 2).symm.trans s2
  replace s3 : u 3 = .slice (some ⟨ib, io, none⟩) n icap := (hu 3).symm.trans s3
  replace s4 : u 4 = .slice (some ⟨rb, ro, none⟩) n rcap := (hu 4).symm.trans s4
  replace s14 : u 14 = .bool iv := (hu 14).symm.trans s14
  rw [s0, s1, s2, s3, s4, s14]
  clear hfr hu s0 s1 s2 s3 s4 s14
  conv => arg 2; whnf
  obtain ⟨tfc, tcb, tun, tcs, tbit, tag, tinv, tany, tlast⟩ := T
  have b5 : w.cell? ⟨b, 5, none⟩ = some (.bool tag) := hB.cell 5
  have fz5 := hB.frozen 5
  have H : Hid _ := hQ
  clear hQ hB
  cases tag <;> cases iv
  all_goals
    go_wp2
    exact H.out _ ⟨rfl, rfl⟩ ⟨rfl, rfl, rfl, rfl, rfl, rfl, rfl, trivial⟩

set_option maxRecDepth 10000 in
set_option maxHeartbeats 1000000 in
theorem o25 (b ib io rb ro n icap rcap : Nat) (p ck : Int) (T : AW) (a : Act) (w : World) (Q : Exit → Act → World → Prop) (hfr : Fr 128 a) (hs : Slots [(0, .pointer (some ⟨b, 0, none⟩)), (1, .int .u64 p), (2, .int .i64 ck), (3, .slice (some ⟨ib, io, none⟩) n icap), (4, .slice (some ⟨rb, ro, none⟩) n rcap)] a)
    (hB : IsB w b T.arr 88) (hQ : ∀ a' w', Fr 128 a' → Kept [b] w w' → IsB w' b { T with any := true, last := p }.arr 88 → Q .normal a' w') :
    Code.wp Try.prog (thC (dropC 6 (bodyC Try.f35))) Q a w := by
  obtain ⟨u, hu, rfl⟩ := lay128 hfr
  obtain ⟨s0, s1, s2, s3, s4, -⟩ := hs
  replace s0 : u 0 = .pointer (some ⟨b, 0, none⟩) := (hu 0).symm.trans s0
  replace s1 : u 1 = .int .u64 p := (hu 1).symm.trans s1
  replace s2 : u 2 = .int .i64 ck := (hu 2).symm.trans s2
  replace s3 : u 3 = .slice (some ⟨ib, io, none⟩) n icap := (hu 3).symm.trans s3
  replace s4 : u 4 = .slice (some ⟨rb, ro, none⟩) n rcap := (hu 4).symm.trans s4
  rw [s0, s1, s2, s3, s4]
  clear hfr hu s0 s1 s2 s3 s4
  conv => arg 2; whnf
  have HM : Hid _ := mark_calls b 7 (.bool T.any) (.int .u64 T.last) p w (hB.cell 7) (hB.cell 8) (hB.frozen 7) (hB.frozen 8)
  have HB : Hid _ := hB
  have H : Hid _ := hQ
  clear hQ hB
  go_wp2_with (go_at_call 43; refine Calls.mono HM.out ?_; rintro e w' ⟨rfl, rfl⟩)
  exact H.out _ _ ⟨rfl, rfl⟩ (((Kept.refl _ _).set _ (.inl (by simp))).set _ (.inl (by simp))) (IsB.set (IsB.set (IsB.as HB.out) 7 _) 8 _)

end Go.Proofs.Qxb6602526a
