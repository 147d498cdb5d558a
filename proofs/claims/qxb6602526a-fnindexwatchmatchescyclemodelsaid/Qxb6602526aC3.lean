import Derived.Test.Qxb6602526aC1
namespace Go.Proofs.Qxb6602526a
open Go.RowKit
set_option linter.unusedSimpArgs false
set_option linter.unusedVariables false

set_option maxRecDepth 10000 in
set_option maxHeartbeats 1000000 in
theorem o9 (b ib io rb ro n icap rcap : Nat) (p ck : Int) (T : AW) (a : Act) (w : World) (Q : Exit → Act → World → Prop) (hfr : Fr 128 a) (hs : Slots [(0, .pointer (some ⟨b, 0, none⟩)), (1, .int .u64 p), (2, .int .i64 ck), (3, .slice (some ⟨ib, io, none⟩) n icap), (4, .slice (some ⟨rb, ro, none⟩) n rcap), (14, .bool false)] a)
    (hB : IsB w b T.arr 88) (hQ : ∀ a' m, Fr 128 a' → Slots [(0, .pointer (some ⟨b, 0, none⟩)), (1, .int .u64 p), (2, .int .i64 ck), (3, .slice (some ⟨ib, io, none⟩) n icap), (4, .slice (some ⟨rb, ro, none⟩) n rcap), (14, .bool false), (59, .bool (T.cb && T.un && decide (T.fc ≤ T.cs)))] a' → Q .normal a' (w.drewN m)) :
    Code.wp Try.prog (hdC (hdC (thC (tlC (nthC 3 (bodyC Try.f35)))))) Q a w := by
  obtain ⟨u, hu, rfl⟩ := lay128 hfr
  obtain ⟨s0, s1, s2, s3, s4, s14, -⟩ := hs
  replace s0 : u 0 = .pointer (some ⟨b, 0, none⟩) := (hu 0).symm.trans s0
  replace s1 : u 1 = .int .u64 p := (hu 1).symm.trans s1
  replace s2 : u 2 = .int .i64 ck := (hu 2).symm.trans s2
  replace s3 : u 3 = .slice (some ⟨ib, io, none⟩) n icap := (hu 3).symm.trans s3
  replace s4 : u 4 = .slice (some ⟨rb, ro, none⟩) n rcap := (hu 4).symm.trans s4
  replace s14 : u 14 = .bool false := (hu 14).symm.trans s14
  rw [s0, s1, s2, s3, s4, s14]
  clear hfr hu s0 s1 s2 s3 s4 s14
  conv => arg 2; whnf
  obtain ⟨tfc, tcb, tun, tcs, tbit, tag, tinv, tany, tlast⟩ := T
  have b0 : w.cell? ⟨b, 0, none⟩ = some (.int .u64 tfc) := hB.cell 0
  have fz0 := hB.frozen 0
  have b1 : w.cell? ⟨b, 1, none⟩ = some (.bool tcb) := hB.cell 1
  have fz1 := hB.frozen 1
  have b2 : w.cell? ⟨b, 2, none⟩ = some (.bool tun) := hB.cell 2
  have fz2 := hB.frozen 2
  have b3 : w.cell? ⟨b, 3, none⟩ = some (.int .u64 tcs) := hB.cell 3
  have fz3 := hB.frozen 3
  have H : Hid _ := hQ
  clear hQ hB fz0 fz1 fz2 fz3
  cases tcb with
  | false =>
    go_wp2_with fail
    go_quiet (fail)
    go_wp2
    exact H.out _ _ ⟨rfl, rfl⟩ ⟨rfl, rfl, rfl, rfl, rfl, rfl, rfl, trivial⟩
  | true =>
    cases tun with
    | false =>
      go_wp2_with fail
      go_quiet (fail)
      go_wp2
      exact H.out _ _ ⟨rfl, rfl⟩ ⟨rfl, rfl, rfl, rfl, rfl, rfl, rfl, trivial⟩
    | true =>
      go_wp2_with fail
      go_quiet (fail)
      go_wp2
      exact H.out _ _ ⟨rfl, rfl⟩ ⟨rfl, rfl, rfl, rfl, rfl, rfl, rfl, trivial⟩

end Go.Proofs.Qxb6602526a
