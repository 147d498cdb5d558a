import Derived.Test.Qxb6602526aS7
import Derived.Test.Qxb6602526aS8
namespace Go.Proofs.Qxb6602526a
open Go.RowKit
set_option linter.unusedSimpArgs false
set_option linter.unusedVariables false

theorem Try.info97 : (Try.prog.info? 97).map (fun i => (i.zero, i.size, i.bytes)) = some (some (.agg #[.bool false, .bool false]), 2, 2) := by kernel_rfl

set_option maxRecDepth 10000 in
set_option maxHeartbeats 1000000 in
theorem add_p5 (bs bx : Nat) (first : Bool) (w : World) (Q : Exit → Act → World → Prop) (a : Act) (hf : AddP bs bx first a)
    (hQ : ∀ a', AddP bs bx first a' → sl a' 5 = .pointer (some ⟨w.heap.size, 0, none⟩) → sl a' 6 = .pointer (some ⟨w.heap.size + 1, 0, none⟩) → Q .normal a' ((w.alloc (.cells (two false false) 97)).alloc (.cells (two false false) 97))) :
    Code.wp Try.prog (nthC 5 (bodyC Try.f34)) Q a w := by
  obtain ⟨fr, s0, s3, s4⟩ := hf
  obtain ⟨u, hu, rfl⟩ := lay213 fr
  rw [hu] at s0 s3 s4
  rw [s0, s3, s4]
  clear fr hu s0 s3 s4
  conv => arg 2; whnf
  have H : Hid _ := hQ
  clear hQ
  unfold two at *
  go_wp2
  exact H.out _ ⟨⟨rfl, rfl⟩, rfl, rfl, rfl⟩ rfl rfl

set_option maxRecDepth 10000 in
set_option maxHeartbeats 1000000 in
theorem add_p67 (bs bx bp br : Nat) (first : Bool) (w : World) (Q : Exit → Act → World → Prop) (a : Act) (hf : AddP bs bx first a) (s5 : sl a 5 = .pointer (some ⟨bp, 0, none⟩)) (s6 : sl a 6 = .pointer (some ⟨br, 0, none⟩))
    (hQ : ∀ a', AddP bs bx first a' → sl a' 5 = .pointer (some ⟨bp, 0, none⟩) → sl a' 6 = .pointer (some ⟨br, 0, none⟩) → sl a' 7 = .int .u32 0 → Q .normal a' w) :
    Code.wp Try.prog (nthC 6 (bodyC Try.f34)) Q a w := by
  obtain ⟨fr, s0, s3, s4⟩ := hf
  obtain ⟨u, hu, rfl⟩ := lay213 fr
  rw [hu] at s0 s3 s4 s5 s6
  rw [s0, s3, s4, s5, s6]
  clear fr hu s0 s3 s4 s5 s6
  conv => arg 2; whnf
  have H : Hid _ := hQ
  clear hQ
  go_wp2
  exact H.out _ ⟨⟨rfl, rfl⟩, rfl, rfl, rfl⟩ rfl rfl rfl

set_option maxRecDepth 10000 in
set_option maxHeartbeats 1000000 in
theorem add_p7 (bs bx bp br : Nat) (first : Bool) (w : World) (Q : Exit → Act → World → Prop) (a : Act) (hf : AddP bs bx first a) (s5 : sl a 5 = .pointer (some ⟨bp, 0, none⟩)) (s6 : sl a 6 = .pointer (some ⟨br, 0, none⟩)) (s7 : sl a 7 = .int .u32 0)
    (hQ : ∀ a', AddP bs bx first a' → sl a' 5 = .pointer (some ⟨bp, 0, none⟩) → sl a' 6 = .pointer (some ⟨br, 0, none⟩) → sl a' 7 = .int .u32 0 → sl a' 8 = .bool true → sl a' 9 = .bool false → Q .normal a' w) :
    Code.wp Try.prog (nthC 7 (bodyC Try.f34)) Q a w := by
  obtain ⟨fr, s0, s3, s4⟩ := hf
  obtain ⟨u, hu, rfl⟩ := lay213 fr
  rw [hu] at s0 s3 s4 s5 s6 s7
  rw [s0, s3, s4, s5, s6, s7]
  clear fr hu s0 s3 s4 s5 s6 s7
  conv => arg 2; whnf
  have H : Hid _ := hQ
  clear hQ
  go_wp2
  exact H.out _ ⟨⟨rfl, rfl⟩, rfl, rfl, rfl⟩ rfl rfl rfl rfl rfl

set_option maxRecDepth 10000 in
set_option maxHeartbeats 1000000 in
theorem add_p8 (bs bx bp br bn nn : Nat) (ino : Int) (rr sr : Option Addr) (first : Bool) (w : World) (Q : Exit → Act → World → Prop) (a : Act) (hf : AddP bs bx first a) (s5 : sl a 5 = .pointer (some ⟨bp, 0, none⟩)) (s6 : sl a 6 = .pointer (some ⟨br, 0, none⟩)) (s7 : sl a 7 = .int .u32 0) (s8 : sl a 8 = .bool true) (s9 : sl a 9 = .bool false)
    (hX : IsB w bx (instA ino bn nn rr sr) 50) (hQ : ∀ a', AddH bs bp br bn nn 0 true false 0 a' → Q .normal a' w) :
    Code.wp Try.prog (hdC (nthC 8 (bodyC Try.f34))) Q a w := by
  obtain ⟨fr, s0, s3, s4⟩ := hf
  obtain ⟨u, hu, rfl⟩ := lay213 fr
  rw [hu] at s0 s3 s4 s5 s6 s7 s8 s9
  rw [s0, s3, s4, s5, s6, s7, s8, s9]
  clear fr hu s0 s3 s4 s5 s6 s7 s8 s9
  conv => arg 2; whnf
  have H : Hid _ := hQ
  have c1 : w.cell? ⟨bx, 1, none⟩ = some (.slice (some ⟨bn, 0, none⟩) nn nn) := hX.cell 1
  clear hQ hX
  go_wp2
  exact H.out _ ⟨⟨rfl, rfl⟩, rfl, rfl, rfl, rfl, rfl, rfl, rfl, rfl, rfl⟩

/-- The Summary behind an 'add', its figures of the decision rounds apart. -/
def SumS.added (S : SumS) (N : Nat → NodeD) (nn : Nat) (r s : Option Addr) : SumS :=
  let r0 := anyTo (fun i => reports 1 (N i)) nn
  let r1 := anyTo (fun i => reports 2 (N i)) nn
  let T := ({ S with inst := IntKind.u64.wrap (S.inst + 1), rmax := r, smax := s } : SumS).after N nn
  { T with dis := inc64 (r0 && r1) S.dis, ei := inc64 (anyTo (fun i => reports 3 (N i)) nn) S.ei }

theorem enterFr (n : Nat) (vs : List Value) (h : vs.length = n) : Fr n ⟨vs.toArray, []⟩ := ⟨by simpa using h, rfl⟩

end Go.Proofs.Qxb6602526a
