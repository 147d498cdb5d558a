import Derived.Test.Qxb6602526aS4
namespace Go.Proofs.Qxb6602526a
open Go.RowKit
set_option linter.unusedSimpArgs false
set_option linter.unusedVariables false

/-- The frame of 'add' at the head of its loop. -/
structure AddH (bs bp br bn nn : Nat) (l : Int) (ad er : Bool) (k : Nat) (a : Act) : Prop where
  fr : Fr 213 a
  s0 : sl a 0 = .pointer (some ⟨bs, 0, none⟩)
  s5 : sl a 5 = .pointer (some ⟨bp, 0, none⟩)
  s6 : sl a 6 = .pointer (some ⟨br, 0, none⟩)
  s7 : sl a 7 = .int .u32 l
  s8 : sl a 8 = .bool ad
  s9 : sl a 9 = .bool er
  s53 : sl a 53 = .slice (some ⟨bn, 0, none⟩) nn nn
  s54 : sl a 54 = .int .i64 nn
  s55 : sl a 55 = .int .i64 k

theorem AddF.head {bs bp br bn nn bx : Nat} {l : Int} {ad er : Bool} {k : Nat} {a : Act} (h : AddF bs bp br bn nn bx l ad er k a) : AddH bs bp br bn nn l ad er k a :=
  ⟨h.fr, h.s0, h.s5, h.s6, h.s7, h.s8, h.s9, h.s53, h.s54, h.s55⟩

set_option maxRecDepth 10000 in
set_option maxHeartbeats 1000000 in
theorem add_r9 (bs bp br bn nn : Nat) (l : Int) (ad er : Bool) (k : Nat) (a : Act) (w : World) (Q : Exit → Act → World → Prop)
    (hf : AddH bs bp br bn nn l ad er k a) (hQ : ∀ a', AddH bs bp br bn nn l ad er k a' → sl a' 56 = .bool (decide (k < nn)) → Q .normal a' w) :
    Code.wp Try.prog (hdC (inC (inC (tlC (nthC 8 (bodyC Try.f34)))))) Q a w := by
  obtain ⟨fr, s0, s5, s6, s7, s8, s9, s53, s54, s55⟩ := hf
  obtain ⟨u, hu, rfl⟩ := lay213 fr
  rw [hu] at s0 s5 s6 s7 s8 s9 s53 s54 s55
  rw [s0, s5, s6, s7, s8, s9, s53, s54, s55]
  clear fr hu s0 s5 s6 s7 s8 s9 s53 s54 s55
  conv => arg 2; whnf
  have H : Hid _ := hQ
  clear hQ
  by_cases hlt : k < nn
  · have e : decide (k < nn) = true := by simpa using hlt
    rw [e] at H
    clear e
    go_wp2
    exact H.out _ ⟨⟨rfl, rfl⟩, rfl, rfl, rfl, rfl, rfl, rfl, rfl, rfl, rfl⟩ rfl
  · have e : decide (k < nn) = false := by simpa using hlt
    rw [e] at H
    clear e
    go_wp2
    exact H.out _ ⟨⟨rfl, rfl⟩, rfl, rfl, rfl, rfl, rfl, rfl, rfl, rfl, rfl⟩ rfl

theorem add_c56 (a : Act) (w : World) (Q : Exit → Act → World → Prop) (t : Bool) (h : sl a 56 = .bool t)
    (h1 : t = true → Q .normal a w) (h0 : t = false → Q (.exit 0) a w) :
    Code.wp Try.prog (hdC (tlC (inC (inC (tlC (nthC 8 (bodyC Try.f34))))))) Q a w :=
  wp_cond_split (c := .tmp 56) (t := t) h (fun e => wp_skip (h1 e)) (fun e => wp_exit (h0 e))

set_option maxRecDepth 10000 in
set_option maxHeartbeats 1000000 in
/-- Fragment: the node is loaded into a box of its own. -/
theorem add_load (bs bp br bn nn : Nat) (l : Int) (ad er : Bool) (k : Nat) (x : NodeD) (a : Act) (w : World) (Q : Exit → Act → World → Prop)
    (hf : AddH bs bp br bn nn l ad er k a) (hk : k < nn) (hnn : (nn : Int) ≤ 9223372036854775807) (hx : x.at w bn (k * 5))
    (hQ : ∀ a', AddF bs bp br bn nn w.heap.size l ad er k a' → Q .normal a' (w.alloc (.cells #[.int .i64 x.nd, .bool x.fa, .pointer (x.pa.map ptr), .pointer (x.rs.map ptr), .pointer (x.ro.map ptr)] 47))) :
    Code.wp Try.prog (hdC (inC (hdC (tlC (tlC (inC (inC (tlC (nthC 8 (bodyC Try.f34)))))))))) Q a w := by
  obtain ⟨fr, s0, s5, s6, s7, s8, s9, s53, s54, s55⟩ := hf
  obtain ⟨u, hu, rfl⟩ := lay213 fr
  rw [hu] at s0 s5 s6 s7 s8 s9 s53 s54 s55
  rw [s0, s5, s6, s7, s8, s9, s53, s54, s55]
  clear fr hu s0 s5 s6 s7 s8 s9 s53 s54 s55
  conv => arg 2; whnf
  have H : Hid _ := hQ
  clear hQ
  obtain ⟨x0, x1, x2, x3, x4⟩ := hx
  go_wp2
  exact H.out _ ⟨⟨rfl, rfl⟩, rfl, rfl, rfl, rfl, rfl, rfl, rfl, rfl, rfl, rfl⟩

set_option maxRecDepth 10000 in
set_option maxHeartbeats 1000000 in
/-- Fragment: is the node faulty? -/
theorem add_faulty (bs bp br bn nn bx : Nat) (l : Int) (ad er : Bool) (k : Nat) (fa : Bool) (a : Act) (w : World) (Q : Exit → Act → World → Prop)
    (hf : AddF bs bp br bn nn bx l ad er k a) (hc : w.cell? ⟨bx, 1, none⟩ = some (.bool fa))
    (h1 : ∀ a', fa = true → AddF bs bp br bn nn bx l ad er k a' → Q (.exit 1) a' w) (h0 : ∀ a', fa = false → AddF bs bp br bn nn bx l ad er k a' → Q .normal a' w) :
    Code.wp Try.prog (hdC (tlC (inC (hdC (tlC (tlC (inC (inC (tlC (nthC 8 (bodyC Try.f34))))))))))) Q a w := by
  obtain ⟨fr, s0, s5, s6, s7, s8, s9, s11, s53, s54, s55⟩ := hf
  obtain ⟨u, hu, rfl⟩ := lay213 fr
  rw [hu] at s0 s5 s6 s7 s8 s9 s11 s53 s54 s55
  rw [s0, s5, s6, s7, s8, s9, s11, s53, s54, s55]
  clear fr hu s0 s5 s6 s7 s8 s9 s11 s53 s54 s55
  conv => arg 2; whnf
  have H1 : Hid _ := h1
  have H0 : Hid _ := h0
  clear h1 h0
  cases fa
  · go_wp2
    exact H0.out _ trivial ⟨⟨rfl, rfl⟩, rfl, rfl, rfl, rfl, rfl, rfl, rfl, rfl, rfl, rfl⟩
  · go_wp2
    exact H1.out _ trivial ⟨⟨rfl, rfl⟩, rfl, rfl, rfl, rfl, rfl, rfl, rfl, rfl, rfl, rfl⟩

set_option maxRecDepth 10000 in
set_option maxHeartbeats 1000000 in
/-- Fragment: on to the next node. -/
theorem add_next (bs bp br bn nn : Nat) (l : Int) (ad er : Bool) (k : Nat) (a : Act) (w : World) (Q : Exit → Act → World → Prop)
    (hf : AddH bs bp br bn nn l ad er k a) (hk : (k : Int) < 9223372036854775807) (hQ : ∀ a', AddH bs bp br bn nn l ad er (k + 1) a' → Q .normal a' w) :
    Code.wp Try.prog (tlC (tlC (tlC (inC (inC (tlC (nthC 8 (bodyC Try.f34)))))))) Q a w := by
  obtain ⟨fr, s0, s5, s6, s7, s8, s9, s53, s54, s55⟩ := hf
  obtain ⟨u, hu, rfl⟩ := lay213 fr
  rw [hu] at s0 s5 s6 s7 s8 s9 s53 s54 s55
  rw [s0, s5, s6, s7, s8, s9, s53, s54, s55]
  clear fr hu s0 s5 s6 s7 s8 s9 s53 s54 s55
  conv => arg 2; whnf
  have H : Hid _ := hQ
  clear hQ
  go_wp2
  exact H.out _ ⟨⟨rfl, rfl⟩, rfl, rfl, rfl, rfl, rfl, rfl, rfl, rfl, rfl⟩

end Go.Proofs.Qxb6602526a
