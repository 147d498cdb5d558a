import Derived.Test.Qxb6602526aB6
namespace Go.Proofs.Qxb6602526a
open Go.RowKit
set_option linter.unusedSimpArgs false
set_option linter.unusedVariables false

theorem l3_p3' (m K : Nat) (x1 x2 x3 x4 x5 : Option Addr) (bs : Nat) (k b17 b18 b19 b5 : Nat) (rd : Int) (a : Act) (w : World) (Q : Exit → Act → World → Prop) (hfr : Fr 285 a) (hs : Slots [(0, .int .u32 (m : Nat)), (1, .slice x1 K K), (2, .slice x2 K K), (3, .slice x3 K K), (4, .slice x4 K K), (5, .slice x5 K K), (13, .int .i64 (K : Nat)), (15, .pointer (some ⟨bs, 0, none⟩)), (16, .int .i64 (k : Nat)), (19, .pointer (some ⟨b19, 0, none⟩))] a)
    (hk : k < K) (hx : x5 = some ⟨b5, 0, none⟩) (hc : w.cell? ⟨b5, k, none⟩ = some (.int .u32 rd)) (hrd : 0 ≤ rd) (hb5 : b5 < w.heap.size) (hN : IsB w b19 #[.int .i64 0, .bool false, .pointer (some ⟨b17, 0, none⟩), .pointer (some ⟨b18, 0, none⟩), .pointer none] 47)
    (hQ : ∀ a' w' (ro : Option Nat), RoOK ro rd → (∀ b, ro = some b → w.heap.size ≤ b ∧ IsB w' b #[.int .u32 rd] 22) → Kept [b19] w w' → IsB w' b19 #[.int .i64 0, .bool false, .pointer (some ⟨b17, 0, none⟩), .pointer (some ⟨b18, 0, none⟩), .pointer (ro.map ptr)] 47 → Fr 285 a' → Slots [(0, .int .u32 (m : Nat)), (1, .slice x1 K K), (2, .slice x2 K K), (3, .slice x3 K K), (4, .slice x4 K K), (5, .slice x5 K K), (13, .int .i64 (K : Nat)), (15, .pointer (some ⟨bs, 0, none⟩)), (16, .int .i64 (k : Nat)), (19, .pointer (some ⟨b19, 0, none⟩))] a' → Q .normal a' w') :
    Code.wp Try.prog (nthC 3 (inC (hdC (tlC (inC (inC (tlC (nthC 14 (bodyC Try.f3))))))))) Q a w :=
  l3_p3 _ _ _ _ _ _ _ _ _ _ _ _ b5 rd a w Q hfr hs hk hx hc hb5 hN
    (fun a' hz f s => hQ a' w none (.inl ⟨rfl, hz⟩) (fun b e => by cases e) (Kept.refl _ _) hN f s)
    (fun a' w' hz f s kp h1 h2 => hQ a' w' (some w.heap.size) (.inr ⟨rfl, by omega⟩) (fun b e => by cases e; exact ⟨Nat.le_refl _, h2⟩) kp h1 f s)

theorem l3_p5' (m K : Nat) (x1 x2 x3 x4 x5 : Option Addr) (bs : Nat) (X : List Nat) (k b21 nb vb mb : Nat) (sr : Option Addr) (miss : Bool) (v : Int) (a : Act) (w : World) (Q : Exit → Act → World → Prop) (hfr : Fr 285 a) (hs : Slots [(0, .int .u32 (m : Nat)), (1, .slice x1 K K), (2, .slice x2 K K), (3, .slice x3 K K), (4, .slice x4 K K), (5, .slice x5 K K), (13, .int .i64 (K : Nat)), (15, .pointer (some ⟨bs, 0, none⟩)), (16, .int .i64 (k : Nat)), (21, .pointer (some ⟨b21, 0, none⟩))] a)
    (hk : k < K) (hx : x2 = some ⟨mb, 0, none⟩) (hv : x1 = some ⟨vb, 0, none⟩) (hm : w.cell? ⟨mb, k, none⟩ = some (.bool miss)) (hc : w.cell? ⟨vb, k, none⟩ = some (.int .u64 v)) (hmb : mb < w.heap.size) (hvb : vb < w.heap.size) (hI : IsB w b21 (instA k nb 1 none sr) 50) (hX : w.heap.size ∉ X)
    (hQ : ∀ a' w' vp, VAt X vp v miss w' → Kept [b21] w w' → IsB w' b21 (instA k nb 1 vp sr) 50 → Fr 285 a' → Slots [(0, .int .u32 (m : Nat)), (1, .slice x1 K K), (2, .slice x2 K K), (3, .slice x3 K K), (4, .slice x4 K K), (5, .slice x5 K K), (13, .int .i64 (K : Nat)), (15, .pointer (some ⟨bs, 0, none⟩)), (16, .int .i64 (k : Nat)), (21, .pointer (some ⟨b21, 0, none⟩))] a' → Q .normal a' w') :
    Code.wp Try.prog (nthC 5 (inC (hdC (tlC (inC (inC (tlC (nthC 14 (bodyC Try.f3))))))))) Q a w :=
  l3_p5 _ _ _ _ _ _ _ _ _ b21 nb vb mb _ _ miss v a w Q hfr hs hk hx hv hm hc hmb hvb hI
    (fun a' hz f s => hQ a' w none ⟨fun _ => rfl, fun e => by rw [hz] at e; cases e⟩ (Kept.refl _ _) hI f s)
    (fun a' w' hz f s kp h1 h2 => hQ a' w' _ ⟨(fun e => by rw [hz] at e; cases e), fun _ => ⟨_, rfl, hX, h2⟩⟩ kp h1 f s)

theorem l3_p6' (m K : Nat) (x1 x2 x3 x4 x5 : Option Addr) (bs : Nat) (X : List Nat) (k b21 nb vb mb : Nat) (rr : Option Addr) (miss : Bool) (v : Int) (a : Act) (w : World) (Q : Exit → Act → World → Prop) (hfr : Fr 285 a) (hs : Slots [(0, .int .u32 (m : Nat)), (1, .slice x1 K K), (2, .slice x2 K K), (3, .slice x3 K K), (4, .slice x4 K K), (5, .slice x5 K K), (13, .int .i64 (K : Nat)), (15, .pointer (some ⟨bs, 0, none⟩)), (16, .int .i64 (k : Nat)), (21, .pointer (some ⟨b21, 0, none⟩))] a)
    (hk : k < K) (hx : x4 = some ⟨mb, 0, none⟩) (hv : x3 = some ⟨vb, 0, none⟩) (hm : w.cell? ⟨mb, k, none⟩ = some (.bool miss)) (hc : w.cell? ⟨vb, k, none⟩ = some (.int .u64 v)) (hmb : mb < w.heap.size) (hvb : vb < w.heap.size) (hI : IsB w b21 (instA k nb 1 rr none) 50) (hX : w.heap.size ∉ X)
    (hQ : ∀ a' w' vp, VAt X vp v miss w' → Kept [b21] w w' → IsB w' b21 (instA k nb 1 rr vp) 50 → Fr 285 a' → Slots [(0, .int .u32 (m : Nat)), (1, .slice x1 K K), (2, .slice x2 K K), (3, .slice x3 K K), (4, .slice x4 K K), (5, .slice x5 K K), (13, .int .i64 (K : Nat)), (15, .pointer (some ⟨bs, 0, none⟩)), (16, .int .i64 (k : Nat)), (21, .pointer (some ⟨b21, 0, none⟩))] a' → Q .normal a' w') :
    Code.wp Try.prog (nthC 6 (inC (hdC (tlC (inC (inC (tlC (nthC 14 (bodyC Try.f3))))))))) Q a w :=
  l3_p6 _ _ _ _ _ _ _ _ _ b21 nb vb mb _ _ miss v a w Q hfr hs hk hx hv hm hc hmb hvb hI
    (fun a' hz f s => hQ a' w none ⟨fun _ => rfl, fun e => by rw [hz] at e; cases e⟩ (Kept.refl _ _) hI f s)
    (fun a' w' hz f s kp h1 h2 => hQ a' w' _ ⟨(fun e => by rw [hz] at e; cases e), fun _ => ⟨_, rfl, hX, h2⟩⟩ kp h1 f s)

/-- The rows of the copies. -/
structure RowsOK (K : Nat) (x1 x2 x3 x4 x5 : Option Addr) (c1 c2 c3 c4 c5 : Nat) (rd f1 f2 : Nat → Int) (n1 n2 : Nat → Bool) (w : World) : Prop where
  p1 : 0 < K → x1 = some ⟨c1, 0, none⟩ ∧ c1 < w.heap.size
  p2 : 0 < K → x2 = some ⟨c2, 0, none⟩ ∧ c2 < w.heap.size
  p3 : 0 < K → x3 = some ⟨c3, 0, none⟩ ∧ c3 < w.heap.size
  p4 : 0 < K → x4 = some ⟨c4, 0, none⟩ ∧ c4 < w.heap.size
  p5 : 0 < K → x5 = some ⟨c5, 0, none⟩ ∧ c5 < w.heap.size
  r1 : ∀ k, k < K → w.cell? ⟨c1, k, none⟩ = some (.int .u64 (f1 k))
  r2 : ∀ k, k < K → w.cell? ⟨c2, k, none⟩ = some (.bool (n1 k))
  r3 : ∀ k, k < K → w.cell? ⟨c3, k, none⟩ = some (.int .u64 (f2 k))
  r4 : ∀ k, k < K → w.cell? ⟨c4, k, none⟩ = some (.bool (n2 k))
  r5 : ∀ k, k < K → w.cell? ⟨c5, k, none⟩ = some (.int .u32 (rd k))
theorem RowsOK.keep {K : Nat} {x1 x2 x3 x4 x5 : Option Addr} {c1 c2 c3 c4 c5 : Nat} {rd f1 f2 : Nat → Int} {n1 n2 : Nat → Bool} {w w' : World} {S : List Nat} (h : RowsOK K x1 x2 x3 x4 x5 c1 c2 c3 c4 c5 rd f1 f2 n1 n2 w) (hk : Kept S w w')
    (hS : 0 < K → c1 ∉ S ∧ c2 ∉ S ∧ c3 ∉ S ∧ c4 ∉ S ∧ c5 ∉ S) : RowsOK K x1 x2 x3 x4 x5 c1 c2 c3 c4 c5 rd f1 f2 n1 n2 w' := by
  have hs := hk.size
  refine ⟨fun h0 => ⟨(h.p1 h0).1, Nat.lt_of_lt_of_le (h.p1 h0).2 hs⟩, fun h0 => ⟨(h.p2 h0).1, Nat.lt_of_lt_of_le (h.p2 h0).2 hs⟩, fun h0 => ⟨(h.p3 h0).1, Nat.lt_of_lt_of_le (h.p3 h0).2 hs⟩, fun h0 => ⟨(h.p4 h0).1, Nat.lt_of_lt_of_le (h.p4 h0).2 hs⟩, fun h0 => ⟨(h.p5 h0).1, Nat.lt_of_lt_of_le (h.p5 h0).2 hs⟩, ?_, ?_, ?_, ?_, ?_⟩
  · intro k hlt; rw [hk.cell (p := ⟨c1, k, none⟩) (h.p1 (by omega)).2 (hS (by omega)).1]; exact h.r1 k hlt
  · intro k hlt; rw [hk.cell (p := ⟨c2, k, none⟩) (h.p2 (by omega)).2 (hS (by omega)).2.1]; exact h.r2 k hlt
  · intro k hlt; rw [hk.cell (p := ⟨c3, k, none⟩) (h.p3 (by omega)).2 (hS (by omega)).2.2.1]; exact h.r3 k hlt
  · intro k hlt; rw [hk.cell (p := ⟨c4, k, none⟩) (h.p4 (by omega)).2 (hS (by omega)).2.2.2.1]; exact h.r4 k hlt
  · intro k hlt; rw [hk.cell (p := ⟨c5, k, none⟩) (h.p5 (by omega)).2 (hS (by omega)).2.2.2.2]; exact h.r5 k hlt
theorem RowsOK.keep0 {K : Nat} {x1 x2 x3 x4 x5 : Option Addr} {c1 c2 c3 c4 c5 : Nat} {rd f1 f2 : Nat → Int} {n1 n2 : Nat → Bool} {w w' : World} (h : RowsOK K x1 x2 x3 x4 x5 c1 c2 c3 c4 c5 rd f1 f2 n1 n2 w) (hk : Kept [] w w') : RowsOK K x1 x2 x3 x4 x5 c1 c2 c3 c4 c5 rd f1 f2 n1 n2 w' :=
  h.keep hk (fun _ => by simp)

/-- Writes into what was not there at the start. -/
theorem Kept.fresh {S : List Nat} {a b c : World} (h : Kept [] a b) (k : Kept S b c) (hS : ∀ x ∈ S, a.heap.size ≤ x) : Kept [] a c :=
  ⟨k.os.trans h.os, k.tape.trans h.tape, k.output.trans h.output, Nat.le_trans h.size k.size,
    fun i hi hn => (k.block i (Nat.lt_of_lt_of_le hi h.size) (fun hm => by have := hS i hm; omega)).trans (h.block i hi hn)⟩
theorem Kept.up {X : List Nat} {w w' : World} (h : Kept [] w w') : Kept X w w' := h.mono (fun _ _ hm => by cases hm)
theorem ScrI.keep {m bs drb : Nat} {rd f1 f2 : Nat → Int} {n1 n2 : Nat → Bool} {k : Nat} {mn rp sp : Option Addr} {w w' : World} (h : ScrI m bs drb rd f1 f2 n1 n2 k mn rp sp w) (hk : Kept [] w w') : ScrI m bs drb rd f1 f2 n1 n2 k mn rp sp w' :=
  ⟨hk.isB h.hB (by simp), hk.isB h.hD (by simp), h.mean.keep hk.up, h.max1.keep hk.up, h.max2.keep hk.up⟩

/-- One round of the script. -/
theorem l3_round (m K : Nat) (x1 x2 x3 x4 x5 : Option Addr) (bs : Nat) (drb k c1 c2 c3 c4 c5 : Nat) (rd f1 f2 : Nat → Int) (n1 n2 : Nat → Bool) (mn rp sp : Option Addr) (a : Act) (w : World) (Q : Exit → Act → World → Prop) (hfr : Fr 285 a) (hs : Slots [(0, .int .u32 (m : Nat)), (1, .slice x1 K K), (2, .slice x2 K K), (3, .slice x3 K K), (4, .slice x4 K K), (5, .slice x5 K K), (13, .int .i64 (K : Nat)), (15, .pointer (some ⟨bs, 0, none⟩)), (16, .int .i64 (k : Nat))] a)
    (hR : RowsOK K x1 x2 x3 x4 x5 c1 c2 c3 c4 c5 rd f1 f2 n1 n2 w) (hI : ScrI m bs drb rd f1 f2 n1 n2 k mn rp sp w) (hne : drb ≠ bs)
    (hk : k < K) (hK : (K : Int) ≤ 65536) (hm : m ≤ 65536) (hrd : ∀ i, i < K → 0 ≤ rd i ∧ rd i ≤ m) (hf1 : ∀ i, i < K → 0 ≤ f1 i) (hf2 : ∀ i, i < K → 0 ≤ f2 i)
    (hQ : ∀ a' w' mn' rp' sp', Kept [bs, drb] w w' → ScrI m bs drb rd f1 f2 n1 n2 (k + 1) mn' rp' sp' w' → Fr 285 a' → Slots [(0, .int .u32 (m : Nat)), (1, .slice x1 K K), (2, .slice x2 K K), (3, .slice x3 K K), (4, .slice x4 K K), (5, .slice x5 K K), (13, .int .i64 (K : Nat)), (15, .pointer (some ⟨bs, 0, none⟩)), (16, .int .i64 (k : Nat))] a' → Q .normal a' w') :
    Code.wp Try.prog (inC (hdC (tlC (inC (inC (tlC (nthC 14 (bodyC Try.f3)))))))) Q a w := by
  have lb := hI.hB.lt
  have ld := hI.hD.lt
  refine wp_nav rfl (l3_p0 _ _ _ _ _ _ _ _ _ _ _ _ hfr hs fun a1 fr1 s1 => ?_)
  have k1 : Kept [] w (w.alloc (.cells #[.int .u8 0] 5)) := (Kept.refl _ _).alloc _
  have A1 := IsB.new w #[.int .u8 0] 5
  have z1 : (w.alloc (.cells #[.int .u8 0] 5)).heap.size = w.heap.size + 1 := by simp
  generalize w.alloc (.cells #[.int .u8 0] 5) = w1 at *
  refine wp_nav rfl (l3_p1 _ _ _ _ _ _ _ _ _ _ _ _ _ fr1 s1 fun a2 fr2 s2 => ?_)
  have k2 : Kept [] w (w1.alloc (.cells #[.int .u8 1] 42)) := k1.alloc _
  have A2 := A1.alloc (.cells #[.int .u8 1] 42)
  have B2 := IsB.new w1 #[.int .u8 1] 42
  have z2 : (w1.alloc (.cells #[.int .u8 1] 42)).heap.size = w.heap.size + 2 := by simp; omega
  rw [z1] at B2 s2
  generalize w1.alloc (.cells #[.int .u8 1] 42) = w2 at *
  refine wp_nav rfl (l3_p2 _ _ _ _ _ _ _ _ _ _ _ _ _ _ fr2 s2 fun a3 fr3 s3 => ?_)
  generalize hnode : (#[.int .i64 0, .bool false, .pointer (some ⟨w.heap.size, 0, none⟩), .pointer (some ⟨w.heap.size + 1, 0, none⟩), .pointer none] : Array Value) = nodeA at *
  have k3 : Kept [] w (w2.alloc (.cells nodeA 47)) := k2.alloc _
  have A3 := A2.alloc (.cells nodeA 47)
  have B3 := B2.alloc (.cells nodeA 47)
  have C3 := IsB.new w2 nodeA 47
  have z3 : (w2.alloc (.cells nodeA 47)).heap.size = w.heap.size + 3 := by simp; omega
  rw [z2] at C3 s3
  generalize w2.alloc (.cells nodeA 47) = w3 at *
  subst hnode
  have R3 := hR.keep0 k3
  refine wp_nav rfl (l3_p3' _ _ _ _ _ _ _ _ _ _ _ _ c5 (rd k) _ _ _ fr3 s3 hk (R3.p5 (by omega)).1 (R3.r5 k hk) (hrd k hk).1 (R3.p5 (by omega)).2 C3 fun a4 w4 ro ro1 ro2 kk4 C4 fr4 s4 => ?_)
  have k4 := k3.fresh kk4 (by simp)
  have A4 := kk4.isB A3 (by simp)
  have B4 := kk4.isB B3 (by simp)
  have R4 := hR.keep0 k4
  have g4 := kk4.size
  refine wp_nav rfl (l3_p4 _ _ _ _ _ _ _ _ _ _ _ _ _ _ _ _ fr4 s4 (by omega) C4 fun a5 w5 fr5 s5 kk5 z5 C5 D5 => ?_)
  have k5 := k4.trans kk5
  have A5 := kk5.isB A4 (by simp)
  have B5 := kk5.isB B4 (by simp)
  have E5 : ∀ b, ro = some b → w.heap.size ≤ b ∧ b < w4.heap.size ∧ IsB w5 b #[.int .u32 (rd k)] 22 := fun b e => ⟨by have := (ro2 b e).1; omega, (ro2 b e).2.lt, kk5.isB (ro2 b e).2 (by simp)⟩
  have R5 := hR.keep0 k5
  refine wp_nav rfl (l3_p5' _ _ _ _ _ _ _ _ [bs, drb] _ _ _ c1 c2 _ (n1 k) (f1 k) _ _ _ fr5 s5 hk (R5.p2 (by omega)).1 (R5.p1 (by omega)).1 (R5.r2 k hk) (R5.r1 k hk) (R5.p2 (by omega)).2 (R5.p1 (by omega)).2 D5 (by simp; omega) fun a6 w6 rr v6 kk6 D6 fr6 s6 => ?_)
  have k6 := k5.fresh kk6 (by simp; omega)
  have A6 := kk6.isB A5 (by simp; omega)
  have B6 := kk6.isB B5 (by simp; omega)
  have C6 := kk6.isB C5 (by simp)
  have E6 : ∀ b, ro = some b → w.heap.size ≤ b ∧ b < w4.heap.size ∧ IsB w6 b #[.int .u32 (rd k)] 22 := fun b e => ⟨(E5 b e).1, (E5 b e).2.1, kk6.isB (E5 b e).2.2 (by have := (E5 b e).2.1; simp; omega)⟩
  have R6 := hR.keep0 k6
  have g6 := kk6.size
  refine wp_nav rfl (l3_p6' _ _ _ _ _ _ _ _ [bs, drb] _ _ _ c3 c4 _ (n2 k) (f2 k) _ _ _ fr6 s6 hk (R6.p4 (by omega)).1 (R6.p3 (by omega)).1 (R6.r4 k hk) (R6.r3 k hk) (R6.p4 (by omega)).2 (R6.p3 (by omega)).2 D6 (by simp; omega) fun a7 w7 sr v7 kk7 D7 fr7 s7 => ?_)
  have k7 := k6.fresh kk7 (by simp; omega)
  have A7 := kk7.isB A6 (by simp; omega)
  have B7 := kk7.isB B6 (by simp; omega)
  have C7 := kk7.isB C6 (by simp)
  have E7 : ∀ b, ro = some b → b ≠ bs ∧ IsB w7 b #[.int .u32 (rd k)] 22 := fun b e => ⟨by have := (E6 b e).1; omega, kk7.isB (E6 b e).2.2 (by have := (E6 b e).2.1; simp; omega)⟩
  have V6 : VAt [bs, drb] rr (f1 k) (n1 k) w7 := by
    refine ⟨v6.1, fun e => ?_⟩
    obtain ⟨b, e1, e2, e3⟩ := v6.2 e
    refine ⟨b, e1, e2, ?_⟩
    have ne : b ≠ w4.heap.size + 1 := by
      rintro rfl
      have h1 : w6.heap[w4.heap.size + 1]? = some (.cells #[.int .u64 (f1 k)] 31 (0, 0)) := e3
      have h2 : w6.heap[w4.heap.size + 1]? = some (.cells (instA k w4.heap.size 1 rr none) 50 (0, 0)) := D6
      rw [h1] at h2
      injection h2 with h2
      injection h2 with _ h3
      exact absurd h3 (by decide)
    exact kk7.isB e3 (by simpa using ne)
  refine l3_p7 _ _ _ _ _ _ _ _ _ _ _ _ _ _ _ _ _ fr7 s7 D7 (add_one (K := K) (hI.keep k7) hk hK hm hrd (hf1 k hk) (hf2 k hk) hne _ _ _ ro _ _ ro1 (by omega) (by omega) (by omega) C7 A7 B7 E7 V6 v7) (fun a8 w8 hG fr8 s8 => ?_)
  obtain ⟨kk8, mn', rp', sp', I8⟩ := hG
  exact hQ a8 w8 mn' rp' sp' ((Kept.up k7).trans kk8) I8 fr8 s8

theorem l3_loop2 (m K : Nat) (x1 x2 x3 x4 x5 : Option Addr) (bs : Nat) (drb c1 c2 c3 c4 c5 : Nat) (rd f1 f2 : Nat → Int) (n1 n2 : Nat → Bool) (a : Act) (w : World) (Q : Exit → Act → World → Prop) (hfr : Fr 285 a) (hs : Slots [(0, .int .u32 (m : Nat)), (1, .slice x1 K K), (2, .slice x2 K K), (3, .slice x3 K K), (4, .slice x4 K K), (5, .slice x5 K K), (13, .int .i64 (K : Nat)), (15, .pointer (some ⟨bs, 0, none⟩)), (16, .int .i64 (0 : Nat))] a)
    (hR : RowsOK K x1 x2 x3 x4 x5 c1 c2 c3 c4 c5 rd f1 f2 n1 n2 w) (hX : 0 < K → c1 ∉ [bs, drb] ∧ c2 ∉ [bs, drb] ∧ c3 ∉ [bs, drb] ∧ c4 ∉ [bs, drb] ∧ c5 ∉ [bs, drb]) (hI : ScrI m bs drb rd f1 f2 n1 n2 0 none none none w) (hne : drb ≠ bs)
    (hK : (K : Int) ≤ 65536) (hm : m ≤ 65536) (hrd : ∀ i, i < K → 0 ≤ rd i ∧ rd i ≤ m) (hf1 : ∀ i, i < K → 0 ≤ f1 i) (hf2 : ∀ i, i < K → 0 ≤ f2 i)
    (hexit : ∀ a' w' mn' rp' sp', Kept [bs, drb] w w' → ScrI m bs drb rd f1 f2 n1 n2 K mn' rp' sp' w' → Fr 285 a' → Slots [(0, .int .u32 (m : Nat)), (1, .slice x1 K K), (2, .slice x2 K K), (3, .slice x3 K K), (4, .slice x4 K K), (5, .slice x5 K K), (13, .int .i64 (K : Nat)), (15, .pointer (some ⟨bs, 0, none⟩))] a' → Q (.exit 2) a' w') :
    Code.wp Try.prog (inC (tlC (nthC 14 (bodyC Try.f3)))) Q a w := by
  refine wp_navL rfl (wp_loop (fun a' w' => ∃ k : Nat, k ≤ K ∧ Kept [bs, drb] w w' ∧ (∃ mn rp sp, ScrI m bs drb rd f1 f2 n1 n2 k mn rp sp w') ∧ Fr 285 a' ∧ Slots [(0, .int .u32 (m : Nat)), (1, .slice x1 K K), (2, .slice x2 K K), (3, .slice x3 K K), (4, .slice x4 K K), (5, .slice x5 K K), (13, .int .i64 (K : Nat)), (15, .pointer (some ⟨bs, 0, none⟩)), (16, .int .i64 (k : Nat))] a') (fun a' _ => K - (intOf (sl a' 16)).toNat) ⟨0, Nat.zero_le _, Kept.refl _ _, ⟨_, _, _, hI⟩, hfr, hs⟩ ?_)
  rintro a1 w1 ⟨k, hk, kp, ⟨mn, rp, sp, I1⟩, fr, s1⟩
  have mu : (intOf (sl a1 16)).toNat = k := by
    have : sl a1 16 = .int .i64 (k : Nat) := s1.2.2.2.2.2.2.2.2.1
    rw [this]; simp only [intOf]; omega
  refine wp_nav rfl (l3_14h _ _ _ _ _ _ _ _ k a1 w1 _ fr s1 hk hK (fun a2 hlt fr2 s2 => ?_) (fun a2 hke fr2 s2 => ?_))
  · refine wp_nav rfl (wp_navB (id := 3) rfl ?_)
    refine l3_round _ _ _ _ _ _ _ _ drb k c1 c2 c3 c4 c5 rd f1 f2 n1 n2 mn rp sp a2 w1 _ fr2 s2 (hR.keep kp hX) I1 hne hlt hK hm hrd hf1 hf2 (fun a3 w3 mn' rp' sp' kp3 I3 fr3 s3 => ?_)
    refine l3_14n _ _ _ _ _ _ _ _ k a3 w3 _ fr3 s3 (by omega) (fun a4 fr4 s4 => ?_)
    refine ⟨⟨k + 1, by omega, kp.trans kp3, ⟨_, _, _, I3⟩, fr4, s4⟩, ?_⟩
    have mu2 : (intOf (sl a4 16)).toNat = k + 1 := by
      have : sl a4 16 = .int .i64 (k + 1 : Nat) := s4.2.2.2.2.2.2.2.2.1
      rw [this]; simp only [intOf]; omega
    rw [mu, mu2]; omega
  · subst hke
    exact hexit a2 w1 mn rp sp kp I1 fr2 s2

end Go.Proofs.Qxb6602526a
