import Derived.WalkKit
import Derived.WalkSpells
import Derived.Deep.Draws
namespace Go.Proofs.Qxb6601010a
open Go.RowKit

/-- The cells g 0 .. g (n-1). -/
def rowA (g : Nat → Value) (n : Nat) : Array Value := ((List.range n).map g).toArray

/-- The first k cells of g, the rest of the n cells still z. -/
def part (g : Nat → Value) (z : Value) (n k : Nat) : Array Value := ((List.range n).map fun i => if i < k then g i else z).toArray

theorem rowA_size (g : Nat → Value) (n : Nat) : (rowA g n).size = n := by simp [rowA]
theorem rowA_at (g : Nat → Value) (n i : Nat) (h : i < n) : (rowA g n)[i]? = some (g i) := by simp [rowA, h]
theorem rowA_congr (g g' : Nat → Value) (n : Nat) (h : ∀ i, i < n → g i = g' i) : rowA g n = rowA g' n := by
  simp only [rowA]; congr 1; apply List.map_congr_left; intro i hi; exact h i (by simpa using hi)

theorem rowA_set (g : Nat → Value) (n j : Nat) (v : Value) : (rowA g n).setIfInBounds j v = rowA (fun i => if i = j then v else g i) n := by
  apply Array.ext_getElem?
  intro i
  simp only [rowA, List.setIfInBounds_toArray, List.getElem?_toArray, List.getElem?_set, List.getElem?_map, List.length_map, List.length_range]
  by_cases hn : i < n
  · simp only [List.getElem?_range hn, Option.map_some]
    by_cases hij : j = i
    · subst hij; simp [hn]
    · rw [if_neg hij, if_neg (fun e => hij e.symm)]
  · have : (List.range n)[i]? = none := by simp; omega
    simp only [this, Option.map_none]
    split
    · rw [if_neg (by omega)]
    · rfl

theorem part_zero (g : Nat → Value) (z : Value) (n : Nat) : madeCells #[z] n = part g z n 0 := by
  apply Array.ext
  · simp [madeCells, part]
  · intro i h1 h2
    have : i % 1 = 0 := by omega
    simp [madeCells, part, this]

theorem part_full (g : Nat → Value) (z : Value) (n : Nat) : part g z n n = rowA g n := by
  simp only [part, rowA]; congr 1; apply List.map_congr_left; intro i hi; rw [if_pos (by simpa using hi)]

theorem part_at (g : Nat → Value) (z : Value) (n k : Nat) (h : k < n) : (part g z n k)[k]? = some z := by
  simp [part, h]

theorem part_succ (g : Nat → Value) (z : Value) (n k : Nat) : (part g z n k).setIfInBounds k (g k) = part g z n (k + 1) := by
  apply Array.ext_getElem?
  intro i
  simp only [part, List.setIfInBounds_toArray, List.getElem?_toArray, List.getElem?_set, List.getElem?_map, List.length_map, List.length_range]
  by_cases hik : k = i
  · subst hik
    by_cases hn : k < n <;> simp [hn]
  · by_cases hn : i < n
    · simp only [if_neg hik, List.getElem?_range hn, Option.map_some]
      by_cases hlt : i < k
      · rw [if_pos hlt, if_pos (by omega)]
      · rw [if_neg hlt, if_neg (by omega)]
    · have : (List.range n)[i]? = none := by simp; omega
      simp [if_neg hik, this]

/-- 'make([]T, n)' in whatever world. -/
theorem run_mk {P : Program} (t e : TypeId) (z : Value) (size bytes : Nat) (ht : P.underlying t = some (.slice e))
    (hinfo : (P.info? e).map (fun i => (i.zero, i.size, i.bytes)) = some (some z, size, bytes)) (n : Nat) (hb : bytes * n ≤ 281474976710656) (hn : n ≤ 9223372036854775807) (w : World) :
    (Instr.makeSlice t (.int .i64 n) (.int .i64 n)).run P w = .ok (.slice (some ⟨w.heap.size, 0, none⟩) n n) (w.alloc (.cells (madeCells z.cells (n * size)) e)) := by
  cases hi : P.info? e with
  | none => simp [hi] at hinfo
  | some i =>
    simp [hi] at hinfo
    obtain ⟨h1, rfl, rfl⟩ := hinfo
    have hb' : (i.bytes : Int) * (n : Int) ≤ 281474976710656 := by
      have h : ((i.bytes * n : Nat) : Int) ≤ 281474976710656 := by omega
      rwa [Int.natCast_mul] at h
    have hr := run_make (P := P) w t e i z ht hi h1 .i64 .i64 n n (by omega) (by omega) hb' (by omega)
    simpa using hr

/-- Block b holds just these cells, none of them frozen. -/
def IsB (w : World) (b : Nat) (c : Array Value) (t : TypeId) : Prop := w.heap[b]? = some (.cells c t (0, 0))

theorem IsB.cell {w : World} {b : Nat} {c : Array Value} {t : TypeId} (h : IsB w b c t) (i : Nat) : w.cell? ⟨b, i, none⟩ = c[i]? := by
  unfold IsB at h; simp [World.cell?, h]
theorem IsB.frozen {w : World} {b : Nat} {c : Array Value} {t : TypeId} (h : IsB w b c t) (i : Nat) : w.frozen? ⟨b, i, none⟩ = false := by
  unfold IsB at h; simp [World.frozen?, h]
theorem IsB.lt {w : World} {b : Nat} {c : Array Value} {t : TypeId} (h : IsB w b c t) : b < w.heap.size := by
  unfold IsB at h
  rcases Nat.lt_or_ge b w.heap.size with h' | h'
  · exact h'
  · rw [Array.getElem?_eq_none h'] at h; simp at h
theorem IsB.set {w : World} {b : Nat} {c : Array Value} {t : TypeId} (h : IsB w b c t) (i : Nat) (v : Value) : IsB (w.setCell ⟨b, i, none⟩ v) b (c.setIfInBounds i v) t := by
  unfold IsB at *; simp [World.setCell, Array.getElem?_modify, h]
theorem IsB.off {w : World} {b : Nat} {c : Array Value} {t : TypeId} (h : IsB w b c t) {a : Addr} (v : Value) (ha : a.block ≠ b) : IsB (w.setCell a v) b c t := by
  unfold IsB at *; rw [Below.heap_setCell _ _ _ _ (Ne.symm ha)]; exact h
theorem IsB.alloc {w : World} {b : Nat} {c : Array Value} {t : TypeId} (h : IsB w b c t) (o : Obj) : IsB (w.alloc o) b c t := by
  have := h.lt
  unfold IsB at *; rw [Below.heap_alloc _ _ _ this]; exact h
theorem IsB.new (w : World) (c : Array Value) (t : TypeId) : IsB (w.alloc (.cells c t)) w.heap.size c t := by
  unfold IsB World.alloc; simp
theorem IsB.drew {w : World} {b : Nat} {c : Array Value} {t : TypeId} (h : IsB w b c t) : IsB w.drew b c t := h
theorem IsB.drewN {w : World} {b : Nat} {c : Array Value} {t : TypeId} (h : IsB w b c t) (n : Nat) : IsB (w.drewN n) b c t := h

/-- What was there and is not on the list S has not turned; nothing has gone. -/
structure Kept (S : List Nat) (w w' : World) : Prop where
  os : w'.os = w.os
  tape : w'.tape = w.tape
  output : w'.output = w.output
  size : w.heap.size ≤ w'.heap.size
  block : ∀ k, k < w.heap.size → k ∉ S → w'.heap[k]? = w.heap[k]?

theorem Kept.refl (S : List Nat) (w : World) : Kept S w w := ⟨rfl, rfl, rfl, Nat.le_refl _, fun _ _ _ => rfl⟩
theorem Kept.mono {S T : List Nat} {w w' : World} (h : Kept S w w') (hs : ∀ k, k < w.heap.size → k ∈ S → k ∈ T) : Kept T w w' :=
  ⟨h.os, h.tape, h.output, h.size, fun k hk hn => h.block k hk (fun hm => hn (hs k hk hm))⟩
theorem Kept.trans {S : List Nat} {a b c : World} (h : Kept S a b) (k : Kept S b c) : Kept S a c :=
  ⟨k.os.trans h.os, k.tape.trans h.tape, k.output.trans h.output, Nat.le_trans h.size k.size,
    fun i hi hn => (k.block i (Nat.lt_of_lt_of_le hi h.size) hn).trans (h.block i hi hn)⟩
theorem Kept.drew {S : List Nat} {a w : World} (h : Kept S a w) : Kept S a w.drew := ⟨h.os, h.tape, h.output, h.size, h.block⟩
theorem Kept.drewN {S : List Nat} {a w : World} (h : Kept S a w) (n : Nat) : Kept S a (w.drewN n) := ⟨h.os, h.tape, h.output, h.size, h.block⟩
theorem Kept.alloc {S : List Nat} {a w : World} (h : Kept S a w) (o : Obj) : Kept S a (w.alloc o) :=
  ⟨h.os, h.tape, h.output, Nat.le_trans h.size (by simp), fun k hk hn => by rw [Below.heap_alloc _ _ _ (Nat.lt_of_lt_of_le hk h.size)]; exact h.block k hk hn⟩
/-- A store into a block of the list, or into one that was not there. -/
theorem Kept.set {S : List Nat} {a w : World} (h : Kept S a w) {p : Addr} (v : Value) (hp : p.block ∈ S ∨ a.heap.size ≤ p.block) : Kept S a (w.setCell p v) :=
  ⟨h.os, h.tape, h.output, Nat.le_trans h.size (by simp [World.setCell]), fun k hk hn => by
    rw [Below.heap_setCell _ _ _ _ (by rcases hp with hp | hp <;> intro e <;> subst e <;> first | exact hn hp | omega)]; exact h.block k hk hn⟩
theorem Kept.isB {S : List Nat} {w w' : World} (h : Kept S w w') {b : Nat} {c : Array Value} {t : TypeId} (hb : IsB w b c t) (hn : b ∉ S) : IsB w' b c t := by
  have := hb.lt
  unfold IsB at *; rw [h.block b this hn]; exact hb
theorem Kept.cell {S : List Nat} {w w' : World} (h : Kept S w w') {p : Addr} (hp : p.block < w.heap.size) (hn : p.block ∉ S) : w'.cell? p = w.cell? p := by
  unfold World.cell?; rw [h.block _ hp hn]
theorem Kept.below {S : List Nat} {w w' : World} (h : Kept S w w') (B : Nat) (hB : B ≤ w.heap.size) (hS : ∀ k ∈ S, B ≤ k) : Below B w w' :=
  ⟨h.os, h.tape, h.output, h.size, fun k hk => h.block k (by omega) (fun hm => by have := hS k hm; omega)⟩
theorem Kept.of_below {B : Nat} {w w' : World} (h : Below B w w') (hB : w.heap.size ≤ B) (S : List Nat) : Kept S w w' :=
  ⟨h.os, h.tape, h.output, h.size, fun k hk _ => h.block k (by omega)⟩

end Go.Proofs.Qxb6601010a
