import Derived.Test.Qxb6602526aMem
import Derived.Test.Qxb6602526aRows
import Derived.Maps.AppendAt
namespace Go.Proofs.Qxb6602526a
open Go.RowKit
set_option linter.unusedSimpArgs false
set_option linter.unusedVariables false

/-- A slice of the watch's own that holds n indexes. -/
def Held (w : World) (v : Value) (n : Nat) (f : Nat → Int) : Prop :=
  (v = .slice none 0 0 ∧ n = 0) ∨ ∃ g lc cur, v = .slice (some ⟨g, 0, none⟩) n lc ∧ n ≤ lc ∧ 0 < lc ∧ lc ≤ maxLen ∧ IsB w g cur 22 ∧ cur.size = lc ∧ ∀ i, i < n → cur[i]? = some (.int .u32 (f i))

theorem Held.nil (w : World) (f : Nat → Int) : Held w (.slice none 0 0) 0 f := .inl ⟨rfl, rfl⟩

theorem Held.form {w : World} {v : Value} {n : Nat} {f : Nat → Int} (h : Held w v n f) : ∃ lp lc, v = .slice lp n lc ∧ ((lp = none ∧ lc = 0) ∨ ∃ g, lp = some ⟨g, 0, none⟩ ∧ 0 < lc) := by
  rcases h with ⟨rfl, rfl⟩ | ⟨g, lc, cur, rfl, h1, h2, h3, h4, h5, h6⟩
  · exact ⟨none, 0, rfl, .inl ⟨rfl, rfl⟩⟩
  · exact ⟨_, lc, rfl, .inr ⟨g, rfl, h2⟩⟩

/-- Kept where its block is. -/
theorem Held.keep {w w' : World} {v : Value} {n : Nat} {f : Nat → Int} {X : List Nat} (h : Held w v n f) (hk : Kept X w w') (hX : ∀ g, v.ownBlock = some g → g ∉ X) : Held w' v n f := by
  rcases h with h | ⟨g, lc, cur, rfl, h1, h2, h3, h4, h5, h6⟩
  · exact .inl h
  · exact .inr ⟨g, lc, cur, rfl, h1, h2, h3, hk.isB h4 (hX g rfl), h5, h6⟩

theorem Held.lt {w : World} {v : Value} {n : Nat} {f : Nat → Int} (h : Held w v n f) : ∀ g, v.ownBlock = some g → g < w.heap.size := by
  intro g hg
  rcases h with ⟨rfl, rfl⟩ | ⟨g', lc, cur, rfl, h1, h2, h3, h4, h5, h6⟩
  · cases hg
  · cases hg; exact h4.lt

theorem Held.cell {w : World} {n lc : Nat} {lp : Option Addr} {f : Nat → Int} {k : Nat} (h : Held w (.slice lp n lc) n f) (hk : k < n) : ∃ g, lp = some ⟨g, 0, none⟩ ∧ w.cell? ⟨g, k, none⟩ = some (.int .u32 (f k)) := by
  rcases h with ⟨h, rfl⟩ | ⟨g', lc', cur, hv, h1, h2, h3, h4, h5, h6⟩
  · omega
  · cases hv
    exact ⟨g', rfl, by rw [h4.cell]; exact h6 k hk⟩

theorem info22' : (Try.prog.info? 22).map (fun i => (i.zero, i.size, i.bytes)) = some (some (.int .u32 0), 1, 4) := by kernel_rfl
theorem info22 : ∃ i, Try.prog.info? 22 = some i ∧ i.zero = some (.int .u32 0) ∧ i.size = 1 ∧ i.bytes = 4 := by
  have h := info22'
  cases e : Try.prog.info? 22 with
  | none => rw [e] at h; cases h
  | some i => rw [e] at h; simp only [Option.map_some, Option.some.injEq, Prod.mk.injEq] at h; exact ⟨i, rfl, h.1, h.2.1, h.2.2⟩

/-- last = append(last[:0], indexes...) -/
theorem app_held {w : World} {lp : Option Addr} {m lc : Nat} {f : Nat → Int} (hv : Held w (.slice lp m lc) m f) (n ib io ic : Nat) (xi : Option Addr) (idx : Nat → Int)
    (hx0 : 0 < n → xi = some ⟨ib, io, none⟩) (hc : ∀ k, k < n → w.cell? ⟨ib, io + k, none⟩ = some (.int .u32 (idx k))) (ln : n ≤ 65536) :
    ∃ v' w', (Builtin.append_ #[25, 25] 0 #[.slice lp 0 lc, .slice xi n ic]).run Try.prog w = .ok v' w' ∧ Held w' v' n idx ∧ w.grownBy w' (Value.slice lp m lc).ownBlock ∧
      (v'.ownBlock = (Value.slice lp m lc).ownBlock ∨ v'.ownBlock = some w.heap.size) ∧ v'.oneCell' = true := by
  have eB : (Value.slice lp m lc).ownBlock = (Value.slice lp 0 lc).ownBlock := by cases lp <;> rfl
  have own0 : w.ownsRow 0 22 1 (.slice lp 0 lc) 0 [] := by
    refine ⟨rfl, ?_⟩
    rcases hv with ⟨h, rfl⟩ | ⟨g', lc', cur, hv, h1, h2, h3, h4, h5, h6⟩
    · cases h; exact .inl ⟨rfl, rfl⟩
    · cases hv; exact .inr ⟨g', lc, cur, rfl, Nat.zero_le _, h4, Nat.zero_le _, h3, by omega, by simp⟩
  rcases Nat.eq_zero_or_pos n with h0 | h0
  · subst h0
    refine ⟨.slice lp 0 lc, w, ?_, ?_, ?_, .inl eB.symm, rfl⟩
    · obtain ⟨i, hi, -⟩ := info22
      cases xi <;> cases lp <;> simp [Builtin.append_, run_underlying Try.underlying25, sizeOf, typeInfo, hi, Builtin.lenOf, Builtin.firstCells, loadCells, loadCellsFrom, storeCells]
    · rcases hv with ⟨h, rfl⟩ | ⟨g', lc', cur, hv, h1, h2, h3, h4, h5, h6⟩
      · cases h; exact .inl ⟨rfl, rfl⟩
      · cases hv; exact .inr ⟨g', lc, cur, rfl, Nat.zero_le _, h2, h3, h4, h5, fun i hi => by omega⟩
    · exact ⟨rfl, rfl, rfl, Nat.le_refl _, fun _ _ _ => rfl⟩
  · have hx := hx0 h0
    subst hx
    have hl : ((List.range n).map fun i => Value.int .u32 (idx i)).length = n * 1 := by simp
    obtain ⟨i, hi, hz, hs, hb⟩ := info22
    obtain ⟨v', w', hrun, how, hgr, hnil, hwhere⟩ := run_append_own_at (P := Try.prog) w 0 25 0 22 i _ 1 4 Try.underlying25 hi hz hs hb rfl (by omega) (.slice lp 0 lc) 0 [] own0 ⟨ib, io, none⟩ n ic ((List.range n).map fun i => Value.int .u32 (idx i)) hl
      (fun j u hj => by
        have hjn : j < n := by
          rcases Nat.lt_or_ge j n with h | h
          · exact h
          · rw [List.getElem?_eq_none (by simpa using h)] at hj; cases hj
        rw [List.getElem?_map, List.getElem?_range hjn] at hj
        cases hj
        rw [Addr.add_lit]
        exact hc j hjn)
      (fun u hu => by
        obtain ⟨i, -, rfl⟩ := List.mem_map.1 hu
        rfl)
      (by unfold maxLen; omega) (by omega) (Nat.zero_le _)
    refine ⟨v', w', hrun, ?_, by rw [eB]; exact hgr, by rw [eB]; exact hwhere, ?_⟩
    · rcases how.2 with ⟨h1, h2⟩ | ⟨g, cap, cur, h1, -, h2, h3, h4, h5, h6⟩
      · omega
      · refine .inr ⟨g, cap, cur, by rw [h1, Nat.zero_add], by omega, by omega, h4, h2, by omega, fun i hi => ?_⟩
        have : (cur.toList.take ((0 + n) * 1))[i]? = some (.int .u32 (idx i)) := by
          rw [h6, List.nil_append, List.getElem?_map, List.getElem?_range hi]; rfl
        rw [List.getElem?_take, if_pos (by omega)] at this
        simpa using this
    · rcases how.2 with ⟨h1, h2⟩ | ⟨g, cap, cur, h1, -, h2, h3, h4, h5, h6⟩
      · rw [h1]; rfl
      · rw [h1]; rfl

end Go.Proofs.Qxb6602526a
