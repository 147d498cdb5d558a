import Derived.Test.Qxb6602526aRows
import Derived.Test.Qxb6602526aMem
namespace Go.Proofs.Qxb6602526a
open Go.RowKit
set_option linter.unusedSimpArgs false
set_option linter.unusedVariables false

theorem Try.info82 : (Try.prog.info? 82).map (fun i => (i.zero, i.size, i.bytes)) = some (some (.agg #[.bool false, .bool false, .int .u8 0, .int .u8 0, .bool false, .int .u32 0]), 6, 12) := by kernel_rfl

/-- A NodeCase. -/
structure NodeC where
  fa : Bool
  hp : Bool
  pv : Int
  rv : Int
  hr : Bool
  rd : Int

def NodeC.at (x : NodeC) (w : World) (b o : Nat) : Prop :=
  w.cell? ⟨b, o, none⟩ = some (.bool x.fa) ∧ w.cell? ⟨b, o + 1, none⟩ = some (.bool x.hp) ∧ w.cell? ⟨b, o + 2, none⟩ = some (.int .u8 x.pv) ∧
    w.cell? ⟨b, o + 3, none⟩ = some (.int .u8 x.rv) ∧ w.cell? ⟨b, o + 4, none⟩ = some (.bool x.hr) ∧ w.cell? ⟨b, o + 5, none⟩ = some (.int .u32 x.rd)

set_option maxHeartbeats 1000000 in
theorem copyNodes_any (x : Addr) (b off len cap : Nat) (nc : Nat → NodeC) (w : World) (hlen : len ≤ 1048576)
    (hc : ∀ i, i < len → (nc i).at w b (off + i * 6)) (hx : 0 < len → x = ⟨b, off, none⟩ ∧ b < w.heap.size) :
    Calls Try.prog 33 #[.slice (some x) len cap] w fun e w' =>
      e = .returned (.slice (some ⟨w.heap.size, 0, none⟩) len len) ∧ Kept [] w w' ∧ ∀ i, i < len → (nc i).at w' w.heap.size (i * 6) := by
  have hmk := fun wx => run_mk (P := Try.prog) 79 82 _ 6 12 Try.underlying79 Try.info82 len (by omega) (by omega) wx
  have q := fun (w : World) (a : Option Addr) (n c n' c' : Nat) => Lib.run_eql_slice_nil (P := Try.prog) w 79 _ a n c n' c' Try.underlying79
  have hl2 : (len : Int) ≤ 9223372036854775807 := by omega
  clear hlen
  go_enter Try.func33, Try.ntmps33
  go_wp2
  generalize hmz : madeCells #[.bool false, .bool false, .int .u8 0, .int .u8 0, .bool false, .int .u32 0] (len * 6) = mz
  have hms : mz.size = len * 6 := by rw [← hmz, size_madeCells]
  clear hmz
  go_loopw [4] (fun i wr => ∃ (k : Nat) (c : Array Value), k ≤ len ∧ i = .int .i64 k ∧ wr = w.alloc (.cells c 82) ∧ c.size = len * 6 ∧ ∀ i, i < k → (nc i).at wr w.heap.size (i * 6)) (fun i _ => len - (intOf i).toNat)
  case atStart => exact ⟨0, mz, Nat.zero_le _, rfl, rfl, hms, fun i hi => by omega⟩
  case round =>
    obtain ⟨k, c, hk, rfl, rfl, hcs, hcc⟩ := hrel
    by_cases hlt : k < len
    · obtain ⟨k0, k1, k2, k3, k4, k5⟩ := hc k hlt
      obtain ⟨hx1, hb⟩ := hx (by omega)
      subst hx1
      clear hx hc
      have HC : Hid _ := hcc
      clear hcc
      have hex : ∀ j, j < 6 → ∃ v, c[k * 6 + j]? = some v := fun j hj => ⟨_, Array.getElem?_eq_getElem (by omega)⟩
      obtain ⟨v0, e0⟩ := hex 0 (by omega)
      obtain ⟨v1, e1⟩ := hex 1 (by omega)
      obtain ⟨v2, e2⟩ := hex 2 (by omega)
      obtain ⟨v3, e3⟩ := hex 3 (by omega)
      obtain ⟨v4, e4⟩ := hex 4 (by omega)
      obtain ⟨v5, e5⟩ := hex 5 (by omega)
      simp only [Nat.add_zero] at e0
      clear hex
      go_wp2
      go_roundw
      case rel =>
        refine ⟨k + 1, _, by omega, by go_num, rfl, by simpa using hcs, fun i hi => ?_⟩
        unfold NodeC.at
        simp only [World.cell?_alloc_new]
        by_cases e : i = k
        · subst e
          refine ⟨?_, ?_, ?_, ?_, ?_, ?_⟩ <;> simp [Array.getElem?_setIfInBounds, hcs] <;> omega
        · have h := HC.out i (by omega)
          unfold NodeC.at at h
          simp only [World.cell?_alloc_new] at h
          obtain ⟨h0, h1, h2, h3, h4, h5⟩ := h
          refine ⟨?_, ?_, ?_, ?_, ?_, ?_⟩
          · rw [← h0]; simp only [Array.getElem?_setIfInBounds]; repeat rw [if_neg (by omega)]
          · rw [← h1]; simp only [Array.getElem?_setIfInBounds]; repeat rw [if_neg (by omega)]
          · rw [← h2]; simp only [Array.getElem?_setIfInBounds]; repeat rw [if_neg (by omega)]
          · rw [← h3]; simp only [Array.getElem?_setIfInBounds]; repeat rw [if_neg (by omega)]
          · rw [← h4]; simp only [Array.getElem?_setIfInBounds]; repeat rw [if_neg (by omega)]
          · rw [← h5]; simp only [Array.getElem?_setIfInBounds]; repeat rw [if_neg (by omega)]
      case measure => simp [intOf]; omega
    · go_wp2
      go_ret
      have : k = len := by omega
      subst this
      exact ⟨rfl, (Kept.refl _ _).alloc _, hcc⟩

theorem copyNodes_nil (w : World) :
    Calls Try.prog 33 #[.slice none 0 0] w fun e w' => e = .returned (.slice none 0 0) ∧ w' = w := by
  have q := fun (w : World) (a : Option Addr) (n c n' c' : Nat) => Lib.run_eql_slice_nil (P := Try.prog) w 79 _ a n c n' c' Try.underlying79
  go_enter Try.func33, Try.ntmps33
  go_wp2
  go_ret
  exact ⟨rfl, rfl⟩

theorem copyNodes_all (na : Option Addr) (b off nn cap : Nat) (nc : Nat → NodeC) (w : World) (hlen : nn ≤ 1048576) (hnil : na = none → nn = 0 ∧ cap = 0) (hna : 0 < nn → na = some ⟨b, off, none⟩)
    (hc : ∀ i, i < nn → (nc i).at w b (off + i * 6)) (hb : 0 < nn → b < w.heap.size) :
    Calls Try.prog 33 #[.slice na nn cap] w fun e w' => ∃ na', e = .returned (.slice na' nn nn) ∧ Kept [] w w' ∧ (na' = none → nn = 0) ∧ (0 < nn → na' = some ⟨w.heap.size, 0, none⟩ ∧ w.heap.size < w'.heap.size) ∧ ∀ i, i < nn → (nc i).at w' w.heap.size (i * 6) := by
  cases na with
  | none =>
    obtain ⟨rfl, rfl⟩ := hnil rfl
    refine (copyNodes_nil w).mono ?_
    rintro e w' ⟨rfl, rfl⟩
    exact ⟨none, rfl, Kept.refl _ _, fun _ => rfl, fun h => by omega, fun i hi => by omega⟩
  | some x =>
    refine (copyNodes_any x b off nn cap nc w hlen hc (fun h => ⟨by have := hna h; simpa using this, hb h⟩)).mono ?_
    rintro e w' ⟨rfl, kp, h⟩
    refine ⟨_, rfl, kp, fun h => by (cases h), fun h0 => ⟨rfl, ?_⟩, h⟩
    have h1 := (h 0 h0).1
    rcases Nat.lt_or_ge w.heap.size w'.heap.size with h2 | h2
    · exact h2
    · simp [World.cell?, Array.getElem?_eq_none h2] at h1

/-- Are the slices short enough? -/
theorem zz32_yes (pr : Array Value) (na ra : Option Addr) (nn nc rn rc : Nat) (w : World) (hp : pr.size = 9) (h : nn + rn ≤ 1048576) :
    Calls Try.prog 32 #[.agg pr, .slice na nn nc, .slice ra rn rc] w fun e w' => e = .returned (.bool true) ∧ w' = w.alloc (.cells pr 78) := by
  have h1 : ((nn : Int)) ≤ 1048576 := by omega
  have h2 : ((rn : Int)) ≤ 1048576 := by omega
  have h3 : ((nn : Int)) + rn ≤ 1048576 := by omega
  have l1 : ((nn : Int)) ≤ 9223372036854775807 := by omega
  clear h
  go_enter Try.func32, Try.ntmps32
  go_wp2
  go_ret
  exact ⟨rfl, rfl⟩

theorem zz32_no (pr : Array Value) (na ra : Option Addr) (nn nc rn rc : Nat) (w : World) (h : ¬ nn + rn ≤ 1048576) (l1 : (nn : Int) ≤ 9223372036854775807) (l2 : (rn : Int) ≤ 9223372036854775807) :
    Calls Try.prog 32 #[.agg pr, .slice na nn nc, .slice ra rn rc] w fun e w' => e = .returned (.bool false) ∧ w' = w.alloc (.cells pr 78) := by
  by_cases h1 : (1048576 : Int) < nn
  · clear h
    go_enter Try.func32, Try.ntmps32
    go_wp2
    go_ret
    exact ⟨rfl, rfl⟩
  · by_cases h2 : (1048576 : Int) < rn
    · clear h
      go_enter Try.func32, Try.ntmps32
      go_wp2
      go_ret
      exact ⟨rfl, rfl⟩
    · have h3 : (1048576 : Int) < nn + rn := by omega
      clear h
      go_enter Try.func32, Try.ntmps32
      go_wp2
      go_ret
      exact ⟨rfl, rfl⟩
end Go.Proofs.Qxb6602526a
