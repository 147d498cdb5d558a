import Derived.Test.Qxb6602526aCopy
namespace Go.Proofs.Qxb6602526a
open Go.RowKit
set_option linter.unusedSimpArgs false
set_option linter.unusedVariables false

/-- copyU64 of whatever slice: its copy is a row of its own. -/
theorem copyU64_all (na : Option Addr) (b off nn cap : Nat) (f : Nat → Int) (w : World) (hlen : nn ≤ 1048576) (hnil : na = none → nn = 0 ∧ cap = 0) (hna : 0 < nn → na = some ⟨b, off, none⟩)
    (hc : ∀ i, i < nn → w.cell? ⟨b, off + i, none⟩ = some (.int .u64 (f i))) (hb : 0 < nn → b < w.heap.size) :
    Calls Try.prog 10 #[.slice na nn cap] w fun e w' => ∃ na', e = .returned (.slice na' nn nn) ∧ Kept [] w w' ∧ (na' = none → nn = 0) ∧ (0 < nn → na' = some ⟨w.heap.size, 0, none⟩ ∧ IsB w' w.heap.size (rowA (fun i => .int .u64 (f i)) nn) 31) := by
  cases na with
  | none =>
    obtain ⟨rfl, rfl⟩ := hnil rfl
    refine (copyU64_nil w).mono ?_
    rintro e w' ⟨rfl, rfl⟩
    exact ⟨none, rfl, Kept.refl _ _, fun _ => rfl, fun h => by omega⟩
  | some x =>
    refine (copyU64_any x b off nn cap f w hlen hc (fun h => ⟨by have := hna h; simpa using this, hb h⟩)).mono ?_
    rintro e w' ⟨rfl, rfl⟩
    exact ⟨_, rfl, (Kept.refl _ _).alloc _, fun h => by (cases h), fun _ => ⟨rfl, IsB.new _ _ _⟩⟩

/-- copyBool of whatever slice: its copy is a row of its own. -/
theorem copyBool_all (na : Option Addr) (b off nn cap : Nat) (f : Nat → Bool) (w : World) (hlen : nn ≤ 1048576) (hnil : na = none → nn = 0 ∧ cap = 0) (hna : 0 < nn → na = some ⟨b, off, none⟩)
    (hc : ∀ i, i < nn → w.cell? ⟨b, off + i, none⟩ = some (.bool (f i))) (hb : 0 < nn → b < w.heap.size) :
    Calls Try.prog 11 #[.slice na nn cap] w fun e w' => ∃ na', e = .returned (.slice na' nn nn) ∧ Kept [] w w' ∧ (na' = none → nn = 0) ∧ (0 < nn → na' = some ⟨w.heap.size, 0, none⟩ ∧ IsB w' w.heap.size (rowA (fun i => .bool (f i)) nn) 4) := by
  cases na with
  | none =>
    obtain ⟨rfl, rfl⟩ := hnil rfl
    refine (copyBool_nil w).mono ?_
    rintro e w' ⟨rfl, rfl⟩
    exact ⟨none, rfl, Kept.refl _ _, fun _ => rfl, fun h => by omega⟩
  | some x =>
    refine (copyBool_any x b off nn cap f w hlen hc (fun h => ⟨by have := hna h; simpa using this, hb h⟩)).mono ?_
    rintro e w' ⟨rfl, rfl⟩
    exact ⟨_, rfl, (Kept.refl _ _).alloc _, fun h => by (cases h), fun _ => ⟨rfl, IsB.new _ _ _⟩⟩

/-- copyU32 of whatever slice: its copy is a row of its own. -/
theorem copyU32_all (na : Option Addr) (b off nn cap : Nat) (f : Nat → Int) (w : World) (hlen : nn ≤ 1048576) (hnil : na = none → nn = 0 ∧ cap = 0) (hna : 0 < nn → na = some ⟨b, off, none⟩)
    (hc : ∀ i, i < nn → w.cell? ⟨b, off + i, none⟩ = some (.int .u32 (f i))) (hb : 0 < nn → b < w.heap.size) :
    Calls Try.prog 12 #[.slice na nn cap] w fun e w' => ∃ na', e = .returned (.slice na' nn nn) ∧ Kept [] w w' ∧ (na' = none → nn = 0) ∧ (0 < nn → na' = some ⟨w.heap.size, 0, none⟩ ∧ IsB w' w.heap.size (rowA (fun i => .int .u32 (f i)) nn) 22) := by
  cases na with
  | none =>
    obtain ⟨rfl, rfl⟩ := hnil rfl
    refine (copyU32_nil w).mono ?_
    rintro e w' ⟨rfl, rfl⟩
    exact ⟨none, rfl, Kept.refl _ _, fun _ => rfl, fun h => by omega⟩
  | some x =>
    refine (copyU32_any x b off nn cap f w hlen hc (fun h => ⟨by have := hna h; simpa using this, hb h⟩)).mono ?_
    rintro e w' ⟨rfl, rfl⟩
    exact ⟨_, rfl, (Kept.refl _ _).alloc _, fun h => by (cases h), fun _ => ⟨rfl, IsB.new _ _ _⟩⟩

/-- copyInt of whatever slice: its copy is a row of its own. -/
theorem copyInt_all (na : Option Addr) (b off nn cap : Nat) (f : Nat → Int) (w : World) (hlen : nn ≤ 1048576) (hnil : na = none → nn = 0 ∧ cap = 0) (hna : 0 < nn → na = some ⟨b, off, none⟩)
    (hc : ∀ i, i < nn → w.cell? ⟨b, off + i, none⟩ = some (.int .i64 (f i))) (hb : 0 < nn → b < w.heap.size) :
    Calls Try.prog 17 #[.slice na nn cap] w fun e w' => ∃ na', e = .returned (.slice na' nn nn) ∧ Kept [] w w' ∧ (na' = none → nn = 0) ∧ (0 < nn → na' = some ⟨w.heap.size, 0, none⟩ ∧ IsB w' w.heap.size (rowA (fun i => .int .i64 (f i)) nn) 3) := by
  cases na with
  | none =>
    obtain ⟨rfl, rfl⟩ := hnil rfl
    refine (copyInt_nil w).mono ?_
    rintro e w' ⟨rfl, rfl⟩
    exact ⟨none, rfl, Kept.refl _ _, fun _ => rfl, fun h => by omega⟩
  | some x =>
    refine (copyInt_any x b off nn cap f w hlen hc (fun h => ⟨by have := hna h; simpa using this, hb h⟩)).mono ?_
    rintro e w' ⟨rfl, rfl⟩
    exact ⟨_, rfl, (Kept.refl _ _).alloc _, fun h => by (cases h), fun _ => ⟨rfl, IsB.new _ _ _⟩⟩

/-- copyU8 of whatever slice: its copy is a row of its own. -/
theorem copyU8_all (na : Option Addr) (b off nn cap : Nat) (f : Nat → Int) (w : World) (hlen : nn ≤ 1048576) (hnil : na = none → nn = 0 ∧ cap = 0) (hna : 0 < nn → na = some ⟨b, off, none⟩)
    (hc : ∀ i, i < nn → w.cell? ⟨b, off + i, none⟩ = some (.int .u8 (f i))) (hb : 0 < nn → b < w.heap.size) :
    Calls Try.prog 18 #[.slice na nn cap] w fun e w' => ∃ na', e = .returned (.slice na' nn nn) ∧ Kept [] w w' ∧ (na' = none → nn = 0) ∧ (0 < nn → na' = some ⟨w.heap.size, 0, none⟩ ∧ IsB w' w.heap.size (rowA (fun i => .int .u8 (f i)) nn) 5) := by
  cases na with
  | none =>
    obtain ⟨rfl, rfl⟩ := hnil rfl
    refine (copyU8_nil w).mono ?_
    rintro e w' ⟨rfl, rfl⟩
    exact ⟨none, rfl, Kept.refl _ _, fun _ => rfl, fun h => by omega⟩
  | some x =>
    refine (copyU8_any x b off nn cap f w hlen hc (fun h => ⟨by have := hna h; simpa using this, hb h⟩)).mono ?_
    rintro e w' ⟨rfl, rfl⟩
    exact ⟨_, rfl, (Kept.refl _ _).alloc _, fun h => by (cases h), fun _ => ⟨rfl, IsB.new _ _ _⟩⟩

end Go.Proofs.Qxb6602526a
