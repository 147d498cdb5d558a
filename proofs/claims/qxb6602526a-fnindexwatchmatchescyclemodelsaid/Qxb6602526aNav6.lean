import Derived.Test.Qxb6602526aNav3
namespace Go.Proofs.Qxb6602526a

set_option maxRecDepth 20000 in
theorem lay49 {a : Act} (h : Fr 49 a) : ∃ u : Nat → Value, (∀ i, sl a i = u i) ∧ a = ⟨#[u 0, u 1, u 2, u 3, u 4, u 5, u 6, u 7, u 8, u 9, u 10, u 11, u 12, u 13, u 14, u 15, u 16, u 17, u 18, u 19, u 20, u 21, u 22, u 23, u 24, u 25, u 26, u 27, u 28, u 29, u 30, u 31, u 32, u 33, u 34, u 35, u 36, u 37, u 38, u 39, u 40, u 41, u 42, u 43, u 44, u 45, u 46, u 47, u 48], []⟩ := ⟨sl a, fun _ => rfl, h.lay⟩

set_option maxRecDepth 20000 in
theorem lay69 {a : Act} (h : Fr 69 a) : ∃ u : Nat → Value, (∀ i, sl a i = u i) ∧ a = ⟨#[u 0, u 1, u 2, u 3, u 4, u 5, u 6, u 7, u 8, u 9, u 10, u 11, u 12, u 13, u 14, u 15, u 16, u 17, u 18, u 19, u 20, u 21, u 22, u 23, u 24, u 25, u 26, u 27, u 28, u 29, u 30, u 31, u 32, u 33, u 34, u 35, u 36, u 37, u 38, u 39, u 40, u 41, u 42, u 43, u 44, u 45, u 46, u 47, u 48, u 49, u 50, u 51, u 52, u 53, u 54, u 55, u 56, u 57, u 58, u 59, u 60, u 61, u 62, u 63, u 64, u 65, u 66, u 67, u 68], []⟩ := ⟨sl a, fun _ => rfl, h.lay⟩

set_option maxRecDepth 20000 in
theorem lay44 {a : Act} (h : Fr 44 a) : ∃ u : Nat → Value, (∀ i, sl a i = u i) ∧ a = ⟨#[u 0, u 1, u 2, u 3, u 4, u 5, u 6, u 7, u 8, u 9, u 10, u 11, u 12, u 13, u 14, u 15, u 16, u 17, u 18, u 19, u 20, u 21, u 22, u 23, u 24, u 25, u 26, u 27, u 28, u 29, u 30, u 31, u 32, u 33, u 34, u 35, u 36, u 37, u 38, u 39, u 40, u 41, u 42, u 43], []⟩ := ⟨sl a, fun _ => rfl, h.lay⟩

set_option maxRecDepth 20000 in
theorem lay64 {a : Act} (h : Fr 64 a) : ∃ u : Nat → Value, (∀ i, sl a i = u i) ∧ a = ⟨#[u 0, u 1, u 2, u 3, u 4, u 5, u 6, u 7, u 8, u 9, u 10, u 11, u 12, u 13, u 14, u 15, u 16, u 17, u 18, u 19, u 20, u 21, u 22, u 23, u 24, u 25, u 26, u 27, u 28, u 29, u 30, u 31, u 32, u 33, u 34, u 35, u 36, u 37, u 38, u 39, u 40, u 41, u 42, u 43, u 44, u 45, u 46, u 47, u 48, u 49, u 50, u 51, u 52, u 53, u 54, u 55, u 56, u 57, u 58, u 59, u 60, u 61, u 62, u 63], []⟩ := ⟨sl a, fun _ => rfl, h.lay⟩

end Go.Proofs.Qxb6602526a
