import Derived.WalkKit
import Derived.Deep.Draws
namespace Go.Proofs.Qxb6601010a

/-! PIECES OF A FUNCTION's CODE, BY THEIR PLACE. -/
def hdC : Code → Code
  | .seq a _ => a
  | c => c
def tlC : Code → Code
  | .seq _ b => b
  | c => c
def inC : Code → Code
  | .block _ c => c
  | .loop c => c
  | .scope c => c
  | c => c
def thC : Code → Code
  | .cond _ a _ => a
  | c => c
def elC : Code → Code
  | .cond _ _ b => b
  | c => c
def dropC : Nat → Code → Code
  | 0, c => c
  | n + 1, c => dropC n (tlC c)
def nthC (n : Nat) (c : Code) : Code := hdC (dropC n c)
def bodyC (f : Func) : Code := f.body.getD .skip

/-- A piece that is a sequence: its head, then its tail. -/
theorem wp_nav {P : Program} {c : Code} {Q : Exit → Act → World → Prop} {a : Act} {w : World} (hc : c = .seq (hdC c) (tlC c))
    (h : (hdC c).wp P (Exit.then ((tlC c).wp P Q) Q) a w) : c.wp P Q a w := by
  rw [hc]; exact wp_seq h
theorem wp_navB {P : Program} {c : Code} {Q : Exit → Act → World → Prop} {a : Act} {w : World} {id : Nat} (hc : c = .block id (inC c))
    (h : (inC c).wp P (Exit.inBlock id Q) a w) : c.wp P Q a w := by
  rw [hc]; exact wp_block h

theorem wp_navL {P : Program} {c : Code} {Q : Exit → Act → World → Prop} {a : Act} {w : World} (hc : c = .loop (inC c))
    (h : (Code.loop (inC c)).wp P Q a w) : c.wp P Q a w := by
  rw [hc]; exact h

/-- R at the ordinary end, no other end. -/
def NP (R : Act → World → Prop) : Exit → Act → World → Prop
  | .normal, a, w => R a w
  | _, _, _ => False
theorem wp_np {P : Program} {c : Code} {R : Act → World → Prop} {Q : Exit → Act → World → Prop} {a : Act} {w : World} (h : c.wp P (NP R) a w) (hq : ∀ a w, R a w → Q .normal a w) : c.wp P Q a w :=
  wp_mono h fun e a w h => by cases e <;> first | exact hq _ _ h | exact False.elim h

/-- A frame of n slots, nothing deferred. -/
structure Fr (n : Nat) (a : Act) : Prop where
  size : a.tmps.size = n
  defers : a.defers = []

/-- What lies in a slot. -/
def sl (a : Act) (i : Nat) : Value := a.tmps.getD i undef

theorem Fr.lay {n : Nat} {a : Act} (h : Fr n a) : a = ⟨((List.range n).map (sl a)).toArray, []⟩ := by
  obtain ⟨t, d⟩ := a
  obtain ⟨h1, h2⟩ := h
  simp only at h1 h2
  subst h2
  congr 1
  apply Array.ext
  · simp [h1]
  · intro i hi hi'
    simp [sl, Array.getD, hi]

/-- A call, by the function's code; the frame by what lies in its first slots. -/
theorem calls_nav {P : Program} {f : FuncId} {fn : Func} {args : Array Value} {w : World} {R : Ending → World → Prop} (n : Nat)
    (hf : P.funcs[f]? = some fn) (hb : fn.body = some (bodyC fn)) (hn : fn.ntmps = n) (hs : args.size ≤ n)
    (h : ∀ a, Fr n a → (∀ i, i < args.size → sl a i = args.getD i undef) → (bodyC fn).wp P (bodyPost P fn R) a w) : Calls P f args w R := by
  refine calls_of_wp hf hb (h _ ⟨?_, rfl⟩ ?_)
  · simp; omega
  · intro i hi
    simp [sl, Array.getD, hi]
    intro h2
    omega

/-- What lies in the slots of a list. -/
def Slots : List (Nat × Value) → Act → Prop
  | [], _ => True
  | p :: l, a => sl a p.1 = p.2 ∧ Slots l a

/-- A piece that is a branch. -/
theorem wp_navI {P : Program} {c : Code} {Q : Exit → Act → World → Prop} {a : Act} {w : World} {j : Nat} {t : Bool} (hc : c = .cond (.tmp j) (thC c) (elC c)) (hj : sl a j = .bool t)
    (h1 : t = true → (thC c).wp P Q a w) (h2 : t = false → (elC c).wp P Q a w) : c.wp P Q a w := by
  rw [hc]
  refine wp_cond (t := t) (by simpa [sl, Act.eval] using hj) ?_
  cases t
  · exact h2 rfl
  · exact h1 rfl
theorem wp_skip' {P : Program} {c : Code} {Q : Exit → Act → World → Prop} {a : Act} {w : World} (hc : c = .skip) (h : Q .normal a w) : c.wp P Q a w := by
  rw [hc]; exact wp_skip h

set_option maxRecDepth 20000 in
theorem lay129 {a : Act} (h : Fr 129 a) : ∃ u : Nat → Value, (∀ i, sl a i = u i) ∧ a = ⟨#[u 0, u 1, u 2, u 3, u 4, u 5, u 6, u 7, u 8, u 9, u 10, u 11, u 12, u 13, u 14, u 15, u 16, u 17, u 18, u 19, u 20, u 21, u 22, u 23, u 24, u 25, u 26, u 27, u 28, u 29, u 30, u 31, u 32, u 33, u 34, u 35, u 36, u 37, u 38, u 39, u 40, u 41, u 42, u 43, u 44, u 45, u 46, u 47, u 48, u 49, u 50, u 51, u 52, u 53, u 54, u 55, u 56, u 57, u 58, u 59, u 60, u 61, u 62, u 63, u 64, u 65, u 66, u 67, u 68, u 69, u 70, u 71, u 72, u 73, u 74, u 75, u 76, u 77, u 78, u 79, u 80, u 81, u 82, u 83, u 84, u 85, u 86, u 87, u 88, u 89, u 90, u 91, u 92, u 93, u 94, u 95, u 96, u 97, u 98, u 99, u 100, u 101, u 102, u 103, u 104, u 105, u 106, u 107, u 108, u 109, u 110, u 111, u 112, u 113, u 114, u 115, u 116, u 117, u 118, u 119, u 120, u 121, u 122, u 123, u 124, u 125, u 126, u 127, u 128], []⟩ := ⟨sl a, fun _ => rfl, h.lay⟩

set_option maxRecDepth 20000 in
theorem lay67 {a : Act} (h : Fr 67 a) : ∃ u : Nat → Value, (∀ i, sl a i = u i) ∧ a = ⟨#[u 0, u 1, u 2, u 3, u 4, u 5, u 6, u 7, u 8, u 9, u 10, u 11, u 12, u 13, u 14, u 15, u 16, u 17, u 18, u 19, u 20, u 21, u 22, u 23, u 24, u 25, u 26, u 27, u 28, u 29, u 30, u 31, u 32, u 33, u 34, u 35, u 36, u 37, u 38, u 39, u 40, u 41, u 42, u 43, u 44, u 45, u 46, u 47, u 48, u 49, u 50, u 51, u 52, u 53, u 54, u 55, u 56, u 57, u 58, u 59, u 60, u 61, u 62, u 63, u 64, u 65, u 66], []⟩ := ⟨sl a, fun _ => rfl, h.lay⟩

set_option maxRecDepth 20000 in
theorem lay63 {a : Act} (h : Fr 63 a) : ∃ u : Nat → Value, (∀ i, sl a i = u i) ∧ a = ⟨#[u 0, u 1, u 2, u 3, u 4, u 5, u 6, u 7, u 8, u 9, u 10, u 11, u 12, u 13, u 14, u 15, u 16, u 17, u 18, u 19, u 20, u 21, u 22, u 23, u 24, u 25, u 26, u 27, u 28, u 29, u 30, u 31, u 32, u 33, u 34, u 35, u 36, u 37, u 38, u 39, u 40, u 41, u 42, u 43, u 44, u 45, u 46, u 47, u 48, u 49, u 50, u 51, u 52, u 53, u 54, u 55, u 56, u 57, u 58, u 59, u 60, u 61, u 62], []⟩ := ⟨sl a, fun _ => rfl, h.lay⟩

set_option maxRecDepth 20000 in
theorem lay53 {a : Act} (h : Fr 53 a) : ∃ u : Nat → Value, (∀ i, sl a i = u i) ∧ a = ⟨#[u 0, u 1, u 2, u 3, u 4, u 5, u 6, u 7, u 8, u 9, u 10, u 11, u 12, u 13, u 14, u 15, u 16, u 17, u 18, u 19, u 20, u 21, u 22, u 23, u 24, u 25, u 26, u 27, u 28, u 29, u 30, u 31, u 32, u 33, u 34, u 35, u 36, u 37, u 38, u 39, u 40, u 41, u 42, u 43, u 44, u 45, u 46, u 47, u 48, u 49, u 50, u 51, u 52], []⟩ := ⟨sl a, fun _ => rfl, h.lay⟩

set_option maxRecDepth 20000 in
theorem lay220 {a : Act} (h : Fr 220 a) : ∃ u : Nat → Value, (∀ i, sl a i = u i) ∧ a = ⟨#[u 0, u 1, u 2, u 3, u 4, u 5, u 6, u 7, u 8, u 9, u 10, u 11, u 12, u 13, u 14, u 15, u 16, u 17, u 18, u 19, u 20, u 21, u 22, u 23, u 24, u 25, u 26, u 27, u 28, u 29, u 30, u 31, u 32, u 33, u 34, u 35, u 36, u 37, u 38, u 39, u 40, u 41, u 42, u 43, u 44, u 45, u 46, u 47, u 48, u 49, u 50, u 51, u 52, u 53, u 54, u 55, u 56, u 57, u 58, u 59, u 60, u 61, u 62, u 63, u 64, u 65, u 66, u 67, u 68, u 69, u 70, u 71, u 72, u 73, u 74, u 75, u 76, u 77, u 78, u 79, u 80, u 81, u 82, u 83, u 84, u 85, u 86, u 87, u 88, u 89, u 90, u 91, u 92, u 93, u 94, u 95, u 96, u 97, u 98, u 99, u 100, u 101, u 102, u 103, u 104, u 105, u 106, u 107, u 108, u 109, u 110, u 111, u 112, u 113, u 114, u 115, u 116, u 117, u 118, u 119, u 120, u 121, u 122, u 123, u 124, u 125, u 126, u 127, u 128, u 129, u 130, u 131, u 132, u 133, u 134, u 135, u 136, u 137, u 138, u 139, u 140, u 141, u 142, u 143, u 144, u 145, u 146, u 147, u 148, u 149, u 150, u 151, u 152, u 153, u 154, u 155, u 156, u 157, u 158, u 159, u 160, u 161, u 162, u 163, u 164, u 165, u 166, u 167, u 168, u 169, u 170, u 171, u 172, u 173, u 174, u 175, u 176, u 177, u 178, u 179, u 180, u 181, u 182, u 183, u 184, u 185, u 186, u 187, u 188, u 189, u 190, u 191, u 192, u 193, u 194, u 195, u 196, u 197, u 198, u 199, u 200, u 201, u 202, u 203, u 204, u 205, u 206, u 207, u 208, u 209, u 210, u 211, u 212, u 213, u 214, u 215, u 216, u 217, u 218, u 219], []⟩ := ⟨sl a, fun _ => rfl, h.lay⟩

set_option maxRecDepth 20000 in
theorem lay58 {a : Act} (h : Fr 58 a) : ∃ u : Nat → Value, (∀ i, sl a i = u i) ∧ a = ⟨#[u 0, u 1, u 2, u 3, u 4, u 5, u 6, u 7, u 8, u 9, u 10, u 11, u 12, u 13, u 14, u 15, u 16, u 17, u 18, u 19, u 20, u 21, u 22, u 23, u 24, u 25, u 26, u 27, u 28, u 29, u 30, u 31, u 32, u 33, u 34, u 35, u 36, u 37, u 38, u 39, u 40, u 41, u 42, u 43, u 44, u 45, u 46, u 47, u 48, u 49, u 50, u 51, u 52, u 53, u 54, u 55, u 56, u 57], []⟩ := ⟨sl a, fun _ => rfl, h.lay⟩

set_option maxRecDepth 20000 in
theorem lay38 {a : Act} (h : Fr 38 a) : ∃ u : Nat → Value, (∀ i, sl a i = u i) ∧ a = ⟨#[u 0, u 1, u 2, u 3, u 4, u 5, u 6, u 7, u 8, u 9, u 10, u 11, u 12, u 13, u 14, u 15, u 16, u 17, u 18, u 19, u 20, u 21, u 22, u 23, u 24, u 25, u 26, u 27, u 28, u 29, u 30, u 31, u 32, u 33, u 34, u 35, u 36, u 37], []⟩ := ⟨sl a, fun _ => rfl, h.lay⟩

set_option maxRecDepth 20000 in
theorem lay29 {a : Act} (h : Fr 29 a) : ∃ u : Nat → Value, (∀ i, sl a i = u i) ∧ a = ⟨#[u 0, u 1, u 2, u 3, u 4, u 5, u 6, u 7, u 8, u 9, u 10, u 11, u 12, u 13, u 14, u 15, u 16, u 17, u 18, u 19, u 20, u 21, u 22, u 23, u 24, u 25, u 26, u 27, u 28], []⟩ := ⟨sl a, fun _ => rfl, h.lay⟩

end Go.Proofs.Qxb6601010a
