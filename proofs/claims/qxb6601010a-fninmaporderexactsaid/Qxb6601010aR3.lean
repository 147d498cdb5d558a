import Derived.Test.Qxb6601010aR2
namespace Go.Proofs.Qxb6601010a
open Go.RowKit
set_option linter.unusedSimpArgs false
set_option linter.unusedVariables false

theorem Try.info39 : (Try.prog.info? 39).map (fun i => (i.zero, i.size, i.bytes)) = some (some (.agg #[.string ⟨#[]⟩, .slice none 0 0]), 2, 40) := by kernel_rfl
theorem info39 : ∃ i, Try.prog.info? 39 = some i ∧ i.zero = some (.agg #[.string ⟨#[]⟩, .slice none 0 0]) ∧ i.size = 2 ∧ i.bytes = 40 := by
  have h := Try.info39
  cases e : Try.prog.info? 39 with
  | none => rw [e] at h; cases h
  | some i => rw [e] at h; simp only [Option.map_some, Option.some.injEq, Prod.mk.injEq] at h; exact ⟨i, rfl, h.1, h.2.1, h.2.2⟩

set_option maxRecDepth 10000 in
set_option maxHeartbeats 1000000 in
theorem h0 (x : Option Addr) (n cn : Nat) (a : Act) (w : World) (Q : Exit → Act → World → Prop) (hfr : Fr 29 a) (hs : Slots [(0, .slice x n cn)] a)
    (hQ : ∀ a', Fr 29 a' → Slots [(0, .slice x n cn)] a' → Q .normal a' w) :
    Code.wp Try.prog (nthC 0 (bodyC Try.f17)) Q a w := by
  obtain ⟨u, hu, rfl⟩ := lay29 hfr
  obtain ⟨s0, -⟩ := hs
  replace s0 : u 0 = .slice x n cn := (hu 0).symm.trans s0
  rw [s0]
  clear hfr hu s0
  conv => arg 2; whnf
  have H : Hid _ := hQ
  clear hQ
  go_wp2
  exact H.out _ ⟨rfl, rfl⟩ ⟨rfl, trivial⟩

set_option maxRecDepth 10000 in
set_option maxHeartbeats 1000000 in
theorem h1 (x : Option Addr) (n cn : Nat) (a : Act) (w : World) (Q : Exit → Act → World → Prop) (hfr : Fr 29 a) (hs : Slots [(0, .slice x n cn)] a)
    (ln : n ≤ 4096) (hQ : ∀ a', Fr 29 a' → Slots [(0, .slice x n cn), (3, .slice (some ⟨w.heap.size, 0, none⟩) n n)] a' → Q .normal a' (w.alloc (.cells (madeCells #[.string ⟨#[]⟩, .slice none 0 0] (n * 2)) 39))) :
    Code.wp Try.prog (nthC 1 (bodyC Try.f17)) Q a w := by
  obtain ⟨u, hu, rfl⟩ := lay29 hfr
  obtain ⟨s0, -⟩ := hs
  replace s0 : u 0 = .slice x n cn := (hu 0).symm.trans s0
  rw [s0]
  clear hfr hu s0
  conv => arg 2; whnf
  have hmk := fun wx => run_mk (P := Try.prog) 34 39 (.agg #[.string ⟨#[]⟩, .slice none 0 0]) 2 40 Try.underlying34 Try.info39 n (by omega) (by omega) wx
  have hl2 : (n : Int) ≤ 9223372036854775807 := by omega
  have H : Hid _ := hQ
  clear hQ
  go_wp2
  exact H.out _ ⟨rfl, rfl⟩ ⟨rfl, rfl, trivial⟩

set_option maxRecDepth 10000 in
set_option maxHeartbeats 1000000 in
theorem h2i (x : Option Addr) (n cn : Nat) (hb : Nat) (a : Act) (w : World) (Q : Exit → Act → World → Prop) (hfr : Fr 29 a) (hs : Slots [(0, .slice x n cn), (3, .slice (some ⟨hb, 0, none⟩) n n)] a)
    (hQ : ∀ a', Fr 29 a' → Slots [(0, .slice x n cn), (3, .slice (some ⟨hb, 0, none⟩) n n), (4, .int .i64 (0 : Nat))] a' → Q .normal a' w) :
    Code.wp Try.prog (hdC (nthC 2 (bodyC Try.f17))) Q a w := by
  obtain ⟨u, hu, rfl⟩ := lay29 hfr
  obtain ⟨s0, s3, -⟩ := hs
  replace s0 : u 0 = .slice x n cn := (hu 0).symm.trans s0
  replace s3 : u 3 = .slice (some ⟨hb, 0, none⟩) n n := (hu 3).symm.trans s3
  rw [s0, s3]
  clear hfr hu s0 s3
  conv => arg 2; whnf
  have H : Hid _ := hQ
  clear hQ
  go_wp2
  exact H.out _ ⟨rfl, rfl⟩ ⟨rfl, rfl, rfl, trivial⟩

set_option maxRecDepth 10000 in
set_option maxHeartbeats 1000000 in
theorem h3h (x : Option Addr) (n cn : Nat) (hb : Nat) (i : Nat) (a : Act) (w : World) (Q : Exit → Act → World → Prop) (hfr : Fr 29 a) (hs : Slots [(0, .slice x n cn), (3, .slice (some ⟨hb, 0, none⟩) n n), (4, .int .i64 (i : Nat))] a)
    (hQ : ∀ a', i < n → Fr 29 a' → Slots [(0, .slice x n cn), (3, .slice (some ⟨hb, 0, none⟩) n n), (4, .int .i64 (i : Nat))] a' → Q .normal a' w) (hexit : ∀ a', ¬ i < n → Fr 29 a' → Slots [(0, .slice x n cn), (3, .slice (some ⟨hb, 0, none⟩) n n)] a' → Q (.exit 0) a' w) :
    Code.wp Try.prog (hdC (inC (inC (tlC (nthC 2 (bodyC Try.f17)))))) Q a w := by
  obtain ⟨u, hu, rfl⟩ := lay29 hfr
  obtain ⟨s0, s3, s4, -⟩ := hs
  replace s0 : u 0 = .slice x n cn := (hu 0).symm.trans s0
  replace s3 : u 3 = .slice (some ⟨hb, 0, none⟩) n n := (hu 3).symm.trans s3
  replace s4 : u 4 = .int .i64 (i : Nat) := (hu 4).symm.trans s4
  rw [s0, s3, s4]
  clear hfr hu s0 s3 s4
  conv => arg 2; whnf
  have H : Hid _ := hQ
  have HX : Hid _ := hexit
  clear hQ hexit
  by_cases hlt : i < n
  · have l : (i : Int) < n := by omega
    go_wp2
    exact H.out _ hlt ⟨rfl, rfl⟩ ⟨rfl, rfl, rfl, trivial⟩
  · have l : ¬ ((i : Int) < n) := by omega
    go_wp2
    exact HX.out _ hlt ⟨rfl, rfl⟩ ⟨rfl, rfl, trivial⟩

set_option maxRecDepth 10000 in
set_option maxHeartbeats 1000000 in
theorem h5 (n cn hb i nb no : Nat) (nm : ByteArray) (cur : Array Value) (a : Act) (w : World) (Q : Exit → Act → World → Prop) (hfr : Fr 29 a) (hs : Slots [(0, .slice (some ⟨nb, no, none⟩) n cn), (3, .slice (some ⟨hb, 0, none⟩) n n), (4, .int .i64 (i : Nat))] a)
    (li : (i : Int) < n) (ln : (n : Int) ≤ 4096) (hc : w.cell? ⟨nb, no + i, none⟩ = some (.string nm)) (hB : IsB w hb cur 39) (hz : cur.size = n * 2)
    (hQ : ∀ a', Fr 29 a' → Slots [(0, .slice (some ⟨nb, no, none⟩) n cn), (3, .slice (some ⟨hb, 0, none⟩) n n), (4, .int .i64 (i : Nat))] a' → Q .normal a' ((put2 w hb i ⟨nm, w.heap.size⟩).alloc (.cells #[.int .u8 ((i % 256 : Nat) : Int), .int .u8 ((i / 256 : Nat) : Int)] 5))) :
    Code.wp Try.prog (inC (hdC (tlC (inC (inC (tlC (nthC 2 (bodyC Try.f17)))))))) Q a w := by
  obtain ⟨u, hu, rfl⟩ := lay29 hfr
  obtain ⟨s0, s3, s4, -⟩ := hs
  replace s0 : u 0 = .slice (some ⟨nb, no, none⟩) n cn := (hu 0).symm.trans s0
  replace s3 : u 3 = .slice (some ⟨hb, 0, none⟩) n n := (hu 3).symm.trans s3
  replace s4 : u 4 = .int .i64 (i : Nat) := (hu 4).symm.trans s4
  rw [s0, s3, s4]
  clear hfr hu s0 s3 s4
  conv => arg 2; whnf
  have hlt := hB.lt
  have z0 : cur[i * 2]? = some (cur[i * 2]'(by omega)) := Array.getElem?_eq_getElem _
  have z1 : cur[i * 2 + 1]? = some (cur[i * 2 + 1]'(by omega)) := Array.getElem?_eq_getElem _
  have b0 : w.cell? ⟨hb, i * 2, none⟩ = some (cur[i * 2]'(by omega)) := (hB.cell _).trans z0
  have b1 : w.cell? ⟨hb, i * 2 + 1, none⟩ = some (cur[i * 2 + 1]'(by omega)) := (hB.cell _).trans z1
  have fz0 := hB.frozen (i * 2)
  have fz1 := hB.frozen (i * 2 + 1)
  have e1 : IntKind.u8.wrap (i : Int) = ((i % 256 : Nat) : Int) := by rw [IntKind.wrap_u8]; omega
  have e2 : (i : Int) / 256 = ((i / 256 : Nat) : Int) := by omega
  have e3 : IntKind.u8.wrap ((i / 256 : Nat) : Int) = ((i / 256 : Nat) : Int) := by rw [IntKind.wrap_u8]; omega
  have hne : hb ≠ w.heap.size := by omega
  generalize cur[i * 2]'(by omega) = c0 at *
  generalize cur[i * 2 + 1]'(by omega) = c1 at *
  generalize i % 256 = x0 at *
  generalize i / 256 = x1 at *
  clear z0 z1 hB hz
  have H : Hid _ := hQ
  clear hQ
  unfold put2 Hd.val at H
  go_wp2
  exact H.out _ ⟨rfl, rfl⟩ ⟨rfl, rfl, rfl, trivial⟩

set_option maxRecDepth 10000 in
set_option maxHeartbeats 1000000 in
theorem h4n (x : Option Addr) (n cn : Nat) (hb : Nat) (i : Nat) (a : Act) (w : World) (Q : Exit → Act → World → Prop) (hfr : Fr 29 a) (hs : Slots [(0, .slice x n cn), (3, .slice (some ⟨hb, 0, none⟩) n n), (4, .int .i64 (i : Nat))] a)
    (hk : (i : Int) ≤ 4096) (hQ : ∀ a', Fr 29 a' → Slots [(0, .slice x n cn), (3, .slice (some ⟨hb, 0, none⟩) n n), (4, .int .i64 (i + 1 : Nat))] a' → Q .normal a' w) :
    Code.wp Try.prog (tlC (tlC (inC (inC (tlC (nthC 2 (bodyC Try.f17))))))) Q a w := by
  obtain ⟨u, hu, rfl⟩ := lay29 hfr
  obtain ⟨s0, s3, s4, -⟩ := hs
  replace s0 : u 0 = .slice x n cn := (hu 0).symm.trans s0
  replace s3 : u 3 = .slice (some ⟨hb, 0, none⟩) n n := (hu 3).symm.trans s3
  replace s4 : u 4 = .int .i64 (i : Nat) := (hu 4).symm.trans s4
  rw [s0, s3, s4]
  clear hfr hu s0 s3 s4
  conv => arg 2; whnf
  have H : Hid _ := hQ
  clear hQ
  go_wp2
  exact H.out _ ⟨rfl, rfl⟩ ⟨rfl, rfl, rfl, trivial⟩

set_option maxRecDepth 10000 in
set_option maxHeartbeats 1000000 in
theorem h6 (x : Option Addr) (n cn : Nat) (hb : Nat) (a : Act) (w : World) (Q : Exit → Act → World → Prop) (hfr : Fr 29 a) (hs : Slots [(0, .slice x n cn), (3, .slice (some ⟨hb, 0, none⟩) n n)] a)
    (hret : ∀ a', Fr 29 a' → sl a' 2 = .slice (some ⟨hb, 0, none⟩) n n → Q .ret a' w) :
    Code.wp Try.prog (dropC 3 (bodyC Try.f17)) Q a w := by
  obtain ⟨u, hu, rfl⟩ := lay29 hfr
  obtain ⟨s0, s3, -⟩ := hs
  replace s0 : u 0 = .slice x n cn := (hu 0).symm.trans s0
  replace s3 : u 3 = .slice (some ⟨hb, 0, none⟩) n n := (hu 3).symm.trans s3
  rw [s0, s3]
  clear hfr hu s0 s3
  conv => arg 2; whnf
  have H : Hid _ := hret
  clear hret
  go_wp2
  exact H.out _ ⟨rfl, rfl⟩ rfl

/-- The i-th header's value. -/
def HV (w : World) (h0 n : Nat) : Prop := ∀ j, j < n → IsB w (h0 + 1 + j) #[.int .u8 ((j % 256 : Nat) : Int), .int .u8 ((j / 256 : Nat) : Int)] 5
def hdOf (nm : Nat → ByteArray) (h0 : Nat) (j : Nat) : Hd := ⟨nm j, h0 + 1 + j⟩

theorem headers17 (x : Option Addr) (nb no n cn : Nat) (nm : Nat → ByteArray) (w : World) (hR : RowS x nb no n nm w) (ln : n ≤ 4096) :
    Calls Try.prog 17 #[.slice x n cn] w fun e w' => e = .returned (.slice (some ⟨w.heap.size, 0, none⟩) n n) ∧ Kept [] w w' ∧ HB w' w.heap.size n (hdOf nm w.heap.size) (fun j => j) ∧ HV w' w.heap.size n := by
  refine calls_nav 29 Try.func17 rfl rfl (by simp) fun a fr0 ha => ?_
  have s0 : Slots [(0, .slice x n cn)] a := ⟨ha 0 (by simp), trivial⟩
  refine wp_nav rfl (h0 _ _ _ _ _ _ fr0 s0 fun a1 f1 s1 => ?_)
  refine wp_nav rfl (h1 _ _ _ _ _ _ f1 s1 ln fun a2 f2 s2 => ?_)
  have kA : Kept [] w (w.alloc (.cells (madeCells #[.string ⟨#[]⟩, .slice none 0 0] (n * 2)) 39)) := (Kept.refl _ _).alloc _
  have nA := IsB.new w (madeCells #[.string ⟨#[]⟩, .slice none 0 0] (n * 2)) 39
  have zA : (w.alloc (.cells (madeCells #[.string ⟨#[]⟩, .slice none 0 0] (n * 2)) 39)).heap.size = w.heap.size + 1 := by simp
  have zc : (madeCells #[Value.string ⟨#[]⟩, .slice none 0 0] (n * 2)).size = n * 2 := by simp [madeCells]
  generalize w.alloc (.cells (madeCells #[.string ⟨#[]⟩, .slice none 0 0] (n * 2)) 39) = w1 at *
  generalize madeCells #[Value.string ⟨#[]⟩, .slice none 0 0] (n * 2) = cz at *
  refine wp_nav rfl (wp_nav rfl (h2i _ _ _ _ _ _ _ f2 s2 fun a3 f3 s3 => ?_))
  refine wp_navB (id := 0) rfl ?_
  refine wp_navL rfl (wp_loop (fun a' w' => ∃ (i : Nat) (cur : Array Value), i ≤ n ∧ Kept [] w w' ∧ w'.heap.size = w.heap.size + 1 + i ∧ IsB w' w.heap.size cur 39 ∧ cur.size = n * 2 ∧ (∀ j, j < i → cur[j * 2]? = some (.string (nm j)) ∧ cur[j * 2 + 1]? = some (hdOf nm w.heap.size j).val) ∧ HV w' w.heap.size i ∧ Fr 29 a' ∧ Slots [(0, .slice x n cn), (3, .slice (some ⟨w.heap.size, 0, none⟩) n n), (4, .int .i64 (i : Nat))] a') (fun a' _ => n - (intOf (sl a' 4)).toNat) ⟨0, cz, Nat.zero_le _, kA, by omega, nA, zc, fun j hj => by omega, fun j hj => by omega, f3, s3⟩ ?_)
  rintro a4 w4 ⟨i, cur, hi, kp, hsz, hB, hz, hc, hV, f4, s4⟩
  have mu : (intOf (sl a4 4)).toNat = i := by
    have : sl a4 4 = .int .i64 (i : Nat) := s4.2.2.1
    rw [this]; simp only [intOf]; omega
  refine wp_nav rfl (h3h _ _ _ _ i _ _ _ f4 s4 (fun a5 hlt f5 s5 => ?_) (fun a5 hke f5 s5 => ?_))
  · have e := hR.ptr (by omega)
    subst e
    refine wp_nav rfl (wp_navB (id := 1) rfl ?_)
    refine h5 n cn w.heap.size i nb no (nm i) cur a5 w4 _ f5 s5 (by omega) (by omega) ((hR.keep kp (by simp)).cell i hlt) hB hz fun a6 f6 s6 => ?_
    have kP : Kept [] w (put2 w4 w.heap.size i ⟨nm i, w4.heap.size⟩) := kp.put2 i _ (.inr (Nat.le_refl _))
    have hBp : IsB (put2 w4 w.heap.size i ⟨nm i, w4.heap.size⟩) w.heap.size _ 39 := (hB.set _ _).set _ _
    have hVp : HV (put2 w4 w.heap.size i ⟨nm i, w4.heap.size⟩) w.heap.size i := fun j hj => IsB.off (IsB.off (hV j hj) _ (by show w.heap.size ≠ _; omega)) _ (by show w.heap.size ≠ _; omega)
    have zP : (put2 w4 w.heap.size i ⟨nm i, w4.heap.size⟩).heap.size = w4.heap.size := by unfold put2; simp
    generalize put2 w4 w.heap.size i ⟨nm i, w4.heap.size⟩ = w5 at *
    have nV := IsB.new w5 #[.int .u8 ((i % 256 : Nat) : Int), .int .u8 ((i / 256 : Nat) : Int)] 5
    have zA5 : (w5.alloc (.cells #[.int .u8 ((i % 256 : Nat) : Int), .int .u8 ((i / 256 : Nat) : Int)] 5)).heap.size = w5.heap.size + 1 := by simp
    refine h4n _ _ _ _ i _ _ _ f6 s6 (by omega) fun a7 f7 s7 => ?_
    refine ⟨⟨i + 1, _, hlt, kP.alloc _, by omega, hBp.alloc _, by simpa using hz, fun j hj => ?_, fun j hj => ?_, f7, s7⟩, ?_⟩
    · by_cases ej : j = i
      · subst ej
        constructor
        · rw [Array.getElem?_setIfInBounds_ne (by omega), Array.getElem?_setIfInBounds_self]
          simp; omega
        · rw [Array.getElem?_setIfInBounds_self]
          rw [if_pos (by simp; omega)]
          rw [hsz]; rfl
      · obtain ⟨q1, q2⟩ := hc j (by omega)
        constructor
        · rw [Array.getElem?_setIfInBounds_ne (by omega), Array.getElem?_setIfInBounds_ne (by omega)]; exact q1
        · rw [Array.getElem?_setIfInBounds_ne (by omega), Array.getElem?_setIfInBounds_ne (by omega)]; exact q2
    · by_cases ej : j = i
      · subst ej; rw [zP, hsz] at nV; exact nV
      · exact (hVp j (by omega)).alloc _
    have mu2 : (intOf (sl a7 4)).toNat = i + 1 := by
      have : sl a7 4 = .int .i64 (i + 1 : Nat) := s7.2.2.1
      rw [this]; simp only [intOf]; omega
    rw [mu, mu2]; omega
  · obtain rfl : i = n := by omega
    simp only [Exit.inBlock, Exit.then, if_true]
    refine h6 _ _ _ _ _ _ _ f5 s5 fun a6 f6 t6 => ?_
    refine bodyPost_ret (results_tmp rfl _ _ _) f6.defers ⟨?_, kp, ⟨cur, hB, hc⟩, hV⟩
    rw [show a6.tmps.getD 2 undef = _ from t6]

/-- The 2n cells of n headers. -/
def cellsOf' (E : Nat → Hd) (s : Nat → Nat) (c : Nat) : Value := if c % 2 = 0 then .string (E (s (c / 2))).nm else (E (s (c / 2))).val
theorem HB.cell' {w : World} {b n : Nat} {E : Nat → Hd} {s : Nat → Nat} (h : HB w b n E s) {c : Nat} (hc : c < n * 2) : w.cell? ⟨b, c, none⟩ = some (cellsOf' E s c) := by
  unfold cellsOf'
  by_cases e : c % 2 = 0
  · rw [if_pos e]
    have := h.c0 (j := c / 2) (by omega)
    rwa [show c / 2 * 2 = c by omega] at this
  · rw [if_neg e]
    have := h.c1 (j := c / 2) (by omega)
    rwa [show c / 2 * 2 + 1 = c by omega] at this

theorem wpList_append_run {P : Program} (w : World) {ops : Array Oper} {rest : List Oper} {o : Oper} {a : Act} {Q : Exit → Act → World → Prop}
    (hg : o.guard = none) (s x : Operand) (t : TypeId) (hop : o.op = Op.call { callee := Callee.builtin Builtin.append, args := #[s, x], argTypes := #[t, t] }) (vs vx : Value) (hs : a.eval s = vs) (hx : a.eval x = vx)
    (v' : Value) (w' : World) (hrun : (Builtin.append_ #[t, t] 0 #[vs, vx]).run P w = .ok v' w') (hK : wpList P ops Q rest (a.put o.dst v') w') : wpList P ops Q (o :: rest) a w := by
  refine wpList_plain hg fun K hK' => ?_
  have hrun' : (Builtin.append_ #[t, t] o.type #[vs, vx]).run P w = .ok v' w' := hrun
  unfold Oper.wp
  simp [execOp, hop, resolve, invoke, builtin, hs, hx, hrun', Result.andThen]
  exact hK' _ _ hK

def ClonePost (n : Nat) (E : Nat → Hd) (s : Nat → Nat) (w : World) (e : Ending) (w' : World) : Prop := ∃ g cap, e = .returned (.slice (some ⟨g, 0, none⟩) n cap) ∧ w.heap.size ≤ g ∧ n ≤ cap ∧ cap ≤ maxLen ∧ Kept [] w w' ∧ HB w' g n E s ∧ (∃ cur, IsB w' g cur 39 ∧ cur.size = cap * 2)

theorem clone25 (b n c : Nat) (E : Nat → Hd) (s : Nat → Nat) (w : World) (hH : HB w b n E s) (h0 : 0 < n) (ln : n ≤ 4096) : Calls Try.prog 25 #[.slice (some ⟨b, 0, none⟩) n c] w (ClonePost n E s w) := by
  have q := fun (w : World) (a : Option Addr) (n c n' c' : Nat) => Lib.run_eql_slice_nil (P := Try.prog) w 34 _ a n c n' c' Try.underlying34
  have kA : Kept [] w (w.alloc (.cells #[] 39)) := (Kept.refl _ _).alloc _
  have own0 : (w.alloc (.cells #[] 39)).ownsRow w.heap.size 39 2 (.slice (some ⟨w.heap.size, 0, none⟩) 0 0) 0 [] := ⟨rfl, .inr ⟨w.heap.size, 0, #[], rfl, Nat.le_refl _, IsB.new w #[] 39, Nat.le_refl _, Nat.zero_le _, rfl, rfl⟩⟩
  have hHa := hH.keep kA (by simp)
  obtain ⟨i, hi, hz, hs, hb⟩ := info39
  obtain ⟨v', w', hrun, how, hgr, -, hwhere⟩ := run_append_own_at (P := Try.prog) (w.alloc (.cells #[] 39)) w.heap.size 34 0 39 i _ 2 40 Try.underlying34 hi hz hs hb rfl (by omega) _ 0 [] own0 ⟨b, 0, none⟩ n c ((List.range (n * 2)).map (cellsOf' E s)) (by simp)
    (fun j u hj => by
      have hjn : j < n * 2 := by
        rcases Nat.lt_or_ge j (n * 2) with h | h
        · exact h
        · rw [List.getElem?_eq_none (by simpa using h)] at hj; cases hj
      rw [List.getElem?_map, List.getElem?_range hjn] at hj
      cases hj
      rw [Addr.add_lit, Nat.zero_add]
      exact hHa.cell' hjn)
    (fun u hu => by
      obtain ⟨k, -, rfl⟩ := List.mem_map.1 hu
      unfold cellsOf'
      split <;> rfl)
    (by unfold maxLen; omega) (by omega) (by simp)
  have hres : ∃ g cap, v' = .slice (some ⟨g, 0, none⟩) n cap ∧ w.heap.size ≤ g ∧ n ≤ cap ∧ cap ≤ maxLen ∧ HB w' g n E s ∧ (∃ cur, IsB w' g cur 39 ∧ cur.size = cap * 2) := by
    rcases how.2 with ⟨q1, q2⟩ | ⟨g, cap, cur, q1, q0, q2, q3, q4, q5, q6⟩
    · omega
    · refine ⟨g, cap, by rw [q1, Nat.zero_add], q0, by omega, q4, ⟨cur, q2, fun j hj => ?_⟩, cur, q2, q5⟩
      have at_ : ∀ k, k < n * 2 → cur[k]? = some (cellsOf' E s k) := fun k hk => by
        have : (cur.toList.take ((0 + n) * 2))[k]? = some (cellsOf' E s k) := by
          rw [q6, List.nil_append, List.getElem?_map, List.getElem?_range hk]; rfl
        rw [List.getElem?_take, if_pos (by omega)] at this
        simpa using this
      constructor
      · rw [at_ _ (by omega)]; unfold cellsOf'; rw [if_pos (by omega), show j * 2 / 2 = j by omega]
      · rw [at_ _ (by omega)]; unfold cellsOf'; rw [if_neg (by omega), show (j * 2 + 1) / 2 = j by omega]
  obtain ⟨g, cap, rfl, g1, g2, g3, g4, g5⟩ := hres
  have kB : Kept [] w w' := ⟨hgr.os.trans kA.os, hgr.tape.trans kA.tape, hgr.output.trans kA.output, Nat.le_trans kA.size hgr.size, fun k hk hn => (hgr.block k (Nat.lt_of_lt_of_le hk kA.size) (fun e => by simp [Value.ownBlock] at e; omega)).trans (kA.block k hk hn)⟩
  have HR : Hid _ := hrun
  have HP : Hid (ClonePost n E s w (.returned (.slice (some ⟨g, 0, none⟩) n cap)) w') := ⟨g, cap, rfl, g1, g2, g3, kB, g4, g5⟩
  have l0 : ¬ ((n : Int) = 0) := by omega
  clear hrun how hgr hwhere own0 hHa kA kB g1 g2 g3 g4 g5 hH hi hz hs hb
  go_enter Try.func25, Try.ntmps25
  go_wp2_with (first | (at_builtin; refine wpList_append_run _ rfl _ _ 34 rfl _ _ rfl rfl _ w' HR.out ?_))
  go_ret
  exact HP.out

end Go.Proofs.Qxb6601010a
