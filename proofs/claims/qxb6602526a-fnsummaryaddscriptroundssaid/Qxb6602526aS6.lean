import Derived.Test.Qxb6602526aS5
namespace Go.Proofs.Qxb6602526a
open Go.RowKit
set_option linter.unusedSimpArgs false
set_option linter.unusedVariables false

/-- The memory of 'add' behind k nodes; w0: the world in which it was called. -/
structure AddR (s : SumS) (N : Nat → NodeD) (bs : Nat) (w0 : World) (k : Nat) (wr : World) : Prop where
  hs : IsB wr bs (s.after N k).arr 41
  hp : IsB wr (w0.heap.size + 1) (two (anyTo (fun i => proposes 0 (N i)) k) (anyTo (fun i => proposes 1 (N i)) k)) 97
  hr : IsB wr (w0.heap.size + 2) (two (anyTo (fun i => reports 1 (N i)) k) (anyTo (fun i => reports 2 (N i)) k)) 97
  kept : Kept [bs] w0 wr
  size : w0.heap.size + 3 ≤ wr.heap.size

theorem at_keep {x : NodeD} {w w' : World} {b o bs : Nat} (h : x.at w b o) (hk : Kept [bs] w w') (hb : b < w.heap.size) (hn : b ≠ bs) : x.at w' b o := by
  obtain ⟨h0, h1, h2, h3, h4⟩ := h
  have e : ∀ i, w'.cell? ⟨b, i, none⟩ = w.cell? ⟨b, i, none⟩ := fun i => hk.cell (p := ⟨b, i, none⟩) hb (by simpa using hn)
  exact ⟨by rw [e]; exact h0, by rw [e]; exact h1, by rw [e]; exact h2, by rw [e]; exact h3, by rw [e]; exact h4⟩

theorem one_keep {w w' : World} {b bs : Nat} {v : Value} (hk : Kept [bs] w w') (hb : b < w.heap.size) (hn : b ≠ bs) (h : w.cell? ⟨b, 0, none⟩ = some v) : w'.cell? ⟨b, 0, none⟩ = some v := by
  rw [hk.cell (p := ⟨b, 0, none⟩) hb (by simpa using hn)]; exact h

/-- The state of the loop. -/
def AddI (s : SumS) (N : Nat → NodeD) (bs bn nn : Nat) (w0 : World) (a : Act) (wr : World) : Prop :=
  ∃ k, k ≤ nn ∧ AddH bs (w0.heap.size + 1) (w0.heap.size + 2) bn nn (lastTo N k) (!anyTo (fun i => undecided (N i)) k) (anyTo (fun i => reports 3 (N i)) k) k a ∧ AddR s N bs w0 k wr

def AddMu (nn : Nat) (a : Act) : Nat := nn - (intOf (sl a 55)).toNat

theorem AddH.mu {bs bp br bn nn : Nat} {l : Int} {ad er : Bool} {k : Nat} {a : Act} (h : AddH bs bp br bn nn l ad er k a) : AddMu nn a = nn - k := by
  simp [AddMu, h.s55, intOf]

theorem add_round_all (s : SumS) (N : Nat → NodeD) (bs bn nn : Nat) (w0 : World) (Q : Exit → Act → World → Prop)
    (hnn : (nn : Int) ≤ 9223372036854775807) (hbs : bs < w0.heap.size) (hbn : bn < w0.heap.size) (hne : bn ≠ bs)
    (hat : ∀ i, i < nn → (N i).at w0 bn (i * 5)) (hled : ∀ i, i < nn → (N i).led w0 bs)
    (hexit : ∀ a' w', AddH bs (w0.heap.size + 1) (w0.heap.size + 2) bn nn (lastTo N nn) (!anyTo (fun i => undecided (N i)) nn) (anyTo (fun i => reports 3 (N i)) nn) nn a' → AddR s N bs w0 nn w' → Q (.exit 0) a' w')
    (a : Act) (wr : World) (hI : AddI s N bs bn nn w0 a wr) :
    Code.wp Try.prog (inC (inC (tlC (nthC 8 (bodyC Try.f34))))) (Exit.then (fun a' w' => AddI s N bs bn nn w0 a' w' ∧ AddMu nn a' < AddMu nn a) Q) a wr := by
  obtain ⟨k, hk, hH, hR⟩ := hI
  have hmu := hH.mu
  refine wp_nav rfl (add_r9 _ _ _ _ _ _ _ _ _ _ _ _ hH fun a1 h1 h56 => ?_)
  refine wp_nav rfl (add_c56 _ _ _ _ h56 (fun ht => ?_) (fun hF => ?ex))
  case ex =>
    have : k = nn := by have := of_decide_eq_false hF; omega
    subst this
    exact hexit _ _ h1 hR
  have hlt : k < nn := of_decide_eq_true ht
  refine wp_nav rfl (wp_navB (id := 1) rfl ?_)
  have hnext : ∀ a2 w2, AddH bs (w0.heap.size + 1) (w0.heap.size + 2) bn nn (lastTo N (k + 1)) (!anyTo (fun i => undecided (N i)) (k + 1)) (anyTo (fun i => reports 3 (N i)) (k + 1)) k a2 → AddR s N bs w0 (k + 1) w2 →
      Code.wp Try.prog (tlC (tlC (tlC (inC (inC (tlC (nthC 8 (bodyC Try.f34)))))))) (Exit.then (fun a' w' => AddI s N bs bn nn w0 a' w' ∧ AddMu nn a' < AddMu nn a) Q) a2 w2 := by
    intro a2 w2 h2 r2
    refine add_next _ _ _ _ _ _ _ _ _ _ _ _ h2 (by omega) fun a3 h3 => ?_
    exact ⟨⟨k + 1, by omega, h3, r2⟩, by rw [h3.mu, hmu]; omega⟩
  have hx := hat k hlt
  have hl := hled k hlt
  generalize hX : N k = x at hx hl
  have hx' := at_keep hx hR.kept hbn hne
  refine wp_nav rfl (add_load _ _ _ _ _ _ _ _ _ x _ _ _ h1 hlt hnn hx' fun a2 h2 => ?_)
  have hbx : IsB (wr.alloc (.cells #[.int .i64 x.nd, .bool x.fa, .pointer (x.pa.map ptr), .pointer (x.rs.map ptr), .pointer (x.ro.map ptr)] 47)) wr.heap.size #[.int .i64 x.nd, .bool x.fa, .pointer (x.pa.map ptr), .pointer (x.rs.map ptr), .pointer (x.ro.map ptr)] 47 := IsB.new _ _ _
  have k1 := hR.kept.alloc (.cells #[.int .i64 x.nd, .bool x.fa, .pointer (x.pa.map ptr), .pointer (x.rs.map ptr), .pointer (x.ro.map ptr)] 47)
  have s1 := hR.hs.alloc (.cells #[.int .i64 x.nd, .bool x.fa, .pointer (x.pa.map ptr), .pointer (x.rs.map ptr), .pointer (x.ro.map ptr)] 47)
  have p1 := hR.hp.alloc (.cells #[.int .i64 x.nd, .bool x.fa, .pointer (x.pa.map ptr), .pointer (x.rs.map ptr), .pointer (x.ro.map ptr)] 47)
  have r1 := hR.hr.alloc (.cells #[.int .i64 x.nd, .bool x.fa, .pointer (x.pa.map ptr), .pointer (x.rs.map ptr), .pointer (x.ro.map ptr)] 47)
  have z1 : wr.heap.size < (wr.alloc (.cells #[.int .i64 x.nd, .bool x.fa, .pointer (x.pa.map ptr), .pointer (x.rs.map ptr), .pointer (x.ro.map ptr)] 47)).heap.size := by simp
  generalize wr.alloc (.cells #[.int .i64 x.nd, .bool x.fa, .pointer (x.pa.map ptr), .pointer (x.rs.map ptr), .pointer (x.ro.map ptr)] 47) = w1 at *
  have hsz := hR.size
  generalize wr.heap.size = bx at *
  refine wp_nav rfl (add_faulty _ _ _ _ _ _ _ _ _ _ x.fa _ _ _ h2 (hbx.cell 1) (fun a3 ht h3 => ?_) (fun a3 hF h3 => ?_))
  · -- a faulty node counts nowhere
    refine hnext _ _ ?_ ?_
    · have e1 : lastTo N (k + 1) = lastTo N k := by simp [lastTo, hX, ht]
      have e2 : anyTo (fun i => undecided (N i)) (k + 1) = anyTo (fun i => undecided (N i)) k := by simp [anyTo, undecided, hX, ht]
      have e3 : anyTo (fun i => reports 3 (N i)) (k + 1) = anyTo (fun i => reports 3 (N i)) k := by simp [anyTo, reports, hX, ht]
      rw [e1, e2, e3]; exact h3.head
    · refine ⟨by rw [after_faulty _ _ _ (by rw [hX]; exact ht)]; exact s1, ?_, ?_, k1, by omega⟩
      · simpa [anyTo, proposes, hX, ht] using p1
      · simpa [anyTo, reports, hX, ht] using r1
  · obtain ⟨l1, ⟨rb, hrb, rb1, rb2, rb3⟩, l3⟩ := hl hF
    have hne1 : bs ≠ w0.heap.size + 1 := by omega
    refine wp_nav rfl (add_prop _ _ _ _ _ _ _ _ _ _ x _ _ _ _ _ h3 hF (hbx.cell 2) (fun b hb => ⟨one_keep k1 (l1 b hb).1 (l1 b hb).2.1 (l1 b hb).2.2.1, (l1 b hb).2.2.2⟩) p1 fun a4 w4 h4 kp4 z4 p4 => ?_)
    have kp4' : Kept [bs] w0 w4 := ⟨kp4.os.trans k1.os, kp4.tape.trans k1.tape, kp4.output.trans k1.output, Nat.le_trans k1.size kp4.size, fun i hi hn => (kp4.block i (by have := k1.size; omega) (by simp; omega)).trans (k1.block i hi hn)⟩
    have bx4 := kp4.isB hbx (by simp; omega)
    have s4 := kp4.isB s1 (by simpa using hne1)
    have r4 := kp4.isB r1 (by simp)
    refine wp_nav rfl (add_round _ _ _ _ _ _ _ _ _ _ x _ _ _ h4 hF (bx4.cell 4) (fun b hb => one_keep kp4' (l3 b hb).1 (l3 b hb).2.1 (l3 b hb).2.2) fun a5 h5 => ?_)
    have c3 : w4.cell? ⟨bx, 3, none⟩ = some (.pointer (some ⟨rb, 0, none⟩)) := by rw [bx4.cell 3, hrb]; rfl
    refine wp_nav rfl (add_result s N _ _ _ _ _ _ rb _ _ _ _ _ _ _ h5 (by rw [hX]; exact hF) c3 (by rw [hX]; exact one_keep kp4' rb1 rb2 rb3) s4 fun a6 w6 h6 kp6 z6 s6 => ?_)
    have kp6' := kp4'.trans kp6
    have bx6 := kp6.isB bx4 (by simp; omega)
    have p6 := kp6.isB p4 (by simp; omega)
    have r6 := kp6.isB r4 (by simp; omega)
    have c6 : w6.cell? ⟨bx, 3, none⟩ = some (.pointer (some ⟨rb, 0, none⟩)) := by rw [bx6.cell 3, hrb]; rfl
    refine add_report _ _ _ _ _ _ rb _ _ _ _ x _ _ _ _ _ h6 hF c6 (one_keep kp6' rb1 rb2 rb3) r6 fun a7 w7 h7 kp7 z7 r7 => ?_
    refine hnext _ _ ?_ ?_
    · have e1 : lastTo N (k + 1) = if !x.fa && x.ro.isSome && decide (lastTo N k < x.dv) then x.dv else lastTo N k := by rw [← hX]; rfl
      have e2 : (!anyTo (fun i => undecided (N i)) (k + 1)) = (!anyTo (fun i => undecided (N i)) k && !undecided x) := by simp [anyTo, hX]
      have e3 : anyTo (fun i => reports 3 (N i)) (k + 1) = (anyTo (fun i => reports 3 (N i)) k || reports 3 (N k)) := rfl
      rw [e1, e2, e3]; exact h7.head
    · have kp7' : Kept [bs] w0 w7 := ⟨kp7.os.trans kp6'.os, kp7.tape.trans kp6'.tape, kp7.output.trans kp6'.output, Nat.le_trans kp6'.size kp7.size, fun i hi hn => (kp7.block i (by have := kp6'.size; omega) (by simp; omega)).trans (kp6'.block i hi hn)⟩
      refine ⟨kp7.isB s6 (by simp; omega), ?_, ?_, kp7', by omega⟩
      · have := kp7.isB p6 (by simp)
        simpa [anyTo, hX] using this
      · simpa [anyTo, hX] using r7

/-- The loop of 'add'. -/
theorem add_loop (s : SumS) (N : Nat → NodeD) (bs bn nn : Nat) (w0 : World) (Q : Exit → Act → World → Prop)
    (hnn : (nn : Int) ≤ 9223372036854775807) (hbs : bs < w0.heap.size) (hbn : bn < w0.heap.size) (hne : bn ≠ bs)
    (hat : ∀ i, i < nn → (N i).at w0 bn (i * 5)) (hled : ∀ i, i < nn → (N i).led w0 bs)
    (hexit : ∀ a' w', AddH bs (w0.heap.size + 1) (w0.heap.size + 2) bn nn (lastTo N nn) (!anyTo (fun i => undecided (N i)) nn) (anyTo (fun i => reports 3 (N i)) nn) nn a' → AddR s N bs w0 nn w' → Q (.exit 0) a' w')
    (a : Act) (wr : World) (hI : AddI s N bs bn nn w0 a wr) :
    Code.wp Try.prog (inC (tlC (nthC 8 (bodyC Try.f34)))) Q a wr :=
  wp_navL rfl (wp_loop (AddI s N bs bn nn w0) (fun a _ => AddMu nn a) hI fun a w h => add_round_all s N bs bn nn w0 Q hnn hbs hbn hne hat hled hexit a w h)

end Go.Proofs.Qxb6602526a
