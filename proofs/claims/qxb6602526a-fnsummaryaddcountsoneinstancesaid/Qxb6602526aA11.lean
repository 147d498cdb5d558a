import Derived.Test.Qxb6602526aA10
namespace Go.Proofs.Qxb6602526a
open Go.RowKit
set_option linter.unusedSimpArgs false
set_option linter.unusedVariables false

/-- What is known when 'add' is about to be called. -/
structure Ready8 (na ra : Option Addr) (nn rn pb bs drb vb rb ib nb B : Nat) (nc : Nat → NodeC) (N : Nat → NodeD) (f : Nat → Int) (p0 p1 p2 p3 p4 p5 p6 p8 : Int) (p7 : Bool) (w : World) : Prop where
  hI : IsB w ib (instA p0 nb nn none none) 50
  hP : IsB w pb (priorA p0 p1 p2 p3 p4 p5 p6 p7 p8) 78
  hB : IsB w bs (sumOf p0 p1 p2 p3 p4 p5 p6 (if p7 then some ⟨vb, 0, none⟩ else none) drb rn).arr 41
  hV : IsB w vb #[.int .u64 p8] 31
  hD : IsB w drb (rowA (fun i => .int .u64 (f i)) rn) 31
  hra : 0 < rn → ra = some ⟨rb, 0, none⟩ ∧ IsB w rb (rowA (fun i => .int .u64 (f i)) rn) 31
  hN : ∀ i, i < nn → Stands (nc i) (N i) ∧ Led (N i) B w ∧ (N i).at w nb (i * 5)
  hnb : nb < w.heap.size
  l1 : nn ≤ 65536
  l2 : rn ≤ 65536
  n1 : bs < B
  n2 : drb ≠ bs
  n3 : vb ≠ bs
  n4 : vb ≠ drb
  n5 : nb ≠ bs
  n6 : pb ≠ bs ∧ pb ≠ drb ∧ pb ≠ vb
  n7 : 0 < rn → rb ≠ bs ∧ rb ≠ drb ∧ rb ≠ vb
  ff : ∀ i, i < rn → 0 ≤ f i ∧ f i ≤ 1099511627776
  r0 : 0 ≤ p0 ∧ p0 < 18446744073709551616
  r1 : 0 ≤ p1 ∧ p1 < 18446744073709551616
  r2 : 0 ≤ p2 ∧ p2 < 18446744073709551616
  r3 : 0 ≤ p3 ∧ p3 < 18446744073709551616
  r4 : 0 ≤ p4 ∧ p4 < 18446744073709551616
  r5 : 0 ≤ p5 ∧ p5 < 18446744073709551616
  r6 : 0 ≤ p6 ∧ p6 < 18446744073709551616
  r8 : 0 ≤ p8 ∧ p8 < 18446744073709551616
  hpv : ∀ i, i < nn → (nc i).fa = false → (nc i).hp = true → (nc i).pv = 0 ∨ (nc i).pv = 1
  hrd : ∀ i, i < nn → 0 ≤ (nc i).rd ∧ (nc i).rd < 4294967296
  dec : anyTo (fun i => undecided (nc i).toD) nn = false → 1 ≤ lastTo (fun i => (nc i).toD) nn ∧ lastTo (fun i => (nc i).toD) nn ≤ rn

theorem max_none (b : Bool) (w : World) : MaxGives b none none none w := by
  unfold MaxGives
  cases b
  · exact (maxOrNil_none none w).mono (by rintro e w' ⟨rfl, rfl⟩; exact ⟨rfl, 0, rfl⟩)
  · exact (maxOrNil_first none none w).mono (by rintro e w' ⟨rfl, rfl⟩; exact ⟨rfl, 0, rfl⟩)

theorem l8_add (na ra : Option Addr) (nn rn pb bs drb vb rb ib nb B : Nat) (nc : Nat → NodeC) (N : Nat → NodeD) (f : Nat → Int) (p0 p1 p2 p3 p4 p5 p6 p8 : Int) (p7 : Bool) (w0 w : World)
    (h : Ready8 na ra nn rn pb bs drb vb rb ib nb B nc N f p0 p1 p2 p3 p4 p5 p6 p8 p7 w) (hk0 : Kept [] w0 w) (hnew : w0.heap.size ≤ bs ∧ w0.heap.size ≤ drb ∧ w0.heap.size ≤ vb)
    (a : Act) (hfr : Fr 375 a) (hs : Slots [(1, .slice na nn nn), (2, .slice ra rn rn), (3, .pointer (some ⟨pb, 0, none⟩)), (8, .bool (!anyTo (fun i => undecided (nc i).toD) nn)), (9, .int .u32 (lastTo (fun i => (nc i).toD) nn)), (12, .int .u64 (cnt (fun i => (nc i).toD) (· == 1) nn)), (13, .int .u64 (cnt (fun i => (nc i).toD) (· == 2) nn)), (14, .int .u64 (cnt (fun i => (nc i).toD) (· == 3) nn)), (15, .int .u64 (cnt (fun i => (nc i).toD) isPend nn)), (16, .bool (anyTo (fun i => proposes 0 (nc i).toD) nn)), (17, .bool (anyTo (fun i => proposes 1 (nc i).toD) nn)), (20, .pointer (some ⟨bs, 0, none⟩)), (23, .pointer (some ⟨ib, 0, none⟩))] a) : Code.wp Try.prog (dropC 20 (bodyC Try.f8)) (Fin8 w0) a w := by
  obtain ⟨hI, hP, hB, hV, hD, hra, hN, hnb, l1, l2, n1, n2, n3, n4, n5, n6, n7, ff, r0, r1, r2, r3, r4, r5, r6, r8, hpv, hrd, dec⟩ := h
  have eu : anyTo (fun i => undecided (N i)) nn = anyTo (fun i => undecided (nc i).toD) nn := anyTo_congr _ _ _ fun i hi => (hN i hi).1.und
  have el : lastTo N nn = lastTo (fun i => (nc i).toD) nn := lastTo_congr _ _ _ fun i hi => (hN i hi).1.last
  have ec : ∀ p, cnt N p nn = cnt (fun i => (nc i).toD) p nn := fun p => cnt_congr _ _ _ _ fun i hi => (hN i hi).1.res
  have er : ∀ v, anyTo (fun i => reports v (N i)) nn = anyTo (fun i => reports v (nc i).toD) nn := fun v => anyTo_congr _ _ _ fun i hi => (hN i hi).1.rep v
  have ep : ∀ v, anyTo (fun i => proposes v (N i)) nn = anyTo (fun i => proposes v (nc i).toD) nn := fun v => anyTo_congr _ _ _ fun i hi => (hN i hi).1.prop v
  have hbdl := lastTo_bd (fun i => (nc i).toD) 4294967295 (by omega) nn (fun i hi => by have := hrd i hi; show 0 ≤ (nc i).rd ∧ (nc i).rd ≤ _; omega)
  generalize hS : sumOf p0 p1 p2 p3 p4 p5 p6 (if p7 then some ⟨vb, 0, none⟩ else none) drb rn = S at hB
  have hpre : AddPre S N bs nb nn none none none none (if p7 then some (vb, p8) else none) f w := by
    subst hS
    refine ⟨hB, l1, hnb, n5, fun i hi => (hN i hi).2.2, ?_, fun w1 _ => max_none _ _, fun w1 _ => max_none _ _, ?_, ?_, hD, l2, n2, ff, ?_, r1, r2, r3, r4⟩
    · intro i hi hf
      obtain ⟨st, led, _⟩ := hN i hi
      obtain ⟨a1, ⟨b, b1, b2, b3⟩, a3⟩ := led hf
      have hf' : (nc i).fa = false := by rw [← st.fa]; exact hf
      refine ⟨fun b hb => ?_, ⟨b, b1, b3.lt, by omega, b3.cell 0⟩, fun b hb => ?_⟩
      · obtain ⟨d1, d2⟩ := a1 b hb
        refine ⟨d2.lt, by omega, d2.cell 0, ?_⟩
        have hs' : (nc i).hp = true := by have := st.pa hf'; rw [hb] at this; simpa using this.symm
        rw [st.pv hf']
        exact hpv i hi hf' hs'
      · obtain ⟨d1, d2⟩ := a3 b hb
        exact ⟨d2.lt, by omega, d2.cell 0⟩
    · cases p7 <;> rfl
    · intro bi iv hh
      cases p7
      · simp at hh
      · simp at hh
        obtain ⟨rfl, rfl⟩ := hh
        exact ⟨hV, n3, n4⟩
    · intro hu
      rw [eu] at hu
      have := dec hu
      rw [el]
      exact ⟨(lastTo (fun i => (nc i).toD) nn - 1).toNat, by show _ < rn; omega, by omega⟩
  refine wp_nav rfl (l8_20 _ _ _ _ _ _ _ _ _ _ _ _ _ _ ib nb p0 _ _ _ _ hfr hs hI (zadd_calls S N bs nb nn p0 none none none none _ f w hpre) fun a1 w1 hpost f1 s1 => ?_)
  obtain ⟨kept, qI, qD, no, yes⟩ := hpost
  have eDrb : S.drb = drb := by rw [← hS]; rfl
  have eDrn : S.drn = rn := by rw [← hS]; rfl
  rw [eDrb, eDrn] at qD
  rw [eDrb] at kept
  have hk1 : Kept [] w0 w1 := by
    refine ⟨kept.os.trans hk0.os, kept.tape.trans hk0.tape, kept.output.trans hk0.output, Nat.le_trans hk0.size kept.size, fun k hk _ => ?_⟩
    refine (kept.block k (by have := hk0.size; omega) ?_).trans (hk0.block k hk (by simp))
    cases p7 <;> simp <;> omega
  have hP1 : IsB w1 pb (priorA p0 p1 p2 p3 p4 p5 p6 p7 p8) 78 := kept.isB hP (by cases p7 <;> simp <;> omega)
  have hR1 : ∀ k, k < rn → w1.cell? ⟨rb, k, none⟩ = some (.int .u64 (f k)) := fun k hk => by
    have n7' := n7 (by omega)
    have := kept.isB (hra (by omega)).2 (by cases p7 <;> simp <;> omega)
    rw [this.cell, rowA_at _ _ _ hk]
  have hD1 : ∀ k, k < rn → w1.cell? ⟨drb, k, none⟩ = some (.int .u64 (bump N nn f k)) := fun k hk => by
    rw [qD.cell, rowA_at _ _ _ hk]
  have main : ∀ T : SumS, T = { S.added N nn none none with mean := T.mean } → IsB w1 bs T.arr 41 → T.mean.isSome = !anyTo (fun i => undecided (nc i).toD) nn →
      Checks na ra nn rn pb bs (!anyTo (fun i => undecided (nc i).toD) nn) (lastTo (fun i => (nc i).toD) nn) (cnt (fun i => (nc i).toD) (· == 1) nn) (cnt (fun i => (nc i).toD) (· == 2) nn) (cnt (fun i => (nc i).toD) (· == 3) nn) (cnt (fun i => (nc i).toD) isPend nn) (anyTo (fun i => proposes 0 (nc i).toD) nn) (anyTo (fun i => proposes 1 (nc i).toD) nn) rb f (bump N nn f) vb
        (inc64 (invalidB (anyTo (fun i => reports 1 (N i)) nn) (anyTo (fun i => reports 2 (N i)) nn) (anyTo (fun i => proposes 0 (N i)) nn) (anyTo (fun i => proposes 1 (N i)) nn)) p8) T p0 p1 p2 p3 p4 p5 p6 p8 p7 w1 := by
    intro T hT hTB hTm
    have t1 : T.inst = IntKind.u64.wrap (p0 + 1) := by rw [hT, ← hS]; rfl
    have t2 : T.zero = (p1 + cnt N (· == 1) nn) % 18446744073709551616 := by rw [hT, ← hS]; rfl
    have t3 : T.one = (p2 + cnt N (· == 2) nn) % 18446744073709551616 := by rw [hT, ← hS]; rfl
    have t4 : T.err = (p3 + cnt N (· == 3) nn) % 18446744073709551616 := by rw [hT, ← hS]; rfl
    have t5 : T.pend = (p4 + cnt N isPend nn) % 18446744073709551616 := by rw [hT, ← hS]; rfl
    have t6 : T.dis = inc64 (anyTo (fun i => reports 1 (N i)) nn && anyTo (fun i => reports 2 (N i)) nn) p5 := by rw [hT, ← hS]; rfl
    have t7 : T.ei = inc64 (anyTo (fun i => reports 3 (N i)) nn) p6 := by rw [hT, ← hS]; rfl
    have t8 : T.inv = if p7 then some ⟨vb, 0, none⟩ else none := by rw [hT, ← hS]; rfl
    have t9 : T.drn = rn := by rw [hT, ← hS]; rfl
    have t10 : T.rmax = none := by rw [hT, ← hS]; rfl
    have t11 : T.smax = none := by rw [hT, ← hS]; rfl
    have t12 : T.drb = drb := by rw [hT, ← hS]; rfl
    refine ⟨hTB, hP1, by omega, t1.symm, ?_, ?_, ?_, ?_, ?_, ?_, ?_, ?_, t9, fun h => (hra h).1, hR1, ?_, by omega, ?_, ff, hTm, t10, t11⟩
    · rw [t2, ec, IntKind.wrap_u64]
    · rw [t3, ec, IntKind.wrap_u64]
    · rw [t4, ec, IntKind.wrap_u64]
    · rw [t5, ec, IntKind.wrap_u64]
    · rw [t6, er, er, any_cnt, any_cnt]; exact wrap_ind _ _ r5
    · rw [t7, er, any_cnt]; exact wrap_ind _ _ r6
    · intro hp; rw [t8, hp]; rfl
    · intro hp
      refine ⟨by rw [t8, hp]; rfl, qI vb p8 (by rw [hp]; rfl), ?_⟩
      rw [er, er, ep, ep, any_cnt, any_cnt]
      exact wrap_ind _ _ r8
    · rw [t12]; exact hD1
    · intro k
      unfold bump
      rw [eu, el]
      cases anyTo (fun i => undecided (nc i).toD) nn <;> simp
  cases hu : anyTo (fun i => undecided (N i)) nn with
  | true =>
    have hTB := no hu
    have em : (S.added N nn none none).mean = none := by rw [← hS]; rfl
    exact l8_checks _ _ _ _ _ _ _ _ _ _ _ _ _ _ rb f _ vb _ (S.added N nn none none) p0 p1 p2 p3 p4 p5 p6 p8 p7 w0 w1 (main (S.added N nn none none) rfl hTB (by rw [em, ← eu, hu]; rfl)) hk1 a1 f1 s1
  | false =>
    obtain ⟨mb, _, hTB, _⟩ := yes hu
    exact l8_checks _ _ _ _ _ _ _ _ _ _ _ _ _ _ rb f _ vb _ _ p0 p1 p2 p3 p4 p5 p6 p8 p7 w0 w1 (main { S.added N nn none none with mean := some ⟨mb, 0, none⟩ } rfl hTB (by rw [← eu, hu]; rfl)) hk1 a1 f1 s1

end Go.Proofs.Qxb6602526a
