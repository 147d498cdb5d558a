import Derived.Test.Qxb6602526aS9
import Derived.Test.Qxb6602526aNav2
namespace Go.Proofs.Qxb6602526a
open Go.RowKit
set_option linter.unusedSimpArgs false
set_option linter.unusedVariables false

/-- What an 'add' is told of its memory. 'inv': the block of the count of invalid instances and what it holds, if there is one. -/
structure AddPre (S : SumS) (N : Nat → NodeD) (bs bn nn : Nat) (rr sr r s : Option Addr) (inv : Option (Nat × Int)) (f : Nat → Int) (w : World) : Prop where
  hB : IsB w bs S.arr 41
  hnn : nn ≤ 65536
  hbn : bn < w.heap.size
  hne : bn ≠ bs
  hat : ∀ i, i < nn → (N i).at w bn (i * 5)
  hled : ∀ i, i < nn → (N i).led w bs
  max1 : ∀ w1, Kept [bs] w w1 → MaxGives (S.inst == 0) S.rmax rr r w1
  max2 : ∀ w1, Kept [bs] w w1 → MaxGives (S.inst == 0) S.smax sr s w1
  hinv : S.inv = inv.map (fun p => ptr p.1)
  hI : ∀ bi iv, inv = some (bi, iv) → IsB w bi #[.int .u64 iv] 31 ∧ bi ≠ bs ∧ bi ≠ S.drb
  hD : IsB w S.drb (rowA (fun i => .int .u64 (f i)) S.drn) 31
  hdn : S.drn ≤ 65536
  hdne : S.drb ≠ bs
  hff : ∀ i, i < S.drn → 0 ≤ f i ∧ f i ≤ 1099511627776
  dec : anyTo (fun i => undecided (N i)) nn = false → ∃ j, j < S.drn ∧ lastTo N nn = (j : Int) + 1
  z1 : 0 ≤ S.zero ∧ S.zero < 18446744073709551616
  z2 : 0 ≤ S.one ∧ S.one < 18446744073709551616
  z3 : 0 ≤ S.err ∧ S.err < 18446744073709551616
  z4 : 0 ≤ S.pend ∧ S.pend < 18446744073709551616

/-- The counts of rounds behind an 'add'. -/
def bump (N : Nat → NodeD) (nn : Nat) (f : Nat → Int) (i : Nat) : Int :=
  if anyTo (fun i => undecided (N i)) nn = false ∧ lastTo N nn = (i : Int) + 1 then f i + 1 else f i

/-- What it leaves. -/
structure AddPost (S : SumS) (N : Nat → NodeD) (bs nn : Nat) (r s : Option Addr) (inv : Option (Nat × Int)) (f : Nat → Int) (w w' : World) : Prop where
  kept : Kept (bs :: S.drb :: (inv.map (·.1)).toList) w w'
  hI : ∀ bi iv, inv = some (bi, iv) → IsB w' bi #[.int .u64 (inc64 (invalidB (anyTo (fun i => reports 1 (N i)) nn) (anyTo (fun i => reports 2 (N i)) nn) (anyTo (fun i => proposes 0 (N i)) nn) (anyTo (fun i => proposes 1 (N i)) nn)) iv)] 31
  hD : IsB w' S.drb (rowA (fun i => .int .u64 (bump N nn f i)) S.drn) 31
  no : anyTo (fun i => undecided (N i)) nn = true → IsB w' bs (S.added N nn r s).arr 41
  yes : anyTo (fun i => undecided (N i)) nn = false → ∃ mb, w.heap.size ≤ mb ∧ IsB w' bs { S.added N nn r s with mean := some ⟨mb, 0, none⟩ }.arr 41 ∧
    IsB w' mb #[.float .f64 (fdiv (totTo (bump N nn f) S.drn % 18446744073709551616) (sumTo (bump N nn f) S.drn))] 54

theorem add_calls (S : SumS) (N : Nat → NodeD) (bs bn nn : Nat) (ino : Int) (rr sr r s : Option Addr) (inv : Option (Nat × Int)) (f : Nat → Int) (w : World)
    (h : AddPre S N bs bn nn rr sr r s inv f w) :
    Calls Try.prog 34 #[.pointer (some ⟨bs, 0, none⟩), .agg (instA ino bn nn rr sr)] w fun e w' => e = .returned (.tuple #[]) ∧ AddPost S N bs nn r s inv f w w' := by
  obtain ⟨hB, hnn, hbn, hne, hat, hled, max1, max2, hinv, hI, hD, hdn, hdne, hff, dec, z1, z2, z3, z4⟩ := h
  have hbs := hB.lt
  refine calls_nav 213 Try.func34 rfl rfl (by simp) fun a fr ha => ?_
  have s0 : sl a 0 = .pointer (some ⟨bs, 0, none⟩) := ha 0 (by simp)
  have s1 : sl a 1 = .agg (instA ino bn nn rr sr) := ha 1 (by simp)
  refine wp_nav rfl (add_p0 _ _ _ _ _ _ _ _ _ fr s0 s1 fun a1 fr1 s0 s3 => ?_)
  have k1 : Kept [bs] w (w.alloc (.cells (instA ino bn nn rr sr) 50)) := (Kept.refl _ _).alloc _
  have B1 := hB.alloc (.cells (instA ino bn nn rr sr) 50)
  have X1 := IsB.new w (instA ino bn nn rr sr) 50
  have e1 : (w.alloc (.cells (instA ino bn nn rr sr) 50)).heap.size = w.heap.size + 1 := by simp
  generalize w.alloc (.cells (instA ino bn nn rr sr) 50) = w1 at *
  refine wp_nav rfl (add_p1 S _ _ _ _ _ fr1 s0 s3 B1 fun a2 h2 => ?_)
  refine wp_nav rfl (add_p2 S _ _ _ _ _ _ h2 B1 fun a3 w3 h3 kk3 e3 B3 => ?_)
  have k3 := k1.trans kk3
  have X3 := kk3.isB X1 (by simp; omega)
  refine wp_nav rfl (add_p3 _ _ _ _ _ _ _ _ r _ _ _ _ h3 B3 X3 (by omega) (max1 _ k3.drew) fun a4 w4 h4 kk4 e4 B4 => ?_)
  have k4 := k3.trans kk4
  have X4 := kk4.isB X3 (by simp; omega)
  refine wp_nav rfl (add_p4 _ _ _ _ _ _ _ _ s _ _ _ _ h4 B4 X4 (by omega) (max2 _ k4.drew) fun a5 w5 h5 kk5 e5 B5 => ?_)
  have k5 := k4.trans kk5
  have X5 := kk5.isB X4 (by simp; omega)
  refine wp_nav rfl (add_p5 _ _ _ _ _ _ h5 fun a6 h6 s5 s6 => ?_)
  have k6 : Kept [bs] w ((w5.alloc (.cells (two false false) 97)).alloc (.cells (two false false) 97)) := (k5.alloc _).alloc _
  have B6 := (B5.alloc (.cells (two false false) 97)).alloc (.cells (two false false) 97)
  have X6 := (X5.alloc (.cells (two false false) 97)).alloc (.cells (two false false) 97)
  have P6 := (IsB.new w5 (two false false) 97).alloc (.cells (two false false) 97)
  have R6 := IsB.new (w5.alloc (.cells (two false false) 97)) (two false false) 97
  have e6 : ((w5.alloc (.cells (two false false) 97)).alloc (.cells (two false false) 97)).heap.size = w.heap.size + 3 := by simp; omega
  have e6' : (w5.alloc (.cells (two false false) 97)).heap.size = w.heap.size + 2 := by simp; omega
  have e5' : w5.heap.size = w.heap.size + 1 := by omega
  rw [e6'] at R6
  rw [e5'] at P6 s5 s6
  generalize (w5.alloc (.cells (two false false) 97)).alloc (.cells (two false false) 97) = w6 at *
  refine wp_nav rfl (add_p67 _ _ _ _ _ _ _ _ h6 s5 s6 fun a7 h7 s5 s6 s7 => ?_)
  refine wp_nav rfl (add_p7 _ _ _ _ _ _ _ _ h7 s5 s6 s7 fun a8 h8 s5 s6 s7 s8 s9 => ?_)
  refine wp_nav rfl (wp_nav rfl (add_p8 _ _ _ _ _ _ _ _ _ _ _ _ _ h8 s5 s6 s7 s8 s9 X6 fun a9 h9 => ?_))
  refine wp_navB (id := 0) rfl ?_
  have hA := after_0 { S with inst := IntKind.u64.wrap (S.inst + 1), rmax := r, smax := s } N z1 z2 z3 z4
  refine add_loop { S with inst := IntKind.u64.wrap (S.inst + 1), rmax := r, smax := s } N bs bn nn w _ (by omega) hbs hbn hne hat hled (fun a10 w10 h10 R10 => ?_) _ _ ⟨0, Nat.zero_le _, h9, by rw [hA]; exact B6, P6, R6, k6, by omega⟩
  simp only [Exit.inBlock, Exit.then, if_true]
  obtain ⟨hs, hp, hr, kR, szR⟩ := R10
  have ne1 : bs ≠ w.heap.size + 1 := by omega
  have ne2 : bs ≠ w.heap.size + 2 := by omega
  refine wp_nav rfl (add_dis _ _ _ _ _ _ _ _ _ _ _ _ _ _ _ h10 hs hr fun a11 w11 h11 kk11 e11 B11 => ?_)
  have k11 := kR.trans kk11
  have p11 := kk11.isB hp (by simpa using fun e => ne1 e.symm)
  have r11 := kk11.isB hr (by simpa using fun e => ne2 e.symm)
  have D11 := k11.isB hD (by simpa using hdne)
  -- the count of invalid instances
  have step : ∀ (Q : Exit → Act → World → Prop), (∀ a12 w12, AddH bs (w.heap.size + 1) (w.heap.size + 2) bn nn (lastTo N nn) (!anyTo (fun i => undecided (N i)) nn) (anyTo (fun i => reports 3 (N i)) nn) nn a12 →
      Kept ((inv.map (·.1)).toList) w11 w12 → w12.heap.size = w11.heap.size →
      (∀ bi iv, inv = some (bi, iv) → IsB w12 bi #[.int .u64 (inc64 (invalidB (anyTo (fun i => reports 1 (N i)) nn) (anyTo (fun i => reports 2 (N i)) nn) (anyTo (fun i => proposes 0 (N i)) nn) (anyTo (fun i => proposes 1 (N i)) nn)) iv)] 31) → Q .normal a12 w12) →
      Code.wp Try.prog (nthC 10 (bodyC Try.f34)) Q a11 w11 := by
    intro Q hQ
    cases inv with
    | none =>
      exact add_inv_nil _ _ _ _ _ _ _ _ _ _ _ _ _ h11 B11 hinv fun a12 h12 => hQ _ _ h12 (Kept.refl _ _) rfl (fun _ _ e => by cases e)
    | some p =>
      obtain ⟨bi, iv⟩ := p
      obtain ⟨i1, i2, i3⟩ := hI bi iv rfl
      have I11 := k11.isB i1 (by simpa using i2)
      exact add_inv _ _ _ _ _ _ bi iv _ _ _ _ _ _ _ _ _ _ _ h11 B11 hinv I11 r11 p11 fun a12 w12 h12 kk12 e12 I12 => hQ _ _ h12 (by simpa using kk12) e12 (fun bi' iv' e => by cases e; exact I12)
  refine wp_nav rfl (step _ fun a12 w12 h12 kk12 e12 I12 => ?_)
  have nb : bs ∉ (inv.map (·.1)).toList := by
    cases inv with
    | none => simp
    | some p => simpa using fun e => (hI p.1 p.2 rfl).2.1 e.symm
  have nd : S.drb ∉ (inv.map (·.1)).toList := by
    cases inv with
    | none => simp
    | some p => simpa using fun e => (hI p.1 p.2 rfl).2.2 e.symm
  have B12 := kk12.isB B11 nb
  have D12 := kk12.isB D11 nd
  refine wp_nav rfl (add_err _ _ _ _ _ _ _ _ _ _ _ _ _ h12 B12 fun a13 w13 h13 kk13 e13 B13 => ?_)
  have D13 := kk13.isB D12 (by simpa using hdne)
  have I13 : ∀ bi iv, inv = some (bi, iv) → IsB w13 bi #[.int .u64 (inc64 (invalidB (anyTo (fun i => reports 1 (N i)) nn) (anyTo (fun i => reports 2 (N i)) nn) (anyTo (fun i => proposes 0 (N i)) nn) (anyTo (fun i => proposes 1 (N i)) nn)) iv)] 31 :=
    fun bi iv e => kk13.isB (I12 bi iv e) (by simpa using (hI bi iv e).2.1)
  have m1 : Kept (bs :: S.drb :: (inv.map (·.1)).toList) w w11 := k11.mono (fun k _ hk => by simp at hk; simp [hk])
  have m2 : Kept (bs :: S.drb :: (inv.map (·.1)).toList) w11 w12 := kk12.mono (fun k _ hk => List.mem_cons_of_mem _ (List.mem_cons_of_mem _ hk))
  have m3 : Kept (bs :: S.drb :: (inv.map (·.1)).toList) w12 w13 := kk13.mono (fun k _ hk => by simp at hk; simp [hk])
  have k13 := (m1.trans m2).trans m3
  have sz : w.heap.size + 3 ≤ w13.heap.size := by have := kk11.size; omega
  have eT : ({ ({ S with inst := IntKind.u64.wrap (S.inst + 1), rmax := r, smax := s } : SumS).after N nn with dis := inc64 (anyTo (fun i => reports 1 (N i)) nn && anyTo (fun i => reports 2 (N i)) nn) S.dis, ei := inc64 (anyTo (fun i => reports 3 (N i)) nn) S.ei } : SumS) = S.added N nn r s := rfl
  have B13' : IsB w13 bs (S.added N nn r s).arr 41 := B13
  clear B13
  cases hu : anyTo (fun i => undecided (N i)) nn with
  | true =>
    rw [hu] at h13
    refine add_mean_no _ _ _ _ _ _ _ _ _ _ _ h13 fun a14 fr14 => ?_
    refine bodyPost_end (results_none rfl _ _ _) fr14.defers ⟨rfl, ⟨k13, I13, ?_, fun _ => B13', fun e => by rw [hu] at e; cases e⟩⟩
    have : (fun i => Value.int .u64 (bump N nn f i)) = fun i => Value.int .u64 (f i) := by funext i; simp [bump, hu]
    rw [this]; exact D13
  | false =>
    obtain ⟨j, hj, hl⟩ := dec hu
    rw [hu, hl] at h13
    have eb : ∀ i, bump N nn f i = if i = j then f i + 1 else f i := by
      intro i
      unfold bump
      rw [hl]
      by_cases e : i = j
      · subst e; simp [hu]
      · rw [if_neg e, if_neg (by intro h; omega)]
    have eb' : bump N nn f = fun i => if i = j then f i + 1 else f i := funext eb
    refine add_mean (S.added N nn r s) f j _ _ _ _ _ _ _ _ _ _ h13 B13' hj hdn D13 hdne hff fun a14 w14 fr14 kk14 B14 D14 M14 => ?_
    replace kk14 : Kept [bs, S.drb] w13 w14 := kk14
    have m4 : Kept (bs :: S.drb :: (inv.map (·.1)).toList) w13 w14 := kk14.mono (fun k _ hk => by
      have hk' : k = bs ∨ k = S.drb := by simpa using hk
      rcases hk' with rfl | rfl <;> simp)
    refine bodyPost_end (results_none rfl _ _ _) fr14.defers ⟨rfl, ⟨k13.trans m4, ?_, ?_, (fun e => by rw [hu] at e; cases e), fun _ => ⟨w13.heap.size, by omega, B14, ?_⟩⟩⟩
    · intro bi iv e
      refine kk14.isB (I13 bi iv e) ?_
      have := hI bi iv e
      intro hm
      have hm' : bi = bs ∨ bi = S.drb := by simpa using hm
      rcases hm' with h | h
      · exact this.2.1 h
      · exact this.2.2 h
    · rw [eb']; exact D14
    · rw [eb']; exact M14

end Go.Proofs.Qxb6602526a
