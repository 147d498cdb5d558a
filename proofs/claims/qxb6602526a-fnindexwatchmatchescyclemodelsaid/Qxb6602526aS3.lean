import Derived.Test.Qxb6602526aMem
import Derived.Test.Qxb6602526aSum
namespace Go.Proofs.Qxb6602526a
open Go.RowKit
set_option linter.unusedSimpArgs false
set_option linter.unusedVariables false

/-- What a Summary holds. -/
structure SumS where
  m : Int
  inst : Int
  zero : Int
  one : Int
  err : Int
  pend : Int
  dis : Int
  inv : Option Addr
  ei : Int
  mean : Option Addr
  drb : Nat
  drn : Nat
  rmax : Option Addr
  smax : Option Addr

def SumS.arr (s : SumS) : Array Value := #[.int .i64 0, .int .i64 0, .int .u32 s.m, .int .i64 0, .bool false, .int .u64 s.inst, .int .u64 s.zero, .int .u64 s.one, .int .u64 s.err, .int .u64 s.pend,
  .int .u64 s.dis, .pointer s.inv, .int .u64 s.ei, .pointer s.mean, .slice (some ⟨s.drb, 0, none⟩) s.drn s.drn, .int .u64 0, .int .u64 0, .int .u64 0, .int .u64 0, .int .u64 0, .int .u64 0, .pointer s.rmax, .pointer s.smax]

/-- A pointer to the head of a block. -/
def ptr (b : Nat) : Addr := ⟨b, 0, none⟩

/-- One node of an instance as 'add' reads it: the blocks its pointers lead to, and what lies there. -/
structure NodeD where
  nd : Int
  fa : Bool
  pa : Option Nat
  pv : Int
  rs : Option Nat
  rv : Int
  ro : Option Nat
  dv : Int

/-- The node's cells. -/
def NodeD.at (x : NodeD) (w : World) (b o : Nat) : Prop :=
  w.cell? ⟨b, o, none⟩ = some (.int .i64 x.nd) ∧ w.cell? ⟨b, o + 1, none⟩ = some (.bool x.fa) ∧ w.cell? ⟨b, o + 2, none⟩ = some (.pointer (x.pa.map ptr)) ∧
    w.cell? ⟨b, o + 3, none⟩ = some (.pointer (x.rs.map ptr)) ∧ w.cell? ⟨b, o + 4, none⟩ = some (.pointer (x.ro.map ptr))

/-- What its pointers lead to (asked of a correct node alone). -/
def NodeD.led (x : NodeD) (w : World) (bs : Nat) : Prop :=
  x.fa = false → (∀ b, x.pa = some b → b < w.heap.size ∧ b ≠ bs ∧ w.cell? ⟨b, 0, none⟩ = some (.int .u8 x.pv) ∧ (x.pv = 0 ∨ x.pv = 1)) ∧
    (∃ b, x.rs = some b ∧ b < w.heap.size ∧ b ≠ bs ∧ w.cell? ⟨b, 0, none⟩ = some (.int .u8 x.rv)) ∧
    (∀ b, x.ro = some b → b < w.heap.size ∧ b ≠ bs ∧ w.cell? ⟨b, 0, none⟩ = some (.int .u32 x.dv))

def anyTo (p : Nat → Bool) : Nat → Bool
  | 0 => false
  | n + 1 => anyTo p n || p n

/-- How many correct nodes have a result that meets p. -/
def cnt (N : Nat → NodeD) (p : Int → Bool) (k : Nat) : Int := sumTo (fun i => if !(N i).fa && p (N i).rv then 1 else 0) k

def isPend (r : Int) : Bool := !(r == 1) && !(r == 2) && !(r == 3)

/-- The greatest round so far. -/
def lastTo (N : Nat → NodeD) : Nat → Int
  | 0 => 0
  | n + 1 => if !(N n).fa && (N n).ro.isSome && decide (lastTo N n < (N n).dv) then (N n).dv else lastTo N n

def undecided (x : NodeD) : Bool := !x.fa && x.ro.isNone
def proposes (v : Int) (x : NodeD) : Bool := !x.fa && x.pa.isSome && x.pv == v
def reports (v : Int) (x : NodeD) : Bool := !x.fa && x.rv == v

/-- The Summary behind k nodes. -/
def SumS.after (s : SumS) (N : Nat → NodeD) (k : Nat) : SumS :=
  { s with
    zero := (s.zero + cnt N (· == 1) k) % 18446744073709551616
    one := (s.one + cnt N (· == 2) k) % 18446744073709551616
    err := (s.err + cnt N (· == 3) k) % 18446744073709551616
    pend := (s.pend + cnt N isPend k) % 18446744073709551616 }

theorem wrap_inc (x c : Int) : IntKind.u64.wrap ((x + c) % 18446744073709551616 + 1) = (x + (c + 1)) % 18446744073709551616 := by
  rw [IntKind.wrap_u64]; omega

theorem cnt_succ (N : Nat → NodeD) (p : Int → Bool) (k : Nat) : cnt N p (k + 1) = cnt N p k + (if !(N k).fa && p (N k).rv then 1 else 0) := rfl

theorem after_faulty (s : SumS) (N : Nat → NodeD) (k : Nat) (h : (N k).fa = true) : s.after N (k + 1) = s.after N k := by
  simp [SumS.after, cnt_succ, h]

theorem after_zero (s : SumS) (N : Nat → NodeD) (k : Nat) (h : (N k).fa = false) (hr : (N k).rv = 1) :
    (s.after N k).arr.setIfInBounds 6 (.int .u64 (IntKind.u64.wrap ((s.after N k).zero + 1))) = (s.after N (k + 1)).arr := by
  simp [SumS.after, cnt_succ, h, hr, isPend, SumS.arr, wrap_inc]
theorem after_one (s : SumS) (N : Nat → NodeD) (k : Nat) (h : (N k).fa = false) (hr : (N k).rv = 2) :
    (s.after N k).arr.setIfInBounds 7 (.int .u64 (IntKind.u64.wrap ((s.after N k).one + 1))) = (s.after N (k + 1)).arr := by
  simp [SumS.after, cnt_succ, h, hr, isPend, SumS.arr, wrap_inc]
theorem after_err (s : SumS) (N : Nat → NodeD) (k : Nat) (h : (N k).fa = false) (hr : (N k).rv = 3) :
    (s.after N k).arr.setIfInBounds 8 (.int .u64 (IntKind.u64.wrap ((s.after N k).err + 1))) = (s.after N (k + 1)).arr := by
  simp [SumS.after, cnt_succ, h, hr, isPend, SumS.arr, wrap_inc]
theorem after_pend (s : SumS) (N : Nat → NodeD) (k : Nat) (h : (N k).fa = false) (h1 : (N k).rv ≠ 1) (h2 : (N k).rv ≠ 2) (h3 : (N k).rv ≠ 3) :
    (s.after N k).arr.setIfInBounds 9 (.int .u64 (IntKind.u64.wrap ((s.after N k).pend + 1))) = (s.after N (k + 1)).arr := by
  simp [SumS.after, cnt_succ, h, h1, h2, h3, isPend, SumS.arr, wrap_inc]

theorem after_0 (s : SumS) (N : Nat → NodeD) (h1 : 0 ≤ s.zero ∧ s.zero < 18446744073709551616) (h2 : 0 ≤ s.one ∧ s.one < 18446744073709551616) (h3 : 0 ≤ s.err ∧ s.err < 18446744073709551616) (h4 : 0 ≤ s.pend ∧ s.pend < 18446744073709551616) : s.after N 0 = s := by
  cases s
  simp [SumS.after, cnt, sumTo] at *
  omega

/-- Two cells of bools. -/
def two (a b : Bool) : Array Value := #[.bool a, .bool b]

end Go.Proofs.Qxb6602526a
