import Derived.Test.YbulkauxoOut
namespace Go.Proofs.Ybulkauxo
open Go.RowKit

/-- Where the growing rows of the builder lie. -/
structure BD where
  ma : Nat
  mc : Nat
  ta : Option Addr
  tc : Nat
  ba : Option Addr
  bc : Nat
  ea : Option Addr
  ec : Nat
  ka : Option Addr
  kn : Nat
  kc : Nat
  qa : Nat → Option Addr
  qc : Nat → Nat

/-- The Model's 21 cells when the targets of t states, the moves of m states and the keys of k states are in. -/
def mf (H n : Nat) (os : Nat → List Nat) (t m k : Nat) (D : BD) (j : Nat) : Value :=
  if j = 0 then .slice (some ⟨H + 1, 0, none⟩) (n + 1) (n + 1) else if j = 1 then .slice (some ⟨D.ma, 0, none⟩) (m + 1) D.mc else if j = 2 then .slice D.ta (psum os t) D.tc
  else if j = 4 then .slice (some ⟨H + 1 + 1 + 1 + 1, 0, none⟩) n n else if j = 8 then .int .i64 0 else if j = 9 then .bool false else if j = 12 then .slice D.ba (kend k) D.bc else if j = 13 then .slice D.ea k D.ec
  else if j = 14 then .slice (some ⟨H + 1 + 1 + 1 + 1 + 1, 0, none⟩) 1 1 else if j = 15 then .slice (some ⟨H + 1 + 1 + 1 + 1 + 1 + 1, 0, none⟩) n n else if j = 16 then .slice (some ⟨H + 1 + 1 + 1 + 1 + 1 + 1 + 1, 0, none⟩) n n
  else if j = 17 then .bool false else if j = 18 then .float .f64 0 else if j = 19 then .bool false else if j = 20 then .int .i64 0 else .slice none 0 0
def pl (os : Nat → List Nat) (s : Nat) : List Value := (List.range (s + 1)).map fun j => .int .i32 (psum os j : Int)
def tl (os : Nat → List Nat) (s : Nat) : List Value := i32s ((List.range s).flatMap os)
def bl (s : Nat) : List Value := (List.range s).flatMap fun j => ubytes (j + 1)
def el (s : Nat) : List Value := (List.range s).map fun j => .int .u32 (kend (j + 1) : Int)
def rf (vs : Nat → Nat) (s p : Nat) : Value := if p / 2 < s then (if p % 2 = 0 then .int .i64 ((vs (p / 2) % 3 : Nat) : Int) else .bool (decide (vs (p / 2) % 5 ≠ 0))) else (if p % 2 = 0 then .int .i64 0 else .bool false)

theorem psum_flat (os : Nat → List Nat) : ∀ s, ((List.range s).flatMap os).length = psum os s
  | 0 => rfl
  | s + 1 => by
    rw [List.range_succ, List.flatMap_append, List.length_append, psum_flat os s]
    show _ + ([s].flatMap os).length = psum os s + _
    simp
theorem bl_len : ∀ s, (bl s).length = kend s
  | 0 => rfl
  | s + 1 => by
    unfold bl
    rw [List.range_succ, List.flatMap_append, List.length_append]
    have := bl_len s
    unfold bl at this
    rw [this]
    simp only [List.flatMap_cons, List.flatMap_nil, List.append_nil]
    unfold ubytes kend
    by_cases h : s + 1 < 128
    · rw [if_pos h]; simp; omega
    · rw [if_neg h]; simp; omega

/-- What the builder's third loop keeps; H: the heap's size when the Model was made; how many states are in: a in actions, t in to, m in moves, k in keys, r in results, q in returns. -/
structure BS (w : World) (H n : Nat) (vs : Nat → Nat) (os : Nat → List Nat) (oa : Nat → Option Addr) (oc : Nat → Nat) (a t m k r q : Nat) (D : BD) (wr : World) : Prop where
  mrow : wr.rowIs H 48 21 (mf H n os t m k D)
  act : wr.rowIs (H + 1) 21 (n + 1) fun j => .int .i32 ((if j ≤ a then j else 0 : Nat) : Int)
  mov : wr.ownsRow w.heap.size 21 1 (.slice (some ⟨D.ma, 0, none⟩) (m + 1) D.mc) (m + 1) (pl os m)
  to : wr.ownsRow w.heap.size 21 1 (.slice D.ta (psum os t) D.tc) (psum os t) (tl os t)
  byt : wr.ownsRow w.heap.size 5 1 (.slice D.ba (kend k) D.bc) (kend k) (bl k)
  ends : wr.ownsRow w.heap.size 65 1 (.slice D.ea k D.ec) k (el k)
  key : ∃ xs, wr.ownsRow w.heap.size 5 1 (.slice D.ka D.kn D.kc) D.kn xs
  actor : wr.rowIs (H + 1 + 1 + 1 + 1) 21 n fun _ => .int .i32 0
  start : wr.rowIs (H + 1 + 1 + 1 + 1 + 1) 21 1 fun _ => .int .i32 0
  res : wr.rowIs (H + 1 + 1 + 1 + 1 + 1 + 1) 53 (n * 2) (rf vs r)
  ret : wr.rowIs (H + 1 + 1 + 1 + 1 + 1 + 1 + 1) 29 n fun j => if j < q then .slice (D.qa j) (setOf vs j).length (D.qc j) else .slice none 0 0
  retc : ∀ j, j < q → vs j % 5 ≠ 0 → ∃ g cs, D.qa j = some ⟨g, 0, none⟩ ∧ wr.heap[g]? = some (.cells cs 3 (0, 0)) ∧ cs[0]? = some (.int .i64 ((vs j % 3 : Nat) : Int))
  out : OutS w.heap.size wr w.heap.size n os oa oc
  outlt : ∀ x, x < n → ∀ k, (oa x).map Addr.block = some k → k < H
  dm : D.ma = H + 1 + 1 ∨ H + 8 ≤ D.ma
  dt : ∀ k, D.ta.map Addr.block = some k → H + 8 ≤ k ∧ k ≠ D.ma
  dk : ∀ k, D.ka.map Addr.block = some k → D.ba.map Addr.block ≠ some k
  bel : Below w.heap.size w wr
  sz : H + 8 ≤ wr.heap.size
  lo : w.heap.size < H
  lk : ∀ b, D.ka.map Addr.block = some b → H + 8 ≤ b
  lb : ∀ b, D.ba.map Addr.block = some b → H + 8 ≤ b
  le : ∀ b, D.ea.map Addr.block = some b → H + 8 ≤ b
end Go.Proofs.Ybulkauxo
