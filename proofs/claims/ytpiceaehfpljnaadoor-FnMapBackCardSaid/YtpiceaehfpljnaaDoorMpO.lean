/- Maps keyed by int, nil or not, told as lists of keys and values: the laws at the operations. No program. -/
import Derived.Maps.OwnSet
import Derived.Carry
import Derived.WalkKit
namespace Mpm
open Go Go.Maps Go.RowKit

section lists
variable {β : Type}

def ins (x : Int × β) : List (Int × β) → List (Int × β)
  | [] => [x]
  | y :: r => if x.1 < y.1 then x :: y :: r else y :: ins x r
def delL (k : Int) (G : List (Int × β)) : List (Int × β) := G.filter (fun p => !(p.1 == k))
def putL (k : Int) (v : β) (G : List (Int × β)) : List (Int × β) := ins (k, v) (delL k G)
def getL (k : Int) (G : List (Int × β)) : Option β := (G.find? (fun p => p.1 == k)).map (·.2)

end lists

def rv : Value → Option (DataW Value × List MemPlace) := fun v => some (.held v, [])
def dat (G : List (Int × Value)) : DataW Value := .map (G.map fun p => (.int .i64 p.1, .held p.2))

theorem same_int (a k : Int) : (Lit.int IntKind.i64 a).sameKey (.int .i64 k) = (a == k) := by
  simp only [Lit.sameKey, true_and]
  exact (Bool.beq_eq_decide_eq a k).symm

theorem dat_del (G : List (Int × Value)) (k : Int) : (dat G).del (.int .i64 k) = dat (delL k G) := by
  show DataW.map _ = DataW.map _
  congr 1
  rw [delL, List.filter_map]
  congr 1
  apply List.filter_congr
  intro p _
  simp [same_int]

theorem dat_ins (x : Int) (v : Value) : ∀ G : List (Int × Value), DataW.insert (Lit.int IntKind.i64 x, DataW.held v) (G.map fun p => (Lit.int IntKind.i64 p.1, DataW.held p.2)) = (ins (x, v) G).map fun p => (Lit.int IntKind.i64 p.1, DataW.held p.2)
  | [] => rfl
  | y :: r => by
    by_cases h : x < y.1
    · simp [DataW.insert, ins, Lit.before, h]
    · simp [DataW.insert, ins, Lit.before, h, dat_ins x v r]

theorem dat_put (G : List (Int × Value)) (k : Int) (v : Value) : (dat G).put (.int .i64 k) (.held v) = dat (putL k v G) := by
  have h := dat_del G k
  simp only [dat, DataW.del, DataW.map.injEq] at h
  simp only [dat, DataW.put, putL]
  rw [h, dat_ins]

theorem dat_find (G : List (Int × Value)) (k : Int) : (G.map fun p => ((Lit.int IntKind.i64 p.1, DataW.held p.2) : Lit × DataW Value)).find? (fun p => p.1.sameKey (.int .i64 k)) = (G.find? (fun p => p.1 == k)).map fun p => (Lit.int IntKind.i64 p.1, DataW.held p.2) := by
  rw [List.find?_map]
  congr 2
  funext p
  simp [same_int]

theorem dat_at (G : List (Int × Value)) (k : Int) (z : Value) : (dat G).atKey (.int .i64 k) (.held z) = .held ((getL k G).getD z) := by
  simp only [dat, DataW.atKey, dat_find, getL]
  cases G.find? (fun p => p.1 == k) <;> rfl

theorem dat_at_nil (G : List (Int × Value)) (k : Int) {v : Value} (h : (dat G).atKey (.int .i64 k) .nil = .held v) : getL k G = some v := by
  simp only [dat, DataW.atKey, dat_find] at h
  unfold getL
  cases hf : G.find? (fun p => p.1 == k) with
  | none => rw [hf] at h; simp at h
  | some p => rw [hf] at h; simp at h; simp [h]

theorem any_get {β : Type} (k : Int) : ∀ G : List (Int × β), G.any (fun p => p.1 == k) = (getL k G).isSome
  | [] => rfl
  | p :: r => by
    have := any_get k r
    unfold getL at this ⊢
    by_cases h : (p.1 == k) = true
    · simp [h]
    · simp only [Bool.not_eq_true] at h
      simp only [List.any_cons, h, Bool.false_or, List.find?_cons, this]

theorem dat_has (G : List (Int × Value)) (k : Int) : Maps.has (dat G) (.int .i64 k) = (getL k G).isSome := by
  rw [← any_get]
  simp only [dat, Maps.has, List.any_map]
  congr 1
  funext p
  simp [same_int]

theorem dat_size (G : List (Int × Value)) : Maps.size (dat G) = G.length := by simp [dat, Maps.size]

/-- A map's value, nil or not, tells the list. -/
def MapAt (w : World) (P : Program) (k : TypeId) (mp : Option Nat) (n : Nat) (G : List (Int × Value)) : Prop :=
  match mp with
  | none => G = []
  | some b => w.ownsMap P k rv b n (dat G)

def Turn (w w' : World) (mp : Option Nat) : Prop :=
  match mp with
  | none => w' = w
  | some b => w.mapTurned w' b

section
variable {P : Program} {k : TypeId} {w w' : World} {mp : Option Nat} {n : Nat} {G : List (Int × Value)}

theorem MapAt.kept {row : Option Nat} (h : MapAt w P k mp n G) (hg : w.grownBy w' row) (hne : ∀ b, mp = some b → some b ≠ row) : MapAt w' P k mp n G := by
  cases mp with
  | none => exact h
  | some b => exact World.ownsMap.kept h hg (hne b rfl)
theorem MapAt.below (h : MapAt w P k mp n G) {B : Nat} (hg : Below B w w') (hb : ∀ b, mp = some b → b < B) : MapAt w' P k mp n G := by
  cases mp with
  | none => exact h
  | some b =>
    obtain ⟨es, clock, hk, F, hs, hD⟩ := h
    exact ⟨es, clock, (hg.block b (hb b rfl)).trans hk, F, hs, hD⟩
theorem MapAt.same (h : MapAt w P k mp n G) (hg : ∀ b, mp = some b → w'.heap[b]? = w.heap[b]?) : MapAt w' P k mp n G := by
  cases mp with
  | none => exact h
  | some b =>
    obtain ⟨es, clock, hk, F, hs, hD⟩ := h
    exact ⟨es, clock, (hg b rfl).trans hk, F, hs, hD⟩
theorem MapAt.lt (h : MapAt w P k mp n G) {b : Nat} (hb : mp = some b) : b < w.heap.size := by
  subst hb
  exact World.ownsMap.lt h
theorem MapAt.no_cells (h : MapAt w P k mp n G) {b : Nat} (hb : mp = some b) {cs : Array Value} {t : TypeId} {f : Nat × Nat} : w.heap[b]? ≠ some (.cells cs t f) := by
  subst hb
  obtain ⟨es, clock, hk, _⟩ := h
  rw [hk]
  simp
theorem MapAt.mono (h : MapAt w P k mp n G) {n' : Nat} (hn : n ≤ n') : MapAt w P k mp n' G := by
  cases mp with
  | none => exact h
  | some b => exact World.ownsMap.mono h hn
theorem MapAt.len_le (h : MapAt w P k mp n G) : G.length ≤ n := by
  cases mp with
  | none => have h' : G = [] := h; simp [h']
  | some b =>
    have := World.ownsMap.size_le h
    rwa [dat_size] at this

theorem Turn.other (h : Turn w w' mp) {i : Nat} (hi : mp ≠ some i) : w'.heap[i]? = w.heap[i]? := by
  cases mp with
  | none => rw [show w' = w from h]
  | some b =>
    obtain ⟨es, clock, es', clock', hb, rfl⟩ := h
    exact ChangeMaps.heap_setBlock_other hb _ (fun e => hi (by rw [e]))
theorem Turn.grown (h : Turn w w' mp) : w.grownBy w' mp := by
  cases mp with
  | none => rw [show w' = w from h]; exact ⟨rfl, rfl, rfl, Nat.le_refl _, fun _ _ _ => rfl⟩
  | some b =>
    obtain ⟨es, clock, es', clock', hb, rfl⟩ := h
    exact ⟨rfl, rfl, rfl, by simp [ChangeMaps.setBlock], fun i _ hi => ChangeMaps.heap_setBlock_other hb _ (fun e => hi (by rw [e]))⟩
theorem Turn.cells (h : Turn w w' mp) {i : Nat} {cs : Array Value} {t : TypeId} {f : Nat × Nat} (hi : w.heap[i]? = some (.cells cs t f)) : w'.heap[i]? = some (.cells cs t f) := by
  cases mp with
  | none => rw [show w' = w from h]; exact hi
  | some b =>
    obtain ⟨es, clock, es', clock', hb, rfl⟩ := h
    refine (ChangeMaps.heap_setBlock_other hb _ (fun e => ?_)).trans hi
    subst e
    rw [hb] at hi
    cases hi
theorem Turn.size (h : Turn w w' mp) : w'.heap.size = w.heap.size := by
  cases mp with
  | none => rw [show w' = w from h]
  | some b =>
    obtain ⟨es, clock, es', clock', hb, rfl⟩ := h
    simp [ChangeMaps.setBlock]

theorem wf_key {x : Int} (h0 : 0 ≤ x) (h1 : x < 9223372036854775808) : (Lit.int .i64 x).wf = true := by
  simp only [Lit.wf, Bool.and_eq_true, decide_eq_true_eq]
  exact ⟨by show (-9223372036854775808 : Int) ≤ x; omega, by show x ≤ 9223372036854775807; omega⟩
end

/-! ### at the operations -/
section
variable {P : Program} (w : World) {ops : Array Oper} {rest : List Oper} {o : Oper} {a : Act} {Q : Exit → Act → World → Prop}

theorem wpList_look (hg : o.guard = none) (m x : Operand) (t : TypeId) (hop : o.op = Op.lookup t m x false)
    (k e : TypeId) (hk : P.underlying k = some (.int .i64)) (ht : P.underlying t = some (.map k e)) (z : Value) (hz : (zeroValue e).run P w = .ok z w)
    (mp : Option Nat) (n : Nat) (G : List (Int × Value)) (hm : a.eval m = .map mp) (h : MapAt w P k mp n G) (key : Int) (hx : a.eval x = .int .i64 key) (h0 : 0 ≤ key) (h1 : key < 9223372036854775808)
    (hK : wpList P ops Q rest (a.put o.dst ((getL key G).getD z)) w) :
    wpList P ops Q (o :: rest) a w := by
  refine wpList_plain hg fun K' hK' => ?_
  have hkey := keyOf_int_mk hk (wf_key h0 h1)
  cases mp with
  | none =>
    have hG : G = [] := h
    subst hG
    have hrun := Maps.look_nil (w := w) false (int_keyed hk) ht hz hkey
    unfold Oper.wp
    simp [execOp, hop, hm, hx, hrun, Result.andThen]
    exact hK' _ _ hK
  | some b =>
    obtain ⟨v, ps, hrun, hv⟩ := World.ownsMap.lookup h (int_keyed hk) ht hz (zd := .held z) (zp := []) rfl hkey
    rw [dat_at] at hv
    simp only [rv, Option.some.injEq, Prod.mk.injEq, DataW.held.injEq] at hv
    obtain ⟨rfl, _⟩ := hv
    unfold Oper.wp
    simp [execOp, hop, hm, hx, hrun, Result.andThen]
    exact hK' _ _ hK

theorem wpList_len_at (hg : o.guard = none) (m : Operand) (t : TypeId) (hop : o.op = Op.call { callee := Callee.builtin Builtin.len, args := #[m], argTypes := #[t] })
    (k e : TypeId) (ht : P.underlying t = some (.map k e)) (mp : Option Nat) (n : Nat) (G : List (Int × Value)) (hm : a.eval m = .map mp) (h : MapAt w P k mp n G)
    (hK : wpList P ops Q rest (a.put o.dst (.int .i64 (G.length : Nat))) w) :
    wpList P ops Q (o :: rest) a w := by
  refine wpList_plain hg fun K' hK' => ?_
  cases mp with
  | none =>
    have hG : G = [] := h
    subst hG
    unfold Oper.wp
    simp [execOp, hop, resolve, invoke, builtin, hm, Maps.len_nil ht o.type, Result.andThen]
    exact hK' _ _ hK
  | some b =>
    have hl := World.ownsMap.len h ht o.type
    rw [dat_size] at hl
    unfold Oper.wp
    simp [execOp, hop, resolve, invoke, builtin, hm, hl, Result.andThen]
    exact hK' _ _ hK

theorem wpList_put_at (hg : o.guard = none) (m x v : Operand) (t : TypeId) (hop : o.op = Op.mapUpdate t m x v)
    (k e : TypeId) (hk : P.underlying k = some (.int .i64)) (ht : P.underlying t = some (.map k e)) (b n : Nat) (G : List (Int × Value)) (hm : a.eval m = .map (some b)) (h : MapAt w P k (some b) n G) (hn : n < maxLen)
    (key : Int) (hx : a.eval x = .int .i64 key) (h0 : 0 ≤ key) (h1 : key < 9223372036854775808) (val : Value) (hv : a.eval v = val)
    (hK : ∀ w', MapAt w' P k (some b) (n + 1) (putL key val G) → Turn w w' (some b) → wpList P ops Q rest (a.put o.dst undef) w') :
    wpList P ops Q (o :: rest) a w := by
  refine wpList_mapUpdate_in w hg m x v t hop k e (int_keyed hk) ht rv b n (dat G) hm h hn _ val _ hx hv (keyOf_int_mk hk (wf_key h0 h1)) (.held val) [] rfl ?_
  intro w' r1 r2
  rw [dat_put] at r1
  exact hK w' r1 r2
end
end Mpm
