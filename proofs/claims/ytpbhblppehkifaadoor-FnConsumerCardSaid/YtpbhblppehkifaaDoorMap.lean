/- Maps keyed by uint64, nil or not, told as lists of keys and values: the laws at the operations. No program. -/
import Derived.Maps.RangeWalk
import Derived.Maps.OwnSet
import Derived.Carry
import Derived.WalkKit
namespace Con
open Go Go.Maps Go.RowKit

section lists
variable {β : Type}

def ins (x : Int × β) : List (Int × β) → List (Int × β)
  | [] => [x]
  | y :: r => if x.1 < y.1 then x :: y :: r else y :: ins x r
def delL (k : Int) (G : List (Int × β)) : List (Int × β) := G.filter (fun p => !(p.1 == k))
def putL (k : Int) (v : β) (G : List (Int × β)) : List (Int × β) := ins (k, v) (delL k G)
def getL (k : Int) (G : List (Int × β)) : Option β := (G.find? (fun p => p.1 == k)).map (·.2)

end lists

def rv : Value → Option (DataW Value × List MemPlace) := fun v => some (.held v, [])
def dat (G : List (Int × Value)) : DataW Value := .map (G.map fun p => (.int .u64 p.1, .held p.2))

theorem same_int (a k : Int) : (Lit.int IntKind.u64 a).sameKey (.int .u64 k) = (a == k) := by
  simp only [Lit.sameKey, true_and]
  exact (Bool.beq_eq_decide_eq a k).symm

theorem dat_del (G : List (Int × Value)) (k : Int) : (dat G).del (.int .u64 k) = dat (delL k G) := by
  show DataW.map _ = DataW.map _
  congr 1
  rw [delL, List.filter_map]
  congr 1
  apply List.filter_congr
  intro p _
  simp [same_int]

theorem dat_ins (x : Int) (v : Value) : ∀ G : List (Int × Value), DataW.insert (Lit.int IntKind.u64 x, DataW.held v) (G.map fun p => (Lit.int IntKind.u64 p.1, DataW.held p.2)) = (ins (x, v) G).map fun p => (Lit.int IntKind.u64 p.1, DataW.held p.2)
  | [] => rfl
  | y :: r => by
    by_cases h : x < y.1
    · simp [DataW.insert, ins, Lit.before, h]
    · simp [DataW.insert, ins, Lit.before, h, dat_ins x v r]

theorem dat_put (G : List (Int × Value)) (k : Int) (v : Value) : (dat G).put (.int .u64 k) (.held v) = dat (putL k v G) := by
  have h := dat_del G k
  simp only [dat, DataW.del, DataW.map.injEq] at h
  simp only [dat, DataW.put, putL]
  rw [h, dat_ins]

theorem dat_find (G : List (Int × Value)) (k : Int) : (G.map fun p => ((Lit.int IntKind.u64 p.1, DataW.held p.2) : Lit × DataW Value)).find? (fun p => p.1.sameKey (.int .u64 k)) = (G.find? (fun p => p.1 == k)).map fun p => (Lit.int IntKind.u64 p.1, DataW.held p.2) := by
  rw [List.find?_map]
  congr 2
  funext p
  simp [same_int]

theorem dat_at (G : List (Int × Value)) (k : Int) (z : Value) : (dat G).atKey (.int .u64 k) (.held z) = .held ((getL k G).getD z) := by
  simp only [dat, DataW.atKey, dat_find, getL]
  cases G.find? (fun p => p.1 == k) <;> rfl

theorem dat_at_nil (G : List (Int × Value)) (k : Int) {v : Value} (h : (dat G).atKey (.int .u64 k) .nil = .held v) : getL k G = some v := by
  simp only [dat, DataW.atKey, dat_find] at h
  unfold getL
  cases hf : G.find? (fun p => p.1 == k) with
  | none => rw [hf] at h; simp at h
  | some p => rw [hf] at h; simp at h; simp [h]

theorem any_get {β : Type} (k : Int) : ∀ G : List (Int × β), G.any (fun p => p.1 == k) = (getL k G).isSome
  | [] => rfl
  | p :: r => by
    have := any_get k r
    unfold getL at this ⊢
    by_cases h : (p.1 == k) = true
    · simp [h]
    · simp only [Bool.not_eq_true] at h
      simp only [List.any_cons, h, Bool.false_or, List.find?_cons, this]

theorem dat_has (G : List (Int × Value)) (k : Int) : Maps.has (dat G) (.int .u64 k) = (getL k G).isSome := by
  rw [← any_get]
  simp only [dat, Maps.has, List.any_map]
  congr 1
  funext p
  simp [same_int]

theorem dat_size (G : List (Int × Value)) : Maps.size (dat G) = G.length := by simp [dat, Maps.size]

/-- A map's value, nil or not, tells the list. -/
def MapAt (w : World) (P : Program) (k : TypeId) (mp : Option Nat) (n : Nat) (G : List (Int × Value)) : Prop :=
  match mp with
  | none => G = []
  | some b => w.ownsMap P k rv b n (dat G)

def Turn (w w' : World) (mp : Option Nat) : Prop :=
  match mp with
  | none => w' = w
  | some b => w.mapTurned w' b

section
variable {P : Program} {k : TypeId} {w w' : World} {mp : Option Nat} {n : Nat} {G : List (Int × Value)}

theorem MapAt.kept {row : Option Nat} (h : MapAt w P k mp n G) (hg : w.grownBy w' row) (hne : ∀ b, mp = some b → some b ≠ row) : MapAt w' P k mp n G := by
  cases mp with
  | none => exact h
  | some b => exact World.ownsMap.kept h hg (hne b rfl)
theorem MapAt.below (h : MapAt w P k mp n G) {B : Nat} (hg : Below B w w') (hb : ∀ b, mp = some b → b < B) : MapAt w' P k mp n G := by
  cases mp with
  | none => exact h
  | some b =>
    obtain ⟨es, clock, hk, F, hs, hD⟩ := h
    exact ⟨es, clock, (hg.block b (hb b rfl)).trans hk, F, hs, hD⟩
theorem MapAt.same (h : MapAt w P k mp n G) (hg : ∀ b, mp = some b → w'.heap[b]? = w.heap[b]?) : MapAt w' P k mp n G := by
  cases mp with
  | none => exact h
  | some b =>
    obtain ⟨es, clock, hk, F, hs, hD⟩ := h
    exact ⟨es, clock, (hg b rfl).trans hk, F, hs, hD⟩
theorem MapAt.lt (h : MapAt w P k mp n G) {b : Nat} (hb : mp = some b) : b < w.heap.size := by
  subst hb
  exact World.ownsMap.lt h
theorem MapAt.no_cells (h : MapAt w P k mp n G) {b : Nat} (hb : mp = some b) {cs : Array Value} {t : TypeId} {f : Nat × Nat} : w.heap[b]? ≠ some (.cells cs t f) := by
  subst hb
  obtain ⟨es, clock, hk, _⟩ := h
  rw [hk]
  simp
theorem MapAt.mono (h : MapAt w P k mp n G) {n' : Nat} (hn : n ≤ n') : MapAt w P k mp n' G := by
  cases mp with
  | none => exact h
  | some b => exact World.ownsMap.mono h hn
theorem MapAt.len_le (h : MapAt w P k mp n G) : G.length ≤ n := by
  cases mp with
  | none => have h' : G = [] := h; simp [h']
  | some b =>
    have := World.ownsMap.size_le h
    rwa [dat_size] at this

theorem Turn.other (h : Turn w w' mp) {i : Nat} (hi : mp ≠ some i) : w'.heap[i]? = w.heap[i]? := by
  cases mp with
  | none => rw [show w' = w from h]
  | some b =>
    obtain ⟨es, clock, es', clock', hb, rfl⟩ := h
    exact ChangeMaps.heap_setBlock_other hb _ (fun e => hi (by rw [e]))
theorem Turn.grown (h : Turn w w' mp) : w.grownBy w' mp := by
  cases mp with
  | none => rw [show w' = w from h]; exact ⟨rfl, rfl, rfl, Nat.le_refl _, fun _ _ _ => rfl⟩
  | some b =>
    obtain ⟨es, clock, es', clock', hb, rfl⟩ := h
    exact ⟨rfl, rfl, rfl, by simp [ChangeMaps.setBlock], fun i _ hi => ChangeMaps.heap_setBlock_other hb _ (fun e => hi (by rw [e]))⟩
theorem Turn.cells (h : Turn w w' mp) {i : Nat} {cs : Array Value} {t : TypeId} {f : Nat × Nat} (hi : w.heap[i]? = some (.cells cs t f)) : w'.heap[i]? = some (.cells cs t f) := by
  cases mp with
  | none => rw [show w' = w from h]; exact hi
  | some b =>
    obtain ⟨es, clock, es', clock', hb, rfl⟩ := h
    refine (ChangeMaps.heap_setBlock_other hb _ (fun e => ?_)).trans hi
    subst e
    rw [hb] at hi
    cases hi
theorem Turn.size (h : Turn w w' mp) : w'.heap.size = w.heap.size := by
  cases mp with
  | none => rw [show w' = w from h]
  | some b =>
    obtain ⟨es, clock, es', clock', hb, rfl⟩ := h
    simp [ChangeMaps.setBlock]

theorem wf_key {x : Int} (h0 : 0 ≤ x) (h1 : x < 18446744073709551616) : (Lit.int .u64 x).wf = true := by
  simp only [Lit.wf, Bool.and_eq_true, decide_eq_true_eq]
  exact ⟨h0, by show x ≤ 18446744073709551615; omega⟩
end

/-! ### ranges -/
def RangesAt (w : World) (P : Program) (k : TypeId) (mp : Option Nat) (r n : Nat) (G : List (Int × Value)) (left : Lit → Bool) (cnt : Nat) : Prop :=
  match mp with
  | none => G = [] ∧ w.heap[r]? = some (.mapIter none 0 #[] 0) ∧ cnt = 0 ∧ ∀ x, left x = false
  | some b => w.ranges P k rv b r n (dat G) left cnt
def leftOfAt (w : World) (mp : Option Nat) (r : Nat) : Nat :=
  match mp with
  | none => 0
  | some b => w.rangeLeft b r

section
variable {P : Program} {k : TypeId} {w w' : World} {mp : Option Nat} {r n : Nat} {G : List (Int × Value)} {left : Lit → Bool} {cnt : Nat}
theorem RangesAt.owns (h : RangesAt w P k mp r n G left cnt) : MapAt w P k mp n G := by
  cases mp with
  | none => exact h.1
  | some b => exact World.ranges.owns h
theorem RangesAt.left_eq (h : RangesAt w P k mp r n G left cnt) : leftOfAt w mp r = cnt := by
  cases mp with
  | none => exact h.2.2.1.symm
  | some b => exact World.ranges.left_eq h
theorem RangesAt.kept {row : Option Nat} (h : RangesAt w P k mp r n G left cnt) (hg : w.grownBy w' row) (hne : ∀ b, mp = some b → some b ≠ row) (hr : some r ≠ row) : RangesAt w' P k mp r n G left cnt := by
  cases mp with
  | none => exact ⟨h.1, (hg.block r (Array.getElem?_eq_some_iff.1 h.2.1).1 hr).trans h.2.1, h.2.2⟩
  | some b => exact World.ranges.kept h hg (hne b rfl) hr
theorem RangesAt.lt (h : RangesAt w P k mp r n G left cnt) : r < w.heap.size := by
  cases mp with
  | none => exact (Array.getElem?_eq_some_iff.1 h.2.1).1
  | some b => exact World.ranges.lt h
theorem RangesAt.iter (h : RangesAt w P k mp r n G left cnt) : ∃ m s q c, w.heap[r]? = some (.mapIter m s q c) := by
  cases mp with
  | none => exact ⟨_, _, _, _, h.2.1⟩
  | some b =>
    obtain ⟨es, clock, since, seen, c0, _, _, _, _, hr, _⟩ := h
    exact ⟨_, _, _, _, hr⟩
end

/-! ### at the operations -/
section
variable {P : Program} (w : World) {ops : Array Oper} {rest : List Oper} {o : Oper} {a : Act} {Q : Exit → Act → World → Prop}

theorem wpList_look (hg : o.guard = none) (m x : Operand) (t : TypeId) (hop : o.op = Op.lookup t m x false)
    (k e : TypeId) (hk : P.underlying k = some (.int .u64)) (ht : P.underlying t = some (.map k e)) (z : Value) (hz : (zeroValue e).run P w = .ok z w)
    (mp : Option Nat) (n : Nat) (G : List (Int × Value)) (hm : a.eval m = .map mp) (h : MapAt w P k mp n G) (key : Int) (hx : a.eval x = .int .u64 key) (h0 : 0 ≤ key) (h1 : key < 18446744073709551616)
    (hK : wpList P ops Q rest (a.put o.dst ((getL key G).getD z)) w) :
    wpList P ops Q (o :: rest) a w := by
  refine wpList_plain hg fun K' hK' => ?_
  have hkey := keyOf_int_mk hk (wf_key h0 h1)
  cases mp with
  | none =>
    have hG : G = [] := h
    subst hG
    have hrun := Maps.look_nil (w := w) false (int_keyed hk) ht hz hkey
    unfold Oper.wp
    simp [execOp, hop, hm, hx, hrun, Result.andThen]
    exact hK' _ _ hK
  | some b =>
    obtain ⟨v, ps, hrun, hv⟩ := World.ownsMap.lookup h (int_keyed hk) ht hz (zd := .held z) (zp := []) rfl hkey
    rw [dat_at] at hv
    simp only [rv, Option.some.injEq, Prod.mk.injEq, DataW.held.injEq] at hv
    obtain ⟨rfl, _⟩ := hv
    unfold Oper.wp
    simp [execOp, hop, hm, hx, hrun, Result.andThen]
    exact hK' _ _ hK

theorem wpList_look_ok (hg : o.guard = none) (m x : Operand) (t : TypeId) (hop : o.op = Op.lookup t m x true)
    (k e : TypeId) (hk : P.underlying k = some (.int .u64)) (ht : P.underlying t = some (.map k e)) (z : Value) (hz : (zeroValue e).run P w = .ok z w)
    (mp : Option Nat) (n : Nat) (G : List (Int × Value)) (hm : a.eval m = .map mp) (h : MapAt w P k mp n G) (key : Int) (hx : a.eval x = .int .u64 key) (h0 : 0 ≤ key) (h1 : key < 18446744073709551616)
    (hK : wpList P ops Q rest (a.put o.dst (.tuple #[(getL key G).getD z, .bool (getL key G).isSome])) w) :
    wpList P ops Q (o :: rest) a w := by
  refine wpList_plain hg fun K' hK' => ?_
  have hkey := keyOf_int_mk hk (wf_key h0 h1)
  cases mp with
  | none =>
    have hG : G = [] := h
    subst hG
    have hrun := Maps.look_nil (w := w) true (int_keyed hk) ht hz hkey
    unfold Oper.wp
    simp [execOp, hop, hm, hx, hrun, Result.andThen]
    exact hK' _ _ hK
  | some b =>
    obtain ⟨v, ps, hrun, hv⟩ := World.ownsMap.look_ok h (int_keyed hk) ht hz (zd := .held z) (zp := []) rfl hkey
    rw [dat_at] at hv
    rw [dat_has] at hrun
    simp only [rv, Option.some.injEq, Prod.mk.injEq, DataW.held.injEq] at hv
    obtain ⟨rfl, _⟩ := hv
    unfold Oper.wp
    simp [execOp, hop, hm, hx, hrun, Result.andThen]
    exact hK' _ _ hK

theorem wpList_len_at (hg : o.guard = none) (m : Operand) (t : TypeId) (hop : o.op = Op.call { callee := Callee.builtin Builtin.len, args := #[m], argTypes := #[t] })
    (k e : TypeId) (ht : P.underlying t = some (.map k e)) (mp : Option Nat) (n : Nat) (G : List (Int × Value)) (hm : a.eval m = .map mp) (h : MapAt w P k mp n G)
    (hK : wpList P ops Q rest (a.put o.dst (.int .i64 (G.length : Nat))) w) :
    wpList P ops Q (o :: rest) a w := by
  refine wpList_plain hg fun K' hK' => ?_
  cases mp with
  | none =>
    have hG : G = [] := h
    subst hG
    unfold Oper.wp
    simp [execOp, hop, resolve, invoke, builtin, hm, Maps.len_nil ht o.type, Result.andThen]
    exact hK' _ _ hK
  | some b =>
    have hl := World.ownsMap.len h ht o.type
    rw [dat_size] at hl
    unfold Oper.wp
    simp [execOp, hop, resolve, invoke, builtin, hm, hl, Result.andThen]
    exact hK' _ _ hK

theorem wpList_del_at (hg : o.guard = none) (m x : Operand) (t k : TypeId) (hop : o.op = Op.call { callee := Callee.builtin Builtin.delete, args := #[m, x], argTypes := #[t, k] })
    (e : TypeId) (hk : P.underlying k = some (.int .u64)) (ht : P.underlying t = some (.map k e)) (mp : Option Nat) (n : Nat) (G : List (Int × Value)) (hm : a.eval m = .map mp) (h : MapAt w P k mp n G)
    (key : Int) (hx : a.eval x = .int .u64 key) (h0 : 0 ≤ key) (h1 : key < 18446744073709551616)
    (hK : ∀ w', MapAt w' P k mp n (delL key G) → Turn w w' mp → wpList P ops Q rest (a.put o.dst (.tuple #[])) w') :
    wpList P ops Q (o :: rest) a w := by
  refine wpList_plain hg fun K' hK' => ?_
  have hkey := keyOf_int_mk hk (wf_key h0 h1)
  cases mp with
  | none =>
    have hG : G = [] := h
    subst hG
    unfold Oper.wp
    simp [execOp, hop, resolve, invoke, builtin, hm, hx, Maps.drop_nil (w := w) (int_keyed hk) ht hkey o.type, Result.andThen]
    exact hK' _ _ (hK w rfl rfl)
  | some b =>
    obtain ⟨w', hrun, r1, r2⟩ := World.ownsMap.drop h (int_keyed hk) ht hkey o.type
    rw [dat_del] at r1
    unfold Oper.wp
    simp [execOp, hop, resolve, invoke, builtin, hm, hx, hrun, Result.andThen]
    exact hK' _ _ (hK w' r1 r2)

theorem wpList_put_at (hg : o.guard = none) (m x v : Operand) (t : TypeId) (hop : o.op = Op.mapUpdate t m x v)
    (k e : TypeId) (hk : P.underlying k = some (.int .u64)) (ht : P.underlying t = some (.map k e)) (b n : Nat) (G : List (Int × Value)) (hm : a.eval m = .map (some b)) (h : MapAt w P k (some b) n G) (hn : n < maxLen)
    (key : Int) (hx : a.eval x = .int .u64 key) (h0 : 0 ≤ key) (h1 : key < 18446744073709551616) (val : Value) (hv : a.eval v = val)
    (hK : ∀ w', MapAt w' P k (some b) (n + 1) (putL key val G) → Turn w w' (some b) → wpList P ops Q rest (a.put o.dst undef) w') :
    wpList P ops Q (o :: rest) a w := by
  refine wpList_mapUpdate_in w hg m x v t hop k e (int_keyed hk) ht rv b n (dat G) hm h hn _ val _ hx hv (keyOf_int_mk hk (wf_key h0 h1)) (.held val) [] rfl ?_
  intro w' r1 r2
  rw [dat_put] at r1
  exact hK w' r1 r2

theorem wpList_range_at (hg : o.guard = none) (m : Operand) (t : TypeId) (hop : o.op = Op.range t m) (k e : TypeId) (hk : P.underlying k = some (.int .u64)) (ht : P.underlying t = some (.map k e))
    (mp : Option Nat) (n : Nat) (G : List (Int × Value)) (hm : a.eval m = .map mp) (h : MapAt w P k mp n G)
    (hK : ∀ w' left cnt, RangesAt w' P k mp w.heap.size n G left cnt → (∀ x, left (.int .u64 x) = (getL x G).isSome) → w.grownBy w' none → w'.heap.size = w.heap.size + 1 → wpList P ops Q rest (a.put o.dst (.pointer (some ⟨w.heap.size, 0, none⟩))) w') :
    wpList P ops Q (o :: rest) a w := by
  cases mp with
  | none =>
    have hG : G = [] := h
    subst hG
    refine wpList_plain hg fun K' hK' => ?_
    have hrun := run_range_nilMap w t k e ht
    unfold Oper.wp
    simp [execOp, hop, hm, hrun, Result.andThen]
    exact hK' _ _ (hK _ (fun _ => false) 0 ⟨rfl, (MapKept.heap_alloc w _).1, rfl, fun _ => rfl⟩ (fun _ => rfl) (World.grownBy_alloc w _ none) (by simp))
  | some b =>
    refine wpList_range_own w hg m t hop k e (int_keyed hk) ht rv b n (dat G) hm h ?_
    intro w' r1 r2 r3
    exact hK w' _ _ r1 (fun x => dat_has G x) r2 r3

theorem wpList_next_at (hg : o.guard = none) (it : Operand) (hop : o.op = Op.next it false) (k : TypeId) (hk : P.underlying k = some (.int .u64)) (mp : Option Nat) (r n : Nat) (G : List (Int × Value)) (left : Lit → Bool) (cnt : Nat)
    (hit : a.eval it = .pointer (some ⟨r, 0, none⟩)) (h : RangesAt w P k mp r n G left cnt)
    (hDone : (∀ x, left (.int .u64 x) = false) → wpList P ops Q rest (a.put o.dst (.tuple #[.bool false])) w)
    (hMore : ∀ (x : Int) (v : Value) (w' : World) (left' : Lit → Bool) (cnt' : Nat), 0 ≤ x → x < 18446744073709551616 → left (.int .u64 x) = true → getL x G = some v → RangesAt w' P k mp r n G left' cnt' → (∀ z, left' (.int .u64 z) = (left (.int .u64 z) && !(z == x))) → cnt' < cnt →
      w.grownBy w' (some r) → w'.heap.size = w.heap.size → (Instr.entry (.pointer (some ⟨r, 0, none⟩))).run P w' = .ok (.tuple #[.int .u64 x, v]) w' → wpList P ops Q rest (a.put o.dst (.tuple #[.bool true, .int .u64 x, v])) w') :
    wpList P ops Q (o :: rest) a w := by
  cases mp with
  | none =>
    refine wpList_plain hg fun K' hK' => ?_
    obtain ⟨_, h1, _, h3⟩ := h
    have hrun : (Instr.next (.pointer (some ⟨r, 0, none⟩)) false o.type).run P w = .ok (.tuple #[.bool false]) w := by
      simp [Instr.next, getObj, Sem.run, h1, Result.andThen]
    unfold Oper.wp
    simp [execOp, hop, hit, hrun, Result.andThen]
    exact hK' _ _ (hDone fun x => h3 _)
  | some b =>
    refine wpList_next_ranges w hg it hop k (int_keyed hk) rv (Value.int .u64) id (fun key kl hkey => by obtain ⟨x, rfl, _⟩ := Maps.keyOf_int_inv hk hkey; exact ⟨x, rfl⟩) (fun v _ _ => ⟨v, rfl⟩) b r n (dat G) left cnt hit h ?_ ?_
    · intro _ h2
      exact hDone fun x => h2 _
    · intro x c kl y w' cnt' hkey hlk hv hat hrg hlt hgr hsz hen
      obtain ⟨x', ex, rfl, hwx⟩ := Maps.keyOf_int_inv hk hkey
      cases ex
      have hy : y = (.held c, []) := (Option.some.inj hv).symm
      have hg0 := hat .nil
      rw [hy] at hg0
      have hb : 0 ≤ x ∧ x < 18446744073709551616 := by
        simp only [Lit.wf, Bool.and_eq_true, decide_eq_true_eq] at hwx
        have h1 : (0 : Int) ≤ x := hwx.1
        have h2 : x ≤ 18446744073709551615 := hwx.2
        omega
      exact hMore x c w' (fun z => left z && !z.sameKey (Lit.int IntKind.u64 x)) cnt' hb.1 hb.2 hlk (dat_at_nil G x hg0) hrg (fun z => by simp only [same_int]) hlt hgr hsz hen

/-- delete in the round of a range over the same map. -/
theorem wpList_del_ranges (hg : o.guard = none) (m x : Operand) (t k : TypeId) (hop : o.op = Op.call { callee := Callee.builtin Builtin.delete, args := #[m, x], argTypes := #[t, k] })
    (e : TypeId) (hk : P.underlying k = some (.int .u64)) (ht : P.underlying t = some (.map k e)) (mp : Option Nat) (r n : Nat) (G : List (Int × Value)) (left : Lit → Bool) (cnt : Nat)
    (hm : a.eval m = .map mp) (h : RangesAt w P k mp r n G left cnt) (key : Int) (hx : a.eval x = .int .u64 key) (h0 : 0 ≤ key) (h1 : key < 18446744073709551616)
    (hK : ∀ w' left' cnt', RangesAt w' P k mp r n (delL key G) left' cnt' → (∀ z, left' (.int .u64 z) = (left (.int .u64 z) && !(z == key))) → cnt' ≤ cnt → Turn w w' mp → wpList P ops Q rest (a.put o.dst (.tuple #[])) w') :
    wpList P ops Q (o :: rest) a w := by
  have hkey := keyOf_int_mk hk (wf_key h0 h1)
  cases mp with
  | none =>
    refine wpList_plain hg fun K' hK' => ?_
    obtain ⟨hG, h1, h2, h3⟩ := h
    subst hG
    unfold Oper.wp
    simp [execOp, hop, resolve, invoke, builtin, hm, hx, Maps.drop_nil (w := w) (int_keyed hk) ht hkey o.type, Result.andThen]
    exact hK' _ _ (hK w left cnt ⟨rfl, h1, h2, h3⟩ (fun z => by simp [h3]) (Nat.le_refl _) rfl)
  | some b =>
    refine wpList_delete_ranges w hg m x t k hop e (int_keyed hk) ht rv b r n (dat G) left cnt hm h _ _ hx hkey ?_
    intro w' cnt' r1 r2 r3
    rw [dat_del] at r1
    exact hK w' (fun z => left z && !z.sameKey (Lit.int IntKind.u64 key)) cnt' r1 (fun z => by simp only [same_int]) r2 r3

end

#print axioms wpList_next_at
#print axioms wpList_look_ok
#print axioms wpList_del_at
#print axioms wpList_put_at
end Con
