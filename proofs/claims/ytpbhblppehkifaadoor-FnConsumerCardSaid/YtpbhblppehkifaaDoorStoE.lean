/- A consumer's store in memory: its cells, its two maps, what waits. -/
import Derived.Test.YtpbhblppehkifaaDoorMap
import Derived.Test.YtpbhblppehkifaaDoorLocks
import Derived.Carry
import Derived.WalkKit
import Derived.Deep.DrawnRows
import Derived.Deep.LoopGhost
import Derived.Deep.AppendLies
import Derived.Deep.DeepCutAuto
import Derived.Deep.RegionLaw
import Derived.Deep.QuietTactic
import Derived.BigQuiet
import Derived.Deep.RegionHeld3
namespace Go.Proofs.YtpbhblppehkifaaDoor
open Go Go.RowKit Con

structure Wt where
  s : Int
  c : Int
  t : Int
  b : Nat

abbrev ptr (b : Nat) : Value := .pointer (some ⟨b, 0, none⟩)
def pendG (W : List Wt) : List (Int × Value) := W.map fun e => (e.s, ptr e.b)
def redG (R : List (Int × Int)) : List (Int × Value) := R.map fun p => (p.1, .int .u64 p.2)

/-- What is done to memory: below B nothing; cells that are no store's and no message's stay. -/
structure Eff (B : Nat) (w w' : World) : Prop where
  below : Below B w w'
  keep : ∀ (k : Nat) (cs : Array Value) (t : TypeId) (f : Nat × Nat), t ≠ 81 → t ≠ 91 → w.heap[k]? = some (Obj.cells cs t f) → w'.heap[k]? = some (Obj.cells cs t f)

theorem Eff.refl (B : Nat) (w : World) : Eff B w w := ⟨Below.refl _ _, fun _ _ _ _ _ _ h => h⟩
theorem Eff.trans {B : Nat} {a b c : World} (h : Eff B a b) (k : Eff B b c) : Eff B a c := ⟨h.below.trans k.below, fun i cs t f h1 h2 h3 => k.keep i cs t f h1 h2 (h.keep i cs t f h1 h2 h3)⟩
theorem Eff.of_below {B : Nat} {a b : World} (h : Below a.heap.size a b) (hB : B ≤ a.heap.size) : Eff B a b :=
  ⟨h.mono hB, fun i _ _ _ _ _ hk => (h.block i (Array.getElem?_eq_some_iff.1 hk).1).trans hk⟩
theorem Eff.grown {B : Nat} {a b : World} {row : Option Nat} (h : a.grownBy b row) (hB : B ≤ a.heap.size) (hr : ∀ r, row = some r → B ≤ r ∧ ∀ cs t f, a.heap[r]? = some (.cells cs t f) → t = 81 ∨ t = 91) : Eff B a b := by
  refine ⟨⟨h.os, h.tape, h.output, h.size, fun k hk => h.block k (by omega) (fun e => ?_)⟩, fun i cs t f h1 h2 hk => (h.block i (Array.getElem?_eq_some_iff.1 hk).1 (fun e => ?_)).trans hk⟩
  · have := (hr k e.symm).1
    omega
  · rcases (hr i e.symm).2 cs t f hk with h3 | h3
    · exact h1 h3
    · exact h2 h3
theorem Eff.turn {B : Nat} {a b : World} {mp : Option Nat} (h : Turn a b mp) (hB : B ≤ a.heap.size) (hm : ∀ r, mp = some r → B ≤ r) : Eff B a b := by
  refine Eff.grown h.grown hB (fun r hr => ⟨hm r hr, fun cs t f hk => ?_⟩)
  subst hr
  obtain ⟨es, clock, es', clock', hb, _⟩ := h
  rw [hb] at hk
  cases hk

theorem heap_setCell {w : World} {m i : Nat} {v : Value} {cs : Array Value} {t : TypeId} (h : w.heap[m]? = some (.cells cs t (0, 0))) : (w.setCell ⟨m, i, none⟩ v).heap[m]? = some (.cells (cs.setIfInBounds i v) t (0, 0)) := by
  simp only [World.setCell]
  rw [Array.getElem?_modify, if_pos rfl, h]
  rfl
theorem heap_setCell_ne {w : World} {m i k : Nat} {v : Value} (hk : k ≠ m) : (w.setCell ⟨m, i, none⟩ v).heap[k]? = w.heap[k]? := by
  simp only [World.setCell]
  rw [Array.getElem?_modify, if_neg (by simpa using Ne.symm hk)]
theorem grown_setCell (w : World) (m i : Nat) (v : Value) : w.grownBy (w.setCell ⟨m, i, none⟩ v) (some m) :=
  ⟨rfl, rfl, rfl, by simp [World.setCell], fun k _ hk => heap_setCell_ne (fun e => hk (by rw [e]))⟩
theorem cell_heap {w : World} {m i : Nat} {cs : Array Value} {t : TypeId} {f : Nat × Nat} (h : w.heap[m]? = some (.cells cs t f)) : w.cell? ⟨m, i, none⟩ = cs[i]? := by
  simp [World.cell?, h]
theorem frozen_heap {w : World} {m : Nat} {cs : Array Value} {t : TypeId} (h : w.heap[m]? = some (.cells cs t (0, 0))) (i : Nat) : w.frozen? ⟨m, i, none⟩ = false := by
  simp [World.frozen?, h]

/-- A message that waits, in memory. -/
def El (w : World) (e : Wt) : Prop := w.heap[e.b]? = some (.cells #[.int .u64 e.c, .int .i64 e.t] 91 (0, 0))

/-- What is not in the store's own cells. -/
structure Rest (w : World) (B m : Nat) (mp mr : Option Nat) (n : Nat) (W : List Wt) (R : List (Int × Int)) : Prop where
  hB : B ≤ m
  pend : MapAt w Tryd.prog 29 mp n (pendG W)
  red : MapAt w Tryd.prog 29 mr n (redG R)
  ne : ∀ b, mp = some b → mr ≠ some b
  mpB : ∀ b, mp = some b → B ≤ b
  mrB : ∀ b, mr = some b → B ≤ b
  els : ∀ e ∈ W, El w e
  elB : ∀ e ∈ W, B ≤ e.b ∧ e.b ≠ m
  nd : (W.map (·.b)).Nodup
  sW : W.Pairwise (fun a b => a.s < b.s)
  sR : R.Pairwise (fun a b => a.1 < b.1)
  kW : ∀ e ∈ W, 0 ≤ e.s ∧ e.s ≤ 65536 ∧ 0 ≤ e.c ∧ e.c ≤ 65536
  kR : ∀ p ∈ R, 0 ≤ p.1 ∧ p.1 ≤ 65536

structure St (w : World) (B m : Nat) (cs : Array Value) (mp mr : Option Nat) (n : Nat) (W : List Wt) (R : List (Int × Int)) : Prop where
  box : w.heap[m]? = some (.cells cs 81 (0, 0))
  rest : Rest w B m mp mr n W R

theorem Rest.same {w w' : World} {B m : Nat} {mp mr : Option Nat} {n : Nat} {W : List Wt} {R : List (Int × Int)} (h : Rest w B m mp mr n W R)
    (h1 : ∀ b, mp = some b → w'.heap[b]? = w.heap[b]?) (h2 : ∀ b, mr = some b → w'.heap[b]? = w.heap[b]?) (h3 : ∀ e ∈ W, w'.heap[e.b]? = w.heap[e.b]?) : Rest w' B m mp mr n W R :=
  { h with pend := h.pend.same h1, red := h.red.same h2, els := fun e he => (h3 e he).trans (h.els e he) }

theorem St.set {w : World} {B m : Nat} {cs : Array Value} {mp mr : Option Nat} {n : Nat} {W : List Wt} {R : List (Int × Int)} (h : St w B m cs mp mr n W R) (i : Nat) (v : Value) :
    St (w.setCell ⟨m, i, none⟩ v) B m (cs.setIfInBounds i v) mp mr n W R :=
  ⟨heap_setCell h.box, h.rest.same (fun _ hb => heap_setCell_ne (fun e => h.rest.pend.no_cells hb (e ▸ h.box))) (fun _ hb => heap_setCell_ne (fun e => h.rest.red.no_cells hb (e ▸ h.box)))
    (fun e he => heap_setCell_ne (h.rest.elB e he).2)⟩
theorem St.lt {w : World} {B m : Nat} {cs : Array Value} {mp mr : Option Nat} {n : Nat} {W : List Wt} {R : List (Int × Int)} (h : St w B m cs mp mr n W R) : m < w.heap.size := (Array.getElem?_eq_some_iff.1 h.box).1
theorem El.lt {w : World} {e : Wt} (h : El w e) : e.b < w.heap.size := (Array.getElem?_eq_some_iff.1 h).1
/-- Whatever is read, drawn and newly made. -/
theorem St.later {w w' : World} {B m : Nat} {cs : Array Value} {mp mr : Option Nat} {n : Nat} {W : List Wt} {R : List (Int × Int)} (h : St w B m cs mp mr n W R) (hb : Below w.heap.size w w') : St w' B m cs mp mr n W R :=
  ⟨(hb.block m h.lt).trans h.box, h.rest.same (fun b e => hb.block b (h.rest.pend.lt e)) (fun b e => hb.block b (h.rest.red.lt e)) (fun e he => hb.block _ (h.rest.els e he).lt)⟩
theorem Eff.set {w : World} {B m : Nat} {cs : Array Value} {mp mr : Option Nat} {n : Nat} {W : List Wt} {R : List (Int × Int)} (h : St w B m cs mp mr n W R) (i : Nat) (v : Value) : Eff B w (w.setCell ⟨m, i, none⟩ v) :=
  Eff.grown (grown_setCell w m i v) (Nat.le_trans h.rest.hB (Nat.le_of_lt h.lt)) (fun r hr => by
    cases hr
    exact ⟨h.rest.hB, fun cs' t f hk => by rw [h.box] at hk; cases hk; exact Or.inl rfl⟩)

/-- The eleven cells, read. -/
theorem St.cells {w : World} {B m : Nat} {v0 v1 v2 v3 v4 v5 v6 v7 v8 v9 v10 : Value} {mp mr : Option Nat} {n : Nat} {W : List Wt} {R : List (Int × Int)} (h : St w B m #[v0, v1, v2, v3, v4, v5, v6, v7, v8, v9, v10] mp mr n W R) :
    w.cell? ⟨m, 0, none⟩ = some v0 ∧ w.cell? ⟨m, 1, none⟩ = some v1 ∧ w.cell? ⟨m, 2, none⟩ = some v2 ∧ w.cell? ⟨m, 3, none⟩ = some v3 ∧ w.cell? ⟨m, 4, none⟩ = some v4 ∧ w.cell? ⟨m, 5, none⟩ = some v5 ∧
    w.cell? ⟨m, 6, none⟩ = some v6 ∧ w.cell? ⟨m, 7, none⟩ = some v7 ∧ w.cell? ⟨m, 8, none⟩ = some v8 ∧ w.cell? ⟨m, 9, none⟩ = some v9 ∧ w.cell? ⟨m, 10, none⟩ = some v10 :=
  ⟨cell_heap h.box, cell_heap h.box, cell_heap h.box, cell_heap h.box, cell_heap h.box, cell_heap h.box, cell_heap h.box, cell_heap h.box, cell_heap h.box, cell_heap h.box, cell_heap h.box⟩
theorem St.frozen {w : World} {B m : Nat} {cs : Array Value} {mp mr : Option Nat} {n : Nat} {W : List Wt} {R : List (Int × Int)} (h : St w B m cs mp mr n W R) (i : Nat) : w.frozen? ⟨m, i, none⟩ = false := frozen_heap h.box i

/-- The store's own cells as they are told. -/
abbrev stc (lk ack dc ds fc fs : Int) (mp mr : Option Nat) : Array Value :=
  #[.int .i32 lk, .int .u32 0, .int .i64 ack, .int .i64 0, .int .u64 dc, .int .u64 ds, .int .u64 fc, .int .u64 fs, .map mp, .map mr, .bool false]

/-- A consumer's state. -/
structure Kp where
  dc : Int
  ds : Int
  fc : Int
  fs : Int
  ws : List (Int × Int × Int)
  rs : List (Int × Int)
def val (e : Wt) : Int × Int × Int := (e.s, e.c, e.t)
def Ok16 (x : Int) : Prop := 0 ≤ x ∧ x ≤ 65536

/-- The store at address m holds the state k. -/
structure Sits (w : World) (B m : Nat) (n : Nat) (ack : Int) (k : Kp) : Prop where
  st : ∃ mp mr W, St w B m (stc 0 ack k.dc k.ds k.fc k.fs mp mr) mp mr n W k.rs ∧ W.map val = k.ws
  n0 : Ok16 k.dc
  n1 : Ok16 k.ds
  n2 : Ok16 k.fc
  n3 : Ok16 k.fs

end Go.Proofs.YtpbhblppehkifaaDoor

namespace Go.Proofs.YtpbhblppehkifaaDoor
open Go Go.RowKit Go.MuLone Con

theorem one_any (e0 : Value) (isn : Bool) (h : (e0 = .nilIface ∧ isn = true) ∨ ((∃ t v, e0 = .iface t v) ∧ isn = false)) (w : World) :
    Calls Tryd.prog 19 #[e0] w fun e w' => e = .returned (.int .i64 (if isn then 0 else 1)) ∧ w = w' := by
  rcases h with ⟨rfl, rfl⟩ | ⟨⟨t, v, rfl⟩, rfl⟩
  · go_enter Tryd.func19, Tryd.ntmps19
    go_wp2
    go_ret
    exact ⟨rfl, rfl⟩
  · go_enter Tryd.func19, Tryd.ntmps19
    go_wp2
    go_ret
    exact ⟨rfl, rfl⟩

theorem heap_last (w : World) (o : Obj) : (w.alloc o).heap[w.heap.size]? = some o := (MapKept.heap_alloc w o).1

/-- A new store. -/
theorem new_any (ack : Int) (w : World) : Calls Tryd.prog 18 #[.agg #[.int .i64 ack, .int .i64 0]] w fun e w' =>
    ∃ m, e = .returned (ptr m) ∧ St w' w.heap.size m (stc 0 ack 0 0 0 0 none none) none none 0 [] [] ∧ Below w.heap.size w w' := by
  go_enter Tryd.func18, Tryd.ntmps18
  go_wp2
  go_ret
  refine ⟨w.heap.size + 1, rfl, ⟨?_, ⟨by omega, rfl, rfl, by simp, by simp, by simp, by simp, by simp, by simp, by simp, by simp, by simp, by simp⟩⟩, ?_⟩
  · have := heap_last (w.alloc (Obj.cells #[Value.int IntKind.i64 ack, Value.int IntKind.i64 0] 54)) (Obj.cells
                #[Value.int IntKind.i32 0, Value.int IntKind.u32 0, Value.int IntKind.i64 ack, Value.int IntKind.i64 0,
                  Value.int IntKind.u64 0, Value.int IntKind.u64 0, Value.int IntKind.u64 0, Value.int IntKind.u64 0,
                  Value.map none, Value.map none, Value.bool false] 81)
    simpa using this
  · exact ((Below.refl _ _).alloc (Nat.le_refl _) _).alloc (by simp) _

/-- The state, and what was done to memory since w0. -/
def SE (w0 w : World) (B m : Nat) (cs : Array Value) (mp mr : Option Nat) (n : Nat) (W : List Wt) (R : List (Int × Int)) : Prop := St w B m cs mp mr n W R ∧ Eff B w0 w
section
variable {B m n : Nat} {mp mr : Option Nat} {W : List Wt} {R : List (Int × Int)} {w0 w w' : World} {cs : Array Value}
theorem SE.set (h : SE w0 w B m cs mp mr n W R) (i : Nat) (v : Value) : SE w0 (w.setCell ⟨m, i, none⟩ v) B m (cs.setIfInBounds i v) mp mr n W R := ⟨h.1.set i v, h.2.trans (Eff.set h.1 i v)⟩
theorem SE.of (h : St w B m cs mp mr n W R) (e : Eff B w0 w) : SE w0 w B m cs mp mr n W R := ⟨h, e⟩
theorem St.none_left (h : St w B m cs mp mr n W R) : St w B m cs none none n [] [] :=
  ⟨h.box, ⟨h.rest.hB, rfl, rfl, by simp, by simp, by simp, by simp, by simp, by simp, by simp, by simp, by simp, by simp⟩⟩
theorem St.mono (h : St w B m cs mp mr n W R) {n' : Nat} (hn : n ≤ n') : St w B m cs mp mr n' W R :=
  ⟨h.box, { h.rest with pend := h.rest.pend.mono hn, red := h.rest.red.mono hn }⟩
end

section
variable {B m n : Nat} {lk ack dc ds fc fs : Int} {mp mr mp' mr' : Option Nat} {W : List Wt} {R : List (Int × Int)} {w : World}
theorem lockS (h : St w B m (stc 0 ack dc ds fc fs mp' mr') mp mr n W R) :
    Calls Tryd.prog 45 #[ptr m] w fun e w' => e = .returned (.tuple #[]) ∧ St w' B m (stc 1 ack dc ds fc fs mp' mr') mp mr n W R ∧ Eff B w w' := by
  refine (lock_free Tryd.muLib ⟨m, 0, none⟩ _ h.cells.1 (h.frozen 0)).mono ?_
  rintro e w' ⟨rfl, rfl⟩
  exact ⟨rfl, h.set 0 _, Eff.set h 0 _⟩
theorem unlockS (h : St w B m (stc 1 ack dc ds fc fs mp' mr') mp mr n W R) :
    Calls Tryd.prog 46 #[ptr m] w fun e w' => e = .returned (.tuple #[]) ∧ St w' B m (stc 0 ack dc ds fc fs mp' mr') mp mr n W R ∧ Eff B w w' := by
  refine (unlock_held Tryd.muLib ⟨m, 0, none⟩ _ h.cells.1 (h.frozen 0)).mono ?_
  rintro e w' ⟨rfl, rfl⟩
  exact ⟨rfl, h.set 0 _, Eff.set h 0 _⟩
theorem unlockD (u : FrameMode) (h : St w B m (stc 1 ack dc ds fc fs mp' mr') mp mr n W R) :
    CallsD Tryd.prog 46 #[ptr m] u w fun e u' w' => u' = u ∧ e = .returned (.tuple #[]) ∧ St w' B m (stc 0 ack dc ds fc fs mp' mr') mp mr n W R ∧ Eff B w w' := by
  refine (unlock_deferred Tryd.muLib ⟨m, 0, none⟩ u _ h.cells.1 (h.frozen 0)).mono ?_
  rintro e u' w' ⟨rfl, rfl, rfl⟩
  exact ⟨rfl, rfl, h.set 0 _, Eff.set h 0 _⟩
end

theorem start_st (B m n : Nat) (ack dc ds fc fs x : Int) (mp mr : Option Nat) (W : List Wt) (R : List (Int × Int)) (w : World) (h : St w B m (stc 0 ack dc ds fc fs mp mr) mp mr n W R) :
    Calls Tryd.prog 30 #[ptr m, .int .u64 x] w fun e w' => e = .returned .nilIface ∧ St w' B m (stc 0 ack dc x fc x mp mr) mp mr n W R ∧ Eff B w w' := by
  go_enter Tryd.func30, Tryd.ntmps30
  go_wp2_with fail
  refine (lockS h).mono ?_
  rintro e w1 ⟨rfl, h1, e1⟩
  obtain ⟨c0, c1, c2, c3, c4, c5, c6, c7, c8, c9, c10⟩ := h1.cells
  have f0 := h1.frozen
  go_wp2_with fail
  have h3 := ((SE.of h1 e1).set 5 (.int .u64 x)).set 7 (.int .u64 x)
  refine (unlockS h3.1).mono ?_
  rintro e w2 ⟨rfl, h2, e2⟩
  go_wp2
  go_ret
  exact ⟨rfl, h2, h3.2.trans e2⟩

theorem reset_st (B m n : Nat) (ack dc ds fc fs x : Int) (mp mr : Option Nat) (W : List Wt) (R : List (Int × Int)) (w : World) (h : St w B m (stc 0 ack dc ds fc fs mp mr) mp mr n W R) :
    Calls Tryd.prog 34 #[ptr m, .int .u64 x] w fun e w' => e = .returned .nilIface ∧ St w' B m (stc 0 ack 0 x 0 x none none) none none n [] [] ∧ Eff B w w' := by
  go_enter Tryd.func34, Tryd.ntmps34
  go_wp2_with fail
  refine (lockS h).mono ?_
  rintro e w1 ⟨rfl, h1, e1⟩
  obtain ⟨c0, c1, c2, c3, c4, c5, c6, c7, c8, c9, c10⟩ := h1.cells
  have f0 := h1.frozen
  go_wp2_with fail
  have h3 := (((((SE.of h1 e1).set 4 (.int .u64 0)).set 5 (.int .u64 0)).set 6 (.int .u64 0)).set 7 (.int .u64 0)).set 8 (.map none) |>.set 9 (.map none)
  refine (unlockS h3.1).mono ?_
  rintro e w2 ⟨rfl, h2, e2⟩
  go_wp2_with fail
  refine (start_st B m n ack 0 0 0 0 x none none [] [] _ (St.none_left h2)).mono ?_
  rintro e w4 ⟨rfl, h4, e4⟩
  go_wp2
  go_ret
  exact ⟨rfl, h4, (h3.2.trans e2).trans e4⟩
end Go.Proofs.YtpbhblppehkifaaDoor

namespace Go.Proofs.YtpbhblppehkifaaDoor
open Go Go.RowKit Go.MuLone Con

theorem under29 : Tryd.prog.underlying 29 = some (.int .u64) := Tryd.underlying29

section
variable {β γ : Type}
theorem getL_map (f : β → γ) (k : Int) (G : List (Int × β)) : getL k (G.map fun p => (p.1, f p.2)) = (getL k G).map f := by
  unfold getL
  rw [List.find?_map]
  cases h : G.find? ((fun p => p.1 == k) ∘ fun p => (p.1, f p.2)) with
  | none => rw [show G.find? (fun p => p.1 == k) = none from h]; rfl
  | some p => rw [show G.find? (fun p => p.1 == k) = some p from h]; rfl
theorem delL_map (f : β → γ) (k : Int) (G : List (Int × β)) : delL k (G.map fun p => (p.1, f p.2)) = (delL k G).map fun p => (p.1, f p.2) := by
  unfold delL
  rw [List.filter_map]
  rfl
theorem ins_map (f : β → γ) (k : Int) (v : β) : ∀ G : List (Int × β), ins (k, f v) (G.map fun p => (p.1, f p.2)) = (ins (k, v) G).map fun p => (p.1, f p.2)
  | [] => rfl
  | y :: r => by
    by_cases h : k < y.1
    · simp [ins, h]
    · simp [ins, h, ins_map f k v r]
theorem putL_map (f : β → γ) (k : Int) (v : β) (G : List (Int × β)) : putL k (f v) (G.map fun p => (p.1, f p.2)) = (putL k v G).map fun p => (p.1, f p.2) := by
  unfold putL
  rw [delL_map, ins_map]

def Srt (G : List (Int × β)) : Prop := G.Pairwise (fun a b => a.1 < b.1)
theorem Srt.filter {G : List (Int × β)} (h : Srt G) (p : Int × β → Bool) : Srt (G.filter p) := List.Pairwise.filter p h
theorem mem_delL {k : Int} {G : List (Int × β)} {p : Int × β} : p ∈ delL k G ↔ p ∈ G ∧ p.1 ≠ k := by simp [delL]
theorem mem_ins {x : Int × β} : ∀ {G : List (Int × β)} {p : Int × β}, p ∈ ins x G ↔ p = x ∨ p ∈ G
  | [], p => by simp [ins]
  | y :: r, p => by
    by_cases h : x.1 < y.1
    · simp [ins, h]
    · simp only [ins, h, if_false, List.mem_cons, mem_ins (G := r)]
      constructor
      · rintro (h | h | h)
        · exact Or.inr (Or.inl h)
        · exact Or.inl h
        · exact Or.inr (Or.inr h)
      · rintro (h | h | h)
        · exact Or.inr (Or.inl h)
        · exact Or.inl h
        · exact Or.inr (Or.inr h)
theorem mem_putL {k : Int} {v : β} {G : List (Int × β)} {p : Int × β} : p ∈ putL k v G ↔ p = (k, v) ∨ (p ∈ G ∧ p.1 ≠ k) := by
  unfold putL
  rw [mem_ins, mem_delL]
theorem Srt.ins {x : Int × β} : ∀ {G : List (Int × β)}, Srt G → (∀ p ∈ G, p.1 ≠ x.1) → Srt (ins x G)
  | [], _, _ => by simp [Con.ins, Srt]
  | y :: r, hs, hn => by
    obtain ⟨h1, h2⟩ := List.pairwise_cons.1 hs
    by_cases h : x.1 < y.1
    · simp only [Con.ins, h, if_true]
      refine List.pairwise_cons.2 ⟨fun p hp => ?_, hs⟩
      rcases List.mem_cons.1 hp with rfl | hp
      · exact h
      · have := h1 p hp
        omega
    · simp only [Con.ins, h, if_false]
      refine List.pairwise_cons.2 ⟨fun p hp => ?_, Srt.ins (G := r) h2 (fun p hp => hn p (List.mem_cons_of_mem _ hp))⟩
      rcases mem_ins.1 hp with rfl | hp
      · have := hn y (by simp)
        omega
      · exact h1 p hp
theorem Srt.put {k : Int} {v : β} {G : List (Int × β)} (h : Srt G) : Srt (putL k v G) := Srt.ins (h.filter _) (fun _ hp => (mem_delL.1 hp).2)
theorem Srt.del {k : Int} {G : List (Int × β)} (h : Srt G) : Srt (delL k G) := h.filter _
theorem getL_mem {k : Int} {v : β} {G : List (Int × β)} (h : getL k G = some v) : (k, v) ∈ G := by
  unfold getL at h
  cases hf : G.find? (fun p => p.1 == k) with
  | none => rw [hf] at h; cases h
  | some p =>
    rw [hf] at h
    have h1 := List.mem_of_find?_eq_some hf
    have h2 := List.find?_some hf
    simp at h h2
    rw [← h, ← h2]
    exact h1
theorem getL_none {k : Int} {G : List (Int × β)} (h : getL k G = none) : ∀ p ∈ G, p.1 ≠ k := by
  unfold getL at h
  simp at h
  intro p hp e
  exact h p.1 p.2 hp e
theorem Srt.get {k : Int} {v : β} {G : List (Int × β)} (h : Srt G) (hm : (k, v) ∈ G) : getL k G = some v := by
  cases hg : getL k G with
  | none => exact absurd rfl (getL_none hg _ hm)
  | some u =>
    have hu := getL_mem hg
    have : ∀ (l : List (Int × β)), Srt l → (k, v) ∈ l → (k, u) ∈ l → u = v := by
      intro l
      induction l with
      | nil => intro _ h1; cases h1
      | cons y r ih =>
        intro hs h1 h2
        obtain ⟨g1, g2⟩ := List.pairwise_cons.1 hs
        rcases List.mem_cons.1 h1 with e1 | e1
        · rcases List.mem_cons.1 h2 with e2 | e2
          · rw [← e1] at e2; exact (congrArg Prod.snd e2)
          · have := g1 _ e2; rw [← e1] at this; simp at this
        · rcases List.mem_cons.1 h2 with e2 | e2
          · have := g1 _ e1; rw [← e2] at this; simp at this
          · exact ih g2 e1 e2
    rw [this G h hm hu]
/-- Two lists in order with the same members are one. -/
theorem Srt.ext : ∀ {G H : List (Int × β)}, Srt G → Srt H → (∀ p, p ∈ G ↔ p ∈ H) → G = H
  | [], [], _, _, _ => rfl
  | [], y :: r, _, _, h => absurd ((h y).2 (by simp)) (by simp)
  | x :: l, [], _, _, h => absurd ((h x).1 (by simp)) (by simp)
  | x :: l, y :: r, hs, ht, h => by
    obtain ⟨h1, h2⟩ := List.pairwise_cons.1 hs
    obtain ⟨g1, g2⟩ := List.pairwise_cons.1 ht
    have e : x = y := by
      rcases List.mem_cons.1 ((h x).1 (by simp)) with e | e
      · exact e
      · rcases List.mem_cons.1 ((h y).2 (by simp)) with e' | e'
        · exact e'.symm
        · have := h1 _ e'
          have := g1 _ e
          omega
    subst e
    rw [Srt.ext h2 g2 (fun p => ?_)]
    constructor
    · intro hp
      rcases List.mem_cons.1 ((h p).1 (List.mem_cons_of_mem _ hp)) with rfl | hq
      · have := h1 _ hp; omega
      · exact hq
    · intro hp
      rcases List.mem_cons.1 ((h p).2 (List.mem_cons_of_mem _ hp)) with rfl | hq
      · have := g1 _ hp; omega
      · exact hq
theorem len_ins (x : Int × β) : ∀ G : List (Int × β), (ins x G).length = G.length + 1
  | [] => rfl
  | y :: r => by
    by_cases h : x.1 < y.1
    · simp [ins, h]
    · simp [ins, h, len_ins x r]
theorem len_putL (k : Int) (v : β) (G : List (Int × β)) : (putL k v G).length ≤ G.length + 1 := by
  unfold putL
  rw [len_ins]
  have := List.length_filter_le (fun p : Int × β => !(p.1 == k)) G
  unfold delL
  omega
end

theorem redG_del (k : Int) (R : List (Int × Int)) : delL k (redG R) = redG (delL k R) := delL_map (Value.int .u64) k R
theorem redG_put (k v : Int) (R : List (Int × Int)) : putL k (.int .u64 v) (redG R) = redG (putL k v R) := putL_map (Value.int .u64) k v R
theorem redG_get (k : Int) (R : List (Int × Int)) : getL k (redG R) = (getL k R).map (Value.int .u64) := getL_map (Value.int .u64) k R
theorem redG_len (R : List (Int × Int)) : (redG R).length = R.length := by simp [redG]
theorem pendG_len (W : List Wt) : (pendG W).length = W.length := by simp [pendG]
def keyed (W : List Wt) : List (Int × Wt) := W.map fun e => (e.s, e)
theorem pendG_keyed (W : List Wt) : pendG W = (keyed W).map fun p => (p.1, ptr p.2.b) := by simp [pendG, keyed]
def delW (k : Int) (W : List Wt) : List Wt := W.filter fun e => !(e.s == k)
theorem pendG_del (k : Int) (W : List Wt) : delL k (pendG W) = pendG (delW k W) := by
  unfold pendG delL delW
  rw [List.filter_map]
  rfl
def getW (k : Int) (W : List Wt) : Option Wt := W.find? fun e => e.s == k
theorem pendG_get (k : Int) (W : List Wt) : getL k (pendG W) = (getW k W).map fun e => ptr e.b := by
  unfold getL getW pendG
  rw [List.find?_map]
  cases h : W.find? ((fun p : Int × Value => p.1 == k) ∘ fun e => (e.s, ptr e.b)) with
  | none => rw [show W.find? (fun e => e.s == k) = none from h]; rfl
  | some p => rw [show W.find? (fun e => e.s == k) = some p from h]; rfl

section
variable {B m n : Nat} {mp mr : Option Nat} {W : List Wt} {R : List (Int × Int)} {w0 w w' : World} {cs : Array Value}
/-- What was delivered again has turned. -/
theorem SE.turnR (h : SE w0 w B m cs mp mr n W R) (ht : Turn w w' mr) {R' : List (Int × Int)} {n' : Nat} (hn : n ≤ n') (hm : MapAt w' Tryd.prog 29 mr n' (redG R')) (hs : Srt R') (hk : ∀ p ∈ R', 0 ≤ p.1 ∧ p.1 ≤ 65536) : SE w0 w' B m cs mp mr n' W R' := by
  refine ⟨⟨ht.cells h.1.box, { h.1.rest with pend := (h.1.rest.pend.same (fun b hb => ht.other (h.1.rest.ne b hb))).mono hn, red := hm, els := fun e he => ht.cells (h.1.rest.els e he), sR := hs, kR := hk }⟩, h.2.trans (Eff.turn ht (Nat.le_trans h.1.rest.hB (Nat.le_of_lt h.1.lt)) h.1.rest.mrB)⟩
/-- What waits has turned. -/
theorem SE.turnP (h : SE w0 w B m cs mp mr n W R) (ht : Turn w w' mp) {W' : List Wt} {n' : Nat} (hn : n ≤ n') (hm : MapAt w' Tryd.prog 29 mp n' (pendG W')) (he : ∀ e ∈ W', El w e ∧ B ≤ e.b ∧ e.b ≠ m) (hnd : (W'.map (·.b)).Nodup) (hs : W'.Pairwise (fun a b => a.s < b.s))
    (hk : ∀ e ∈ W', 0 ≤ e.s ∧ e.s ≤ 65536 ∧ 0 ≤ e.c ∧ e.c ≤ 65536) : SE w0 w' B m cs mp mr n' W' R := by
  refine ⟨⟨ht.cells h.1.box, { h.1.rest with pend := hm, red := (h.1.rest.red.same (fun b hb => ht.other (fun e => h.1.rest.ne b e hb))).mono hn, els := fun e q => ht.cells (he e q).1, elB := fun e q => (he e q).2, nd := hnd, sW := hs, kW := hk }⟩, h.2.trans (Eff.turn ht (Nat.le_trans h.1.rest.hB (Nat.le_of_lt h.1.lt)) h.1.rest.mpB)⟩
theorem SE.turnP_sub (h : SE w0 w B m cs mp mr n W R) (ht : Turn w w' mp) {W' : List Wt} (hm : MapAt w' Tryd.prog 29 mp n (pendG W')) (hsub : W'.Sublist W) : SE w0 w' B m cs mp mr n W' R :=
  h.turnP ht (Nat.le_refl _) hm (fun e he => ⟨h.1.rest.els e (hsub.subset he), h.1.rest.elB e (hsub.subset he)⟩) (h.1.rest.nd.sublist (hsub.map _)) (h.1.rest.sW.sublist hsub) (fun e he => h.1.rest.kW e (hsub.subset he))
theorem SE.turnR_sub (h : SE w0 w B m cs mp mr n W R) (ht : Turn w w' mr) {R' : List (Int × Int)} (hm : MapAt w' Tryd.prog 29 mr n (redG R')) (hsub : R'.Sublist R) : SE w0 w' B m cs mp mr n W R' :=
  h.turnR ht (Nat.le_refl _) hm (h.1.rest.sR.sublist hsub) (fun e he => h.1.rest.kR e (hsub.subset he))
/-- New blocks, and an iterator's turning. -/
theorem SE.grown (h : SE w0 w B m cs mp mr n W R) {r : Option Nat} (hg : w.grownBy w' r) (hr : ∀ x, r = some x → B ≤ x ∧ ∃ a b c d, w.heap[x]? = some (.mapIter a b c d)) : SE w0 w' B m cs mp mr n W R := by
  have hc : ∀ (i : Nat) (cs : Array Value) (t : TypeId) (f : Nat × Nat), w.heap[i]? = some (Obj.cells cs t f) → w'.heap[i]? = some (Obj.cells cs t f) := fun i _ _ _ hi => (hg.block i (Array.getElem?_eq_some_iff.1 hi).1 (fun e => by
    obtain ⟨_, a, b, c, d, hx⟩ := hr i e.symm
    rw [hx] at hi
    cases hi)).trans hi
  have hm : ∀ (b : Nat) (es : Array MapEntry) (clock : Nat), w.heap[b]? = some (Obj.map es clock) → some b ≠ r := fun b _ _ hi e => by
    obtain ⟨_, a, b, c, d, hx⟩ := hr b e.symm
    rw [hx] at hi
    cases hi
  refine ⟨⟨hc _ _ _ _ h.1.box, h.1.rest.same ?_ ?_ (fun e he => ?_)⟩, h.2.trans (Eff.grown hg (Nat.le_trans h.1.rest.hB (Nat.le_of_lt h.1.lt)) (fun x hx => ⟨(hr x hx).1, fun _ _ _ hk => ?_⟩))⟩
  · intro b hb
    have h1 := h.1.rest.pend
    subst hb
    obtain ⟨es, clock, hk, _⟩ := h1
    exact hg.block b (Array.getElem?_eq_some_iff.1 hk).1 (hm b es clock hk)
  · intro b hb
    have h1 := h.1.rest.red
    subst hb
    obtain ⟨es, clock, hk, _⟩ := h1
    exact hg.block b (Array.getElem?_eq_some_iff.1 hk).1 (hm b es clock hk)
  · exact (hc _ _ _ _ (h.1.rest.els e he)).trans (h.1.rest.els e he).symm
  · obtain ⟨_, a, b, c, d, hy⟩ := hr x hx
    rw [hy] at hk
    cases hk
end

end Go.Proofs.YtpbhblppehkifaaDoor

namespace Go.Proofs.YtpbhblppehkifaaDoor
open Go Go.RowKit Go.MuLone Con

theorem hid {p : Prop} (h : p) : Hid p := h
def goneR (x : Int) (R : List (Int × Int)) (left : Lit → Bool) : List (Int × Int) := R.filter fun p => left (.int .u64 p.1) || decide (x ≤ p.1)
theorem gone_start {x : Int} {R : List (Int × Int)} {left : Lit → Bool} (hs : Srt R) (hl : ∀ x, left (.int .u64 x) = (getL x (redG R)).isSome) : goneR x R left = R := by
  refine List.filter_eq_self.2 (fun p hp => ?_)
  rw [hl, redG_get, hs.get (show (p.1, p.2) ∈ R from hp)]
  rfl
theorem gone_del {x y : Int} {R : List (Int × Int)} {left left' : Lit → Bool} (hl : ∀ z, left' (.int .u64 z) = (left (.int .u64 z) && !(z == y))) (hy : y < x) : delL y (goneR x R left) = goneR x R left' := by
  unfold delL goneR
  rw [List.filter_filter]
  refine List.filter_congr (fun p _ => ?_)
  rw [hl]
  by_cases h : p.1 = y
  · have h1 : ¬ x ≤ y := by omega
    simp [h, h1]
  · have h2 : (p.1 == y) = false := by simpa using h
    rw [h2]
    simp
theorem gone_stay {x y : Int} {R : List (Int × Int)} {left left' : Lit → Bool} (hl : ∀ z, left' (.int .u64 z) = (left (.int .u64 z) && !(z == y))) (hy : x ≤ y) : goneR x R left = goneR x R left' := by
  unfold goneR
  refine List.filter_congr (fun p _ => ?_)
  rw [hl]
  by_cases h : p.1 = y
  · simp [h, hy]
  · have h2 : (p.1 == y) = false := by simpa using h
    rw [h2]
    simp
theorem gone_end {x : Int} {R : List (Int × Int)} {left : Lit → Bool} (hl : ∀ x, left (.int .u64 x) = false) : goneR x R left = R.filter fun p => decide (x ≤ p.1) := by
  unfold goneR
  refine List.filter_congr (fun p _ => ?_)
  rw [hl]
  simp

set_option maxRecDepth 100000 in
theorem below_st (B m n : Nat) (ack dc ds fc fs x : Int) (mp mr : Option Nat) (W : List Wt) (R : List (Int × Int)) (w : World) (hx : x ≠ 0) (h : St w B m (stc 0 ack dc ds fc fs mp mr) mp mr n W R) :
    Calls Tryd.prog 33 #[ptr m, .int .u64 x] w fun e w' => e = .returned (.tuple #[]) ∧ St w' B m (stc 0 ack dc ds fc fs mp mr) mp mr n W (R.filter fun p => decide (x ≤ p.1)) ∧ Eff B w w' := by
  have hx' : (x == 0) = false := by simpa using hx
  go_enter_defers Tryd.func33, Tryd.ntmps33
  go_wp2_with fail
  refine (lockS h).mono ?_
  rintro e w1 ⟨rfl, h1, e1⟩
  have H1 := SE.of h1 e1
  obtain ⟨c0, c1, c2, c3, c4, c5, c6, c7, c8, c9, c10⟩ := h1.cells
  have f0 := h1.frozen
  go_wp2_with (first
    | (at_range; refine wpList_range_at _ rfl _ 77 rfl 29 29 under29 Tryd.underlying77 mr n _ rfl h1.rest.red ?_; intro w2 left cnt hrg hl hg hsz; go_frame))
  have H2 : Hid (SE w w2 B m (stc 1 ack dc ds fc fs mp mr) mp mr n W R) := hid (H1.grown hg (by simp))
  have hB : B ≤ w1.heap.size := Nat.le_trans h1.rest.hB (Nat.le_of_lt h1.lt)
  clear c0 c1 c2 c3 c4 c5 c6 c7 c8 c9 c10 f0 hsz hg H1 e1 h1
  generalize w1.heap.size = r at *
  have hS := H2.out.1.rest.sR
  go_loopg [4] cnt (fun gk _ wr => ∃ left, Hid (RangesAt wr Tryd.prog 29 mr r n (redG (goneR x R left)) left gk) ∧ Hid (SE w wr B m (stc 1 ack dc ds fc fs mp mr) mp mr n W (goneR x R left)))
  case atStart => exact ⟨left, by rw [gone_start hS hl]; exact hid hrg, by rw [gone_start hS hl]; exact H2⟩
  case round =>
    clear hrg hl H2
    obtain ⟨left, hr, hs⟩ := hrel
    go_wp2_with (first
      | (at_next; refine wpList_next_at _ rfl _ rfl 29 under29 mr r n _ _ _ rfl hr.out ?_ ?_))
    · intro hl0
      go_wp2
      refine leaves_cons (f := 46) (args := #[ptr m]) (by simp) (by simp [go_sem]) ?_
      refine (unlockD .returning hs.out.1).mono ?_
      rintro e u' w'' ⟨rfl, rfl, h3, e3⟩
      rw [gone_end hl0] at h3
      exact ⟨_, results_none rfl _ _ _, rfl, h3, hs.out.2.trans e3⟩
    · intro y v w3 left' cnt' hy0 hy1 hly hgy hrg3 hl3 hlt hg3 hs3 hen
      have S3 := hid (hs.out.grown hg3 (by rintro z hz; cases hz; exact ⟨hB, hr.out.iter⟩))
      obtain ⟨c0, c1, c2, c3, c4, c5, c6, c7, c8, c9, c10⟩ := S3.out.1.cells
      clear hs3
      obtain ⟨u, hu⟩ : ∃ u, getL y (goneR x R left) = some u := by
        rw [redG_get] at hgy
        cases hq : getL y (goneR x R left) with
        | none => rw [hq] at hgy; cases hgy
        | some u => exact ⟨u, rfl⟩
      obtain rfl : v = .int .u64 u := by
        rw [redG_get, hu] at hgy
        exact (Option.some.inj hgy).symm
      clear hgy
      by_cases hyx : y < x
      · go_wp2_with (first
          | (at_delete; refine wpList_del_ranges _ rfl _ _ 77 29 rfl 29 under29 Tryd.underlying77 mr r n _ _ _ rfl hrg3 y rfl hy0 hy1 ?_; intro w4 left4 cnt4 hrg4 hl4 hle hturn; go_frame))
        have hl5 : ∀ z, left4 (.int .u64 z) = (left (.int .u64 z) && !(z == y)) := fun z => by rw [hl4, hl3]; cases left (.int .u64 z) <;> cases (z == y) <;> rfl
        rw [redG_del, gone_del hl5 hyx] at hrg4
        go_roundg cnt4
        case measure => omega
        case rel =>
          refine ⟨left4, hid hrg4, ?_⟩
          have := hrg4.owns
          rw [← gone_del hl5 hyx] at this ⊢
          exact hid (S3.out.turnR_sub hturn this List.filter_sublist)
      · go_wp2_with fail
        have hyx' : x ≤ y := by omega
        rw [gone_stay hl3 hyx'] at hrg3 S3
        go_roundg cnt'
        case measure => omega
        case rel => exact ⟨left', hid hrg3, S3⟩
end Go.Proofs.YtpbhblppehkifaaDoor

namespace Go.Proofs.YtpbhblppehkifaaDoor
open Go Go.RowKit Go.MuLone Con

theorem MapAt.tight {w : World} {P : Program} {k : TypeId} {mp : Option Nat} {n : Nat} {G : List (Int × Value)} (h : MapAt w P k mp n G) : MapAt w P k mp G.length G := by
  cases mp with
  | none => exact h
  | some b =>
    obtain ⟨es, clock, hk, F, hs, hD⟩ := h
    refine ⟨es, clock, hk, F, ?_, hD⟩
    have := congrArg Maps.size hD
    rw [dat_size] at this
    simp [Maps.size, length_sorted] at this
    omega

def doneR {β : Type} (R : List (Int × β)) (left : Lit → Bool) : List (Int × β) := R.filter fun p => !left (.int .u64 p.1)
section
variable {β : Type}
theorem done_start {R : List (Int × β)} {left : Lit → Bool} (hs : Srt R) (hl : ∀ x, left (.int .u64 x) = (getL x R).isSome) : doneR R left = [] := by
  refine List.filter_eq_nil_iff.2 (fun p hp => ?_)
  rw [hl, hs.get (show (p.1, p.2) ∈ R from hp)]
  simp
theorem done_end {R : List (Int × β)} {left : Lit → Bool} (hl : ∀ x, left (.int .u64 x) = false) : doneR R left = R := by
  refine List.filter_eq_self.2 (fun p _ => ?_)
  rw [hl]
  rfl
theorem mem_done {R : List (Int × β)} {left left' : Lit → Bool} {y : Int} {u : β} (hs : Srt R) (hl : ∀ z, left' (.int .u64 z) = (left (.int .u64 z) && !(z == y))) (hy : getL y R = some u) (p : Int × β) :
    p ∈ doneR R left' ↔ p = (y, u) ∨ (p ∈ doneR R left ∧ p.1 ≠ y) := by
  unfold doneR
  rw [List.mem_filter, List.mem_filter, hl]
  have hm := getL_mem hy
  by_cases h : p.1 = y
  · have h2 : (p.1 == y) = true := by simpa using h
    rw [h2]
    constructor
    · rintro ⟨h3, _⟩
      left
      have : getL y R = some p.2 := hs.get (by rw [← h]; exact h3)
      rw [hy] at this
      obtain ⟨a, b⟩ := p
      simp at this h
      rw [h, this]
    · rintro (rfl | ⟨_, h3⟩)
      · exact ⟨hm, by simp⟩
      · exact absurd h h3
  · have h2 : (p.1 == y) = false := by simpa using h
    rw [h2]
    constructor
    · rintro ⟨h3, h4⟩
      exact Or.inr ⟨⟨h3, by simpa using h4⟩, h⟩
    · rintro (rfl | ⟨h3, _⟩)
      · exact absurd rfl h
      · exact ⟨h3.1, by simpa using h3.2⟩
theorem done_put {R : List (Int × β)} {left left' : Lit → Bool} {y : Int} {u : β} (hs : Srt R) (hl : ∀ z, left' (.int .u64 z) = (left (.int .u64 z) && !(z == y))) (hy : getL y R = some u) :
    putL y u (doneR R left) = doneR R left' := by
  refine Srt.ext (Srt.put (hs.filter _)) (hs.filter _) (fun p => ?_)
  rw [mem_putL, mem_done hs hl hy]
/-- The one that is still to come has not been done. -/
theorem not_done {R : List (Int × β)} {left : Lit → Bool} {y : Int} (hly : left (.int .u64 y) = true) : ∀ p ∈ doneR R left, p.1 ≠ y := by
  rintro p hp rfl
  have := (List.mem_filter.1 hp).2
  rw [hly] at this
  cases this
end
theorem isSome_map {α γ : Type} (f : α → γ) (o : Option α) : (o.map f).isSome = o.isSome := by cases o <;> rfl

theorem makeMap_hint {T k e : TypeId} (ht : Tryd.prog.underlying T = some (.map k e)) (x : Int) (w : World) : (Instr.makeMap T (some (.int .i64 x))).run Tryd.prog w = .ok (.map (some w.heap.size)) (w.alloc (.map #[] 0)) := by
  simp [Instr.makeMap, run_underlying ht, asInt, asIntOf, Result.andThen]

theorem made_at (w : World) (P : Program) (k : TypeId) : MapAt (w.alloc (.map #[] 0)) P k (some w.heap.size) 0 [] := World.ownsMap_made w P k rv

set_option maxRecDepth 100000 in
theorem copyR_st (B m n : Nat) (lk ack dc ds fc fs : Int) (mp mr : Option Nat) (W : List Wt) (R : List (Int × Int)) (w : World) (hn : n < 1000000) (h : St w B m (stc lk ack dc ds fc fs mp mr) mp mr n W R) :
    Calls Tryd.prog 49 #[ptr m] w fun e w' => ∃ b, e = .returned (.map (some b)) ∧ w.heap.size ≤ b ∧ MapAt w' Tryd.prog 29 (some b) n (redG R) ∧ Below w.heap.size w w' := by
  obtain ⟨c0, c1, c2, c3, c4, c5, c6, c7, c8, c9, c10⟩ := h.cells
  have lm := h.lt
  have hmm := fun x w => makeMap_hint (T := 77) Tryd.underlying77 x w
  go_enter Tryd.func49, Tryd.ntmps49
  have h' : St (w.alloc (.map #[] 0)) B m (stc lk ack dc ds fc fs mp mr) mp mr n W R := h.later ((Below.refl _ _).alloc (Nat.le_refl _) _)
  go_wp2_with (first
    | (at_len; refine wpList_len_at _ rfl _ 77 rfl 29 29 Tryd.underlying77 mr n _ rfl h.rest.red ?_)
    | (at_range; refine wpList_range_at _ rfl _ 77 rfl 29 29 under29 Tryd.underlying77 mr n _ rfl h'.rest.red ?_; intro w2 left cnt hrg hl hg hsz; go_frame))
  have M2 : Hid (MapAt w2 Tryd.prog 29 (some w.heap.size) 0 (redG (doneR R left))) := hid (by rw [done_start h.rest.sR (fun x => (hl x).trans (by rw [redG_get, isSome_map]))]; exact (made_at w _ _).kept hg (by simp))
  have B2 : Hid (Below w.heap.size w w2) := hid (((Below.refl _ _).alloc (Nat.le_refl _) _).grown hg (by simp) (by simp))
  have hlen := h.rest.red.len_le
  rw [redG_len] at hlen
  have hS := h.rest.sR
  have hne : ∀ b, mr = some b → b ≠ w.heap.size := fun b hb => Nat.ne_of_lt (h.rest.red.lt hb)
  have er : (w.alloc (.map #[] 0)).heap.size = w.heap.size + 1 := by simp
  clear c0 c1 c2 c3 c4 c5 c6 c7 c8 c9 c10 hsz hg h'
  generalize (w.alloc (.map #[] 0)).heap.size = r at *
  generalize hq : w.heap.size = q at *
  have lqr : Hid (q < r ∧ q ≠ r) := hid (by omega)
  clear er
  go_loopg [4, 5] cnt (fun gk _ _ wr => ∃ left, Hid (RangesAt wr Tryd.prog 29 mr r n (redG R) left gk) ∧ Hid (MapAt wr Tryd.prog 29 (some q) n (redG (doneR R left))) ∧ Hid (Below q w wr))
  case atStart => exact ⟨left, hid hrg, hid (M2.out.mono (Nat.zero_le _)), B2⟩
  case round =>
    clear hrg hl M2 B2
    obtain ⟨left, hr, hm, hb⟩ := hrel
    go_wp2_with (first
      | (at_next; refine wpList_next_at _ rfl _ rfl 29 under29 mr r n _ _ _ rfl hr.out ?_ ?_))
    · intro hl0
      go_wp2
      go_ret
      rw [done_end hl0] at hm
      exact ⟨q, rfl, Nat.le_of_eq hq, hm.out, by rw [hq]; exact hb.out⟩
    · intro y v w3 left' cnt' hy0 hy1 hly hgy hrg3 hl3 hlt hg3 hs3 hen
      have M3 := MapAt.tight (MapAt.kept hm.out hg3 (by intro b hb; cases hb; intro e; cases e; exact lqr.out.2 rfl))
      have B3 := hb.out.grown hg3 (by have := hr.out.lt; have := lqr.out; omega) (by intro k hk; cases hk; have := lqr.out; omega)
      obtain ⟨u, hu⟩ : ∃ u, getL y R = some u := by
        rw [redG_get] at hgy
        cases hq : getL y R with
        | none => rw [hq] at hgy; cases hgy
        | some u => exact ⟨u, rfl⟩
      obtain rfl : v = .int .u64 u := by
        rw [redG_get, hu] at hgy
        exact (Option.some.inj hgy).symm
      clear hgy hs3
      have hd := done_put hS hl3 hu
      have hlen2 : (redG (doneR R left)).length ≤ n := by
        rw [redG_len]
        exact Nat.le_trans (List.length_filter_le _ _) hlen
      go_wp2_with (first
        | (at_mapUpdate; refine wpList_put_at _ rfl _ _ _ 77 rfl 29 29 under29 Tryd.underlying77 q _ _ rfl M3 (by unfold maxLen; omega) y rfl hy0 hy1 (.int .u64 u) rfl ?_; intro w4 hm4 hturn; go_frame))
      rw [redG_put, hd] at hm4
      have hm5 := MapAt.tight hm4
      rw [redG_len] at hm5
      go_roundg cnt'
      case measure => omega
      case rel => exact ⟨left', hid (hrg3.kept hturn.grown (fun b hb e => by cases e; exact hne _ hb rfl) (fun e => by cases e; exact lqr.out.2 rfl)), hid (hm5.mono (Nat.le_trans (List.length_filter_le _ _) hlen)), hid (B3.grown hturn.grown (by have := hrg3.lt; have := lqr.out; omega) (by intro k hk; cases hk; exact Nat.le_refl _))⟩
end Go.Proofs.YtpbhblppehkifaaDoor

namespace Go.Proofs.YtpbhblppehkifaaDoor
open Go Go.RowKit Go.MuLone Con

theorem put_run {P : Program} {w : World} (t : TypeId) {k e : TypeId} (hk : P.underlying k = some (.int .u64)) (ht : P.underlying t = some (.map k e)) {b n : Nat} {G : List (Int × Value)} (h : MapAt w P k (some b) n G) (hn : n < maxLen)
    (key : Int) (h0 : 0 ≤ key) (h1 : key < 18446744073709551616) (v : Value) :
    ∃ w', (Instr.mapUpdate t (.map (some b)) (.int .u64 key) v).run P w = .ok () w' ∧ MapAt w' P k (some b) (n + 1) (putL key v G) ∧ Turn w w' (some b) := by
  obtain ⟨w', hrun, r1, r2⟩ := World.ownsMap.store h (Maps.int_keyed hk) ht hn (Maps.keyOf_int_mk hk (wf_key h0 h1)) (show rv v = some (.held v, []) from rfl)
  rw [dat_put] at r1
  exact ⟨w', hrun, r1, r2⟩

def insW (x : Wt) : List Wt → List Wt
  | [] => [x]
  | y :: r => if x.s < y.s then x :: y :: r else y :: insW x r
theorem pendG_ins (x : Wt) : ∀ W : List Wt, pendG (insW x W) = ins (x.s, ptr x.b) (pendG W)
  | [] => rfl
  | y :: r => by
    by_cases h : x.s < y.s
    · simp [insW, pendG, ins, h]
    · have := pendG_ins x r
      simp only [pendG] at this
      simp [insW, pendG, ins, h, this]
theorem val_ins (x : Wt) : ∀ W : List Wt, (insW x W).map val = ins (val x) (W.map val)
  | [] => rfl
  | y :: r => by
    by_cases h : x.s < y.s
    · simp [insW, ins, val, h]
    · have := val_ins x r
      simp only [val] at this
      simp [insW, ins, val, h, this]
theorem val_del (k : Int) (W : List Wt) : (delW k W).map val = delL k (W.map val) := by
  unfold delL delW
  rw [List.filter_map]
  rfl
def putW (x : Wt) (W : List Wt) : List Wt := insW x (delW x.s W)
theorem pendG_put (x : Wt) (W : List Wt) : putL x.s (ptr x.b) (pendG W) = pendG (putW x W) := by
  unfold putL putW
  rw [pendG_ins, pendG_del]
theorem val_put (x : Wt) (W : List Wt) : (putW x W).map val = putL x.s (x.c, x.t) (W.map val) := by
  unfold putL putW
  rw [val_ins, val_del]
  rfl
theorem mem_insW {x e : Wt} : ∀ {W : List Wt}, e ∈ insW x W ↔ e = x ∨ e ∈ W
  | [] => by simp [insW]
  | y :: r => by
    by_cases h : x.s < y.s
    · simp [insW, h]
    · simp only [insW, h, if_false, List.mem_cons, mem_insW (W := r)]
      constructor
      · rintro (h | h | h)
        · exact Or.inr (Or.inl h)
        · exact Or.inl h
        · exact Or.inr (Or.inr h)
      · rintro (h | h | h)
        · exact Or.inr (Or.inl h)
        · exact Or.inl h
        · exact Or.inr (Or.inr h)
theorem mem_putW {x e : Wt} {W : List Wt} (h : e ∈ putW x W) : e = x ∨ e ∈ W := by
  rcases mem_insW.1 h with h | h
  · exact Or.inl h
  · exact Or.inr (List.mem_filter.1 h).1
theorem perm_insW (x : Wt) : ∀ W : List Wt, (insW x W).Perm (x :: W)
  | [] => List.Perm.refl _
  | y :: r => by
    by_cases h : x.s < y.s
    · simp [insW, h]
    · simp only [insW, h, if_false]
      exact ((perm_insW x r).cons y).trans (List.Perm.swap x y r)
theorem nd_putW {x : Wt} {W : List Wt} (h : (W.map (·.b)).Nodup) (hx : ∀ e ∈ W, e.b ≠ x.b) : ((putW x W).map (·.b)).Nodup := by
  have h1 := ((perm_insW x (delW x.s W)).map (·.b)).nodup_iff.2
  refine h1 ?_
  rw [List.map_cons, List.nodup_cons]
  refine ⟨fun hm => ?_, h.sublist (List.filter_sublist.map _)⟩
  obtain ⟨e, he, hb⟩ := List.mem_map.1 hm
  exact hx e (List.mem_filter.1 he).1 hb
theorem srt_val {W : List Wt} : Srt (W.map val) ↔ W.Pairwise (fun a b => a.s < b.s) := by
  unfold Srt
  rw [List.pairwise_map]
  rfl
theorem getW_val (k : Int) (W : List Wt) : getL k (W.map val) = (getW k W).map fun e => (e.c, e.t) := by
  unfold getL getW
  rw [List.find?_map]
  cases h : W.find? ((fun p : Int × Int × Int => p.1 == k) ∘ val) with
  | none => rw [show W.find? (fun e => e.s == k) = none from h]; rfl
  | some p => rw [show W.find? (fun e => e.s == k) = some p from h]; rfl
theorem getW_mem {k : Int} {W : List Wt} {e : Wt} (h : getW k W = some e) : e ∈ W ∧ e.s = k := by
  unfold getW at h
  exact ⟨List.mem_of_find?_eq_some h, by simpa using List.find?_some h⟩

/-- What waits, in a map of its own. -/
structure Pd (w : World) (B : Nat) (mp : Option Nat) (n : Nat) (W : List Wt) : Prop where
  pend : MapAt w Tryd.prog 29 mp n (pendG W)
  els : ∀ e ∈ W, El w e
  elB : ∀ e ∈ W, B ≤ e.b
  mpB : ∀ b, mp = some b → B ≤ b
  nd : (W.map (·.b)).Nodup

set_option maxRecDepth 100000 in
theorem copyP_st (B m n : Nat) (lk ack dc ds fc fs : Int) (mp mr : Option Nat) (W : List Wt) (R : List (Int × Int)) (w : World) (hn : n < 1000000) (h : St w B m (stc lk ack dc ds fc fs mp mr) mp mr n W R) :
    Calls Tryd.prog 48 #[ptr m] w fun e w' => ∃ b W', e = .returned (.map (some b)) ∧ Pd w' w.heap.size (some b) n W' ∧ W'.map val = W.map val ∧ Below w.heap.size w w' := by
  obtain ⟨c0, c1, c2, c3, c4, c5, c6, c7, c8, c9, c10⟩ := h.cells
  have lm := h.lt
  have hmm := fun x w => makeMap_hint (T := 76) Tryd.underlying76 x w
  go_enter Tryd.func48, Tryd.ntmps48
  have h' : St (w.alloc (.map #[] 0)) B m (stc lk ack dc ds fc fs mp mr) mp mr n W R := h.later ((Below.refl _ _).alloc (Nat.le_refl _) _)
  go_wp2_with (first
    | (at_len; refine wpList_len_at _ rfl _ 76 rfl 29 89 Tryd.underlying76 mp n _ rfl h.rest.pend ?_)
    | (at_range; refine wpList_range_at _ rfl _ 76 rfl 29 89 under29 Tryd.underlying76 mp n _ rfl h'.rest.pend ?_; intro w2 left cnt hrg hl hg hsz; go_frame))
  have hS : Srt (W.map val) := srt_val.2 h.rest.sW
  have hl' : ∀ x, left (.int .u64 x) = (getL x (W.map val)).isSome := fun x => (hl x).trans (by rw [pendG_get, getW_val, isSome_map, isSome_map])
  have P2 : Hid (Pd w2 w.heap.size (some w.heap.size) 0 []) := hid ⟨(made_at w _ _).kept hg (by simp), by simp, by simp, by simp, by simp⟩
  have B2 : Hid (Below w.heap.size w w2) := hid (((Below.refl _ _).alloc (Nat.le_refl _) _).grown hg (by simp) (by simp))
  have hlen := h.rest.pend.len_le
  rw [pendG_len] at hlen
  have hne : ∀ b, mp = some b → b ≠ w.heap.size := fun b hb => Nat.ne_of_lt (h.rest.pend.lt hb)
  have er : (w.alloc (.map #[] 0)).heap.size = w.heap.size + 1 := by simp
  have hel := h.rest.els
  clear c0 c1 c2 c3 c4 c5 c6 c7 c8 c9 c10 hsz hg h' hl
  generalize (w.alloc (.map #[] 0)).heap.size = r at *
  generalize hq : w.heap.size = q at *
  have lqr : Hid (q < r ∧ q ≠ r) := hid (by omega)
  clear er
  go_loopg [4, 5] cnt (fun gk _ _ wr => ∃ left WO, Hid (RangesAt wr Tryd.prog 29 mp r n (pendG W) left gk) ∧ Hid (Pd wr q (some q) n WO ∧ ∀ e ∈ WO, r < e.b) ∧ Hid (WO.map val = doneR (W.map val) left) ∧ Hid (Below q w wr))
  case atStart => exact ⟨left, [], hid hrg, hid ⟨{ P2.out with pend := P2.out.pend.mono (Nat.zero_le _) }, by simp⟩, hid (done_start hS hl').symm, B2⟩
  case round =>
    clear hrg hl' P2 B2
    obtain ⟨left, WO, hr, hm, hv, hb⟩ := hrel
    go_wp2_with (first
      | (at_next; refine wpList_next_at _ rfl _ rfl 29 under29 mp r n _ _ _ rfl hr.out ?_ ?_))
    · intro hl0
      go_wp2
      go_ret
      have hv' := hv.out
      rw [done_end hl0] at hv'
      exact ⟨q, WO, rfl, by rw [hq]; exact hm.out.1, hv', by rw [hq]; exact hb.out⟩
    · intro y v w3 left' cnt' hy0 hy1 hly hgy hrg3 hl3 hlt hg3 hs3 hen
      obtain ⟨e, he⟩ : ∃ e, getW y W = some e := by
        rw [pendG_get] at hgy
        cases hq : getW y W with
        | none => rw [hq] at hgy; cases hgy
        | some u => exact ⟨u, rfl⟩
      obtain rfl : v = ptr e.b := by
        rw [pendG_get, he] at hgy
        exact (Option.some.inj hgy).symm
      obtain ⟨hmem, hes⟩ := getW_mem he
      clear hgy hs3
      have B3 := hb.out.grown hg3 (by have := hr.out.lt; have := lqr.out; omega) (by intro k hk; cases hk; have := lqr.out; omega)
      have E3 : El w3 e := (B3.block e.b (by rw [← hq]; exact (hel e hmem).lt)).trans (hel e hmem)
      have d0 : w3.cell? ⟨e.b, 0, none⟩ = some (.int .u64 e.c) := cell_heap E3
      have d1 : w3.cell? ⟨e.b, 1, none⟩ = some (.int .i64 e.t) := cell_heap E3
      have d2 := E3.lt
      have M3 := MapAt.tight (MapAt.kept hm.out.1.pend hg3 (by intro b hb; cases hb; intro e; cases e; exact lqr.out.2 rfl))
      have hlen2 : (pendG WO).length ≤ n := by
        have h1 := congrArg List.length hv.out
        have h2 := List.length_filter_le (fun p : Int × Int × Int => !left (.int .u64 p.1)) (W.map val)
        rw [pendG_len]
        rw [List.length_map] at h1 h2
        unfold doneR at h1
        omega
      have M4 : MapAt (w3.alloc (.cells #[.int .u64 e.c, .int .i64 e.t] 91)).drew Tryd.prog 29 (some q) (pendG WO).length (pendG WO) := by
        have M5 : MapAt (w3.alloc (.cells #[.int .u64 e.c, .int .i64 e.t] 91)) Tryd.prog 29 (some q) (pendG WO).length (pendG WO) := MapAt.kept M3 (World.grownBy_alloc w3 _ none) (by simp)
        exact M5
      obtain ⟨w4, hrun, hm4, hturn⟩ := put_run 76 under29 Tryd.underlying76 M4 (by unfold maxLen; omega) y hy0 hy1 (ptr w3.heap.size)
      go_upto_region 5 with fail
      have HM := hid hm4
      have HT := hid hturn
      clear hm4 hturn M4 M3
      go_region
      go_wp2_with fail
      have hgv : getL y (W.map val) = some (e.c, e.t) := by rw [getW_val, he]; rfl
      have hd := done_put hS hl3 hgv
      have hvx : (putW ⟨y, e.c, e.t, w3.heap.size⟩ WO).map val = doneR (W.map val) left' := by rw [val_put, hv.out]; exact hd
      have hlx : (putW ⟨y, e.c, e.t, w3.heap.size⟩ WO).length ≤ n := by
        have h1 := congrArg List.length hvx
        have h2 := List.length_filter_le (fun p : Int × Int × Int => !left' (.int .u64 p.1)) (W.map val)
        rw [List.length_map] at h1 h2
        unfold doneR at h1
        omega
      have G3 : w3.grownBy (w3.alloc (.cells #[.int .u64 e.c, .int .i64 e.t] 91)).drew none := by
        have := World.grownBy_alloc w3 (.cells #[.int .u64 e.c, .int .i64 e.t] 91) none
        exact ⟨this.os, this.tape, this.output, this.size, this.block⟩
      have l3 : r < w3.heap.size := hrg3.lt
      go_roundg cnt'
      case measure => omega
      case rel =>
        refine ⟨left', putW ⟨y, e.c, e.t, w3.heap.size⟩ WO, hid ((hrg3.kept G3 (by simp) (by simp)).kept HT.out.grown (fun b hb e => by cases e; exact hne _ hb rfl) (fun e => by cases e; exact lqr.out.2 rfl)), hid ⟨⟨?_, ?_, ?_, ?_, ?_⟩, ?_⟩, hid hvx, ?_⟩
        · have := MapAt.tight HM.out
          rw [pendG_put ⟨y, e.c, e.t, w3.heap.size⟩ WO, pendG_len] at this
          exact MapAt.mono this hlx
        · intro x hx
          rcases mem_putW hx with rfl | hx
          · exact HT.out.cells (heap_last w3 _)
          · have h1 := hm.out.1.els x hx
            have h2 : w3.heap[x.b]? = _ := (hg3.block x.b h1.lt (fun e => by cases e; have := hm.out.2 x hx; omega)).trans h1
            exact HT.out.cells ((G3.block x.b (Array.getElem?_eq_some_iff.1 h2).1 (by simp)).trans h2)
        · intro x hx
          have := lqr.out
          rcases mem_putW hx with rfl | hx
          · show q ≤ w3.heap.size
            omega
          · exact hm.out.1.elB x hx
        · intro b hb
          exact hm.out.1.mpB b hb
        · refine nd_putW hm.out.1.nd (fun x hx => ?_)
          have := (hm.out.1.els x hx).lt
          have := hg3.size
          show x.b ≠ w3.heap.size
          omega
        · intro x hx
          rcases mem_putW hx with rfl | hx
          · exact l3
          · exact hm.out.2 x hx
        · exact hid ((B3.grown G3 (by have := lqr.out; omega) (by simp)).grown HT.out.grown (by have := lqr.out; have := G3.size; omega) (by intro k hk; cases hk; exact Nat.le_refl _))
end Go.Proofs.YtpbhblppehkifaaDoor
