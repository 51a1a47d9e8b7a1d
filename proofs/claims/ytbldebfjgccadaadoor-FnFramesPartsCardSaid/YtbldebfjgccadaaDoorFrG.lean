/- The walks of what the frames' loop calls: errors, statuses, the close message, what is kept, the handle. -/
import Derived.Test.YtbldebfjgccadaaDoorFrF
import Derived.Lib.ConvBytes
import Derived.Lib.SmallJoins
namespace Go.Proofs.YtbldebfjgccadaaDoor
open Go.RowKit
attribute [local go_sem ↓] Go.wp_at_zero Go.wp_at_succ
set_option linter.unusedVariables false
set_option linter.unusedSimpArgs false

theorem under9 : Tryd.prog.underlying 9 = some .string := by kernel_rfl
theorem under5 : Tryd.prog.underlying 5 = some (.int .u8) := by kernel_rfl
theorem keep_block {w w' : World} {r : Option Nat} {k : Nat} {o : Obj} (h : w.grownBy w' r) (hne : some k ≠ r) (hl : k < w.heap.size) (hk : w.heap[k]? = some o) : w'.heap[k]? = some o := (h.block k hl hne).trans hk
/-- An error. -/
abbrev errV (a : Addr) : Value := .iface 97 (.pointer (some a))

theorem protoErr_any (c : Value) (s : ByteArray) (w : World) :
    Calls Tryd.prog 23 #[c, .string s] w fun e w' => (∃ a, e = .returned (errV a)) ∧ Below w.heap.size w w' := by
  go_enter Tryd.func23, Tryd.ntmps23
  go_wp2_with fail
  have h30 : ∀ w : World, Calls Tryd.prog 30 #[.string s] w fun e w' => e = .returned (errV ⟨w.heap.size, 0, none⟩) ∧ Below w.heap.size w w' := fun w => by
    go_enter Tryd.func30, Tryd.ntmps30
    go_wp2
    go_ret
    exact ⟨rfl, (Below.refl _ _).alloc (Nat.le_refl _) _⟩
  refine (h30 w).mono ?_
  rintro e w1 ⟨rfl, hb⟩
  have HB := Lib.hid hb
  clear hb h30
  go_wp2_with fail
  go_ret
  exact ⟨⟨_, rfl⟩, HB.out⟩

theorem isControl_yes (t : Nat) (ht : 8 ≤ t) (ht2 : t < 16) (w : World) : Calls Tryd.prog 27 #[.int .i64 t] w fun e w' => e = .returned (.bool true) ∧ w = w' := by
  have e1 : decide ((8 : Int) ≤ (t : Int)) = true := decide_eq_true (by omega)
  go_enter Tryd.func27, Tryd.ntmps27
  go_wp2_with fail
  go_ret
  exact ⟨rfl, rfl⟩
theorem isControl_no (t : Nat) (ht : t < 8) (w : World) : Calls Tryd.prog 27 #[.int .i64 t] w fun e w' => e = .returned (.bool false) ∧ w = w' := by
  have e1 : decide ((8 : Int) ≤ (t : Int)) = false := decide_eq_false (by omega)
  go_enter Tryd.func27, Tryd.ntmps27
  go_wp2_with fail
  go_ret
  exact ⟨rfl, rfl⟩

theorem ret_bool {a b : Bool} (h : a = b) : Ending.returned (.bool a) = .returned (.bool b) := by rw [h]
set_option maxHeartbeats 2000000 in
theorem status_any (n : Nat) (hn : n < 65536) (w : World) : Calls Tryd.prog 31 #[.int .i64 n] w fun e w' => e = .returned (.bool (Frm.statusOk n)) ∧ w = w' := by
  obtain ⟨b, hb⟩ : ∃ b, Frm.statusOk n = b := ⟨_, rfl⟩
  rw [hb]
  have HB := Lib.hid hb
  clear hb
  go_enter Tryd.func31, Tryd.ntmps31
  go_wp2_with fail
  all_goals
    go_ret
    refine ⟨?_, rfl⟩
    rw [← HB.out]
    refine ret_bool ?_
    simp at *
    simp [Frm.statusOk]
    try omega
/-- keep: what was kept is kept, and one more. -/
def Cl (w : World) (c : Nat) (kv : Value) (n : Nat) : Prop := ∃ cs, w.heap[c]? = some (.cells cs 63 (0, 0)) ∧ cs[4128]? = some kv ∧ cs[4129]? = some (.int .i64 n)
theorem info94 : (Tryd.prog.info? 94).map (fun i => (i.zero, i.size, i.bytes)) = some (some (.agg #[.int .i64 0, .string { data := #[] }, .string { data := #[] }, .string { data := #[] }, .string { data := #[] }, .string { data := #[] }, .int .i64 0, .string { data := #[] }, .string { data := #[] }]), 9, 128) := by kernel_rfl
theorem Cl.cell {w : World} {c : Nat} {kv : Value} {n : Nat} (h : Cl w c kv n) : w.cell? ⟨c, 4128, none⟩ = some kv ∧ w.cell? ⟨c, 4129, none⟩ = some (.int .i64 n) := by
  obtain ⟨cs, h1, h2, h3⟩ := h
  exact ⟨by rw [Lib.cell_of_heap h1]; exact h2, by rw [Lib.cell_of_heap h1]; exact h3⟩
theorem Cl.free {w : World} {c : Nat} {kv : Value} {n : Nat} (h : Cl w c kv n) (i : Nat) : w.frozen? ⟨c, i, none⟩ = false := by
  obtain ⟨cs, h1, _⟩ := h
  exact Lib.frozen_of_heap h1 _
theorem Cl.lt {w : World} {c : Nat} {kv : Value} {n : Nat} (h : Cl w c kv n) : c < w.heap.size := by
  obtain ⟨cs, h1, _⟩ := h
  exact Lib.lt_of_heap h1
theorem Cl.keep {w w' : World} {c : Nat} {kv : Value} {n : Nat} (h : Cl w c kv n) (hb : w'.heap[c]? = w.heap[c]?) : Cl w' c kv n := by
  obtain ⟨cs, h1, h2, h3⟩ := h
  exact ⟨cs, hb.trans h1, h2, h3⟩
theorem Cl.setKept {w : World} {c : Nat} {kv : Value} {n : Nat} (h : Cl w c kv n) (v : Value) : Cl (w.setCell ⟨c, 4128, none⟩ v) c v n := by
  obtain ⟨cs, h1, h2, h3⟩ := h
  refine ⟨_, setCell_heap h1 v, ?_, ?_⟩
  · rw [Array.getElem?_setIfInBounds]
    have : 4128 < cs.size := (Array.getElem?_eq_some_iff.1 h2).1
    simp [this]
  · rw [Array.getElem?_setIfInBounds]
    simpa using h3
theorem Cl.setClosed {w : World} {c : Nat} {kv : Value} {n : Nat} (h : Cl w c kv n) (m : Nat) : Cl (w.setCell ⟨c, 4129, none⟩ (.int .i64 m)) c kv m := by
  obtain ⟨cs, h1, h2, h3⟩ := h
  refine ⟨_, setCell_heap h1 _, ?_, ?_⟩
  · rw [Array.getElem?_setIfInBounds]
    simpa using h2
  · rw [Array.getElem?_setIfInBounds]
    have : 4129 < cs.size := (Array.getElem?_eq_some_iff.1 h3).1
    simp [this]
theorem alloc2_new (w : World) (x y : Obj) : ((w.alloc x).alloc y).heap[w.heap.size + 1]? = some y := by
  have := heap_alloc_new (w.alloc x) y
  simpa using this
theorem alloc2_old2 {w : World} {x y : Obj} {k : Nat} (h : k < w.heap.size) : ((w.alloc x).alloc y).heap[k]? = w.heap[k]? := (((Below.refl w.heap.size w).alloc (Nat.le_refl _) x).alloc (by simp) y).block k h
theorem Mv.grown {X : Nat → Prop} {w w1 : World} {r : Option Nat} (h : w.grownBy w1 r) (hx : ∀ k, k < w.heap.size → r = some k → X k) : Mv X w w1 :=
  ⟨h.os, h.tape, h.output, h.size, fun k hk hn => h.block k hk (fun e => hn (hx k hk e.symm))⟩
theorem World.grownBy.drewL {w w1 : World} {r : Option Nat} (h : w.drew.grownBy w1 r) : w.grownBy w1 r := ⟨h.os, h.tape, h.output, h.size, h.block⟩

theorem Mv.grownBy {X : Nat → Prop} {w w1 : World} {r : Option Nat} (h : Mv X w w1) (hx : ∀ k, k < w.heap.size → X k → some k = r) : w.grownBy w1 r :=
  ⟨h.os, h.tape, h.output, h.size, fun k hk hn => h.block k hk (fun x => hn (hx k hk x))⟩
theorem own_mv {X : Nat → Prop} {w w1 : World} {B E size n : Nat} {v : Value} {xs : List Value} (h : w.ownsRow B E size v n xs) (m : Mv X w w1) (hx : ∀ k, v.ownBlock = some k → ¬ X k) : w1.ownsRow B E size v n xs := by
  refine ⟨h.1, ?_⟩
  rcases h.2 with hn | ⟨g, cap, cur, rfl, hb, hgg, rest⟩
  · exact .inl hn
  · refine .inr ⟨g, cap, cur, rfl, hb, ?_, rest⟩
    rw [m.block g (Array.getElem?_eq_some_iff.1 hgg).1 (hx g rfl)]
    exact hgg
/-- What keep tells. -/
def KeepPost (c B n : Nat) (kv : Value) (w : World) (e : Ending) (w' : World) : Prop :=
  e = .returned (.tuple #[]) ∧ Mv (fun k => k = c ∨ kv.ownBlock = some k) w w' ∧ ∃ kv' xs', Cl w' c kv' 0 ∧ w'.ownsRow B 94 9 kv' (n + 1) xs'

set_option maxHeartbeats 4000000 in
set_option maxRecDepth 100000 in
theorem keep_any (c B n : Nat) (kv : Value) (xs : List Value) (str : ByteArray) (w : World) (hC : Cl w c kv 0) (hB : c < B) (hB2 : B ≤ w.heap.size) (hO : w.ownsRow B 94 9 kv n xs) (hn : n < 1000000) :
    Calls Tryd.prog 34 #[.pointer (some ⟨c, 0, none⟩), .agg #[.int .i64 3, .string str, .string { data := #[] }, .string { data := #[] }, .string { data := #[] }, .string { data := #[] }, .int .i64 0, .string { data := #[] }, .string { data := #[] }]] w fun e w' => KeepPost c B n kv w e w' := by
  obtain ⟨i0, hi0, hz0, hz1, hz2⟩ := info_parts info94
  have HO := Lib.hid hO
  have HC := Lib.hid hC
  have c0 := hC.cell.1
  clear hO hC
  go_enter Tryd.func34, Tryd.ntmps34
  go_wp2_with fail
  have hcl : c < w.heap.size := by omega
  have n0 := World.new_ne w _ c0
  have nw1 := Lib.hid (alloc2_new w (.cells #[.int .i64 3, .string str, .string { data := #[] }, .string { data := #[] }, .string { data := #[] }, .string { data := #[] }, .int .i64 0, .string { data := #[] }, .string { data := #[] }] 94) (.cells #[.int .i64 3, .string str, .string { data := #[] }, .string { data := #[] }, .string { data := #[] }, .string { data := #[] }, .int .i64 0, .string { data := #[] }, .string { data := #[] }] 94))
  have nv : kv.ownBlock ≠ some c := fun e => by have := (HO.out.lt _ e).1; omega
  go_region_law ((refine step_append_lies _ (by rfl) _ _ _ (by rfl) B 94 i0 _ 9 128 Tryd.underlying46 hi0 hz0 hz1 hz2 rfl (by omega) kv n xs (by rfl) (((HO.out.alloc _).alloc _).drew) ⟨w.heap.size + 1, 0, none⟩ 1 1 [.int .i64 3, .string str, .string { data := #[] }, .string { data := #[] }, .string { data := #[] }, .string { data := #[] }, .int .i64 0, .string { data := #[] }, .string { data := #[] }] (by rfl) (by rfl) (World.news_of_block (cs := #[.int .i64 3, .string str, .string { data := #[] }, .string { data := #[] }, .string { data := #[] }, .string { data := #[] }, .int .i64 0, .string { data := #[] }, .string { data := #[] }]) (t := 94) (fr := (0, 0)) nw1.out) (by simp [Value.oneCell']) (by omega) (by unfold maxLen; omega) (by omega) (by simp <;> omega) (w.heap.size + 2) (by simp) ?_; intro gg gcap w4 hown4 hgrow hat hlt4; have OW := Lib.hid hown4; have GR := Lib.hid hgrow; have C4 : Hid (Cl w4 c kv 0) := Lib.hid ((HC.out.keep (alloc2_old2 hcl)).keep (hgrow.block c (by simp; omega) (fun e => nv e.symm))); have c4 := C4.out.cell.1; have f4 := C4.out.free 4128; clear hown4 hgrow hat))
  all_goals
    go_wp2_with fail
    go_end0
    have M1 : Mv (fun k => k = c ∨ kv.ownBlock = some k) w w4 := (((Mv.refl _ w).alloc _).alloc _).drew.transNew (Mv.grown (X := fun k => kv.ownBlock = some k) GR.out (fun k _ e => e)) (fun k _ e => Or.inr e)
    refine ⟨rfl, M1.setCell (b := c) (fun _ => Or.inl rfl) _ _, _, _, C4.out.setKept _, own_mv OW.out (Mv.setCell (X := fun k => k = c) (Mv.refl _ _) (b := c) (fun _ => rfl) _ _) (fun k e hk => ?_)⟩
    have := (OW.out.lt _ e).1
    omega

theorem info52 : (Tryd.prog.info? 52).map (fun i => (i.zero, i.size, i.bytes)) = some (some (.slice none 0 0), 1, 24) := by kernel_rfl
/-- What the handle tells. -/
def HandlePost (ob B : Nat) (v b : Value) (xs : List Value) (w : World) (e : Ending) (w' : World) : Prop :=
  e = .returned .nilIface ∧ Mv (fun k => k = ob ∨ v.ownBlock = some k) w w' ∧ ∃ v', w'.heap[ob]? = some (.cells #[v'] 45 (0, 0)) ∧ w'.ownsRow B 52 1 v' (xs.length + 1) (xs ++ [b])
set_option maxHeartbeats 4000000 in
set_option maxRecDepth 100000 in
theorem handle_any (ob B : Nat) (v b : Value) (f1 f2 : Bool) (xs : List Value) (w : World) (hC : w.heap[ob]? = some (.cells #[v] 45 (0, 0))) (hB : ob < B) (hB2 : B ≤ w.heap.size) (hO : w.ownsRow B 52 1 v xs.length xs) (hn : xs.length < 1000000) (hb : ∃ a l c, b = .slice a l c) :
    Calls Tryd.prog 22 #[b, .bool f1, .bool f2, .pointer (some ⟨ob, 0, none⟩)] w fun e w' => HandlePost ob B v b xs w e w' := by
  obtain ⟨i0, hi0, hz0, hz1, hz2⟩ := info_parts info52
  obtain ⟨ba, bl, bc, rfl⟩ := hb
  have HO := Lib.hid hO
  have HC := Lib.hid hC
  have c0 : w.cell? ⟨ob, 0, none⟩ = some v := by rw [Lib.cell_of_heap hC]; rfl
  clear hO hC
  go_enter Tryd.func22, Tryd.ntmps22
  go_wp2_with (at_builtin; refine wpList_append_lies _ rfl (.tmp 8) (.tmp 10) 45 rfl B 52 i0 (.slice none 0 0) 1 24 Tryd.underlying45 hi0 hz0 hz1 hz2 rfl (by omega) v xs.length xs rfl (HO.out.alloc _) ⟨w.heap.size, 0, none⟩ 1 1 [.slice ba bl bc] rfl rfl (World.news_of_block (cs := #[.slice ba bl bc]) (t := 52) (fr := (0, 0)) (heap_alloc_new w _)) (by simp [Value.oneCell']) (by omega) (by unfold maxLen; omega) (by omega) (by simp <;> omega) (w.heap.size + 1) (by simp) ?_)
  intro gg gcap w4 hown4 hgrow hat hlt4
  have hnv : ob < w.heap.size := by omega
  have nv : v.ownBlock ≠ some ob := fun e => by have := (HO.out.lt _ e).1; omega
  have B4 := Lib.hid (keep_block (hgrow) (fun e => nv e.symm) (by simp; omega) ((Below.heap_alloc _ _ _ hnv).trans HC.out))
  have c4 : w4.cell? ⟨ob, 0, none⟩ = some v := by rw [Lib.cell_of_heap B4.out]; rfl
  have f4 : w4.frozen? ⟨ob, 0, none⟩ = false := Lib.frozen_of_heap B4.out 0
  have OW := Lib.hid hown4
  have GR := Lib.hid hgrow
  clear hown4 hgrow hat
  go_wp2_with fail
  go_ret
  have M1 : Mv (fun k => k = ob ∨ v.ownBlock = some k) w w4 := ((Mv.refl _ w).alloc _).transNew (Mv.grown (X := fun k => v.ownBlock = some k) GR.out (fun k _ e => e)) (fun k _ e => Or.inr e)
  refine ⟨rfl, M1.setCell (b := ob) (fun _ => Or.inl rfl) _ _, _, Lib.heap_setCell_same (i := 0) B4.out _, own_mv OW.out (Mv.setCell (X := fun k => k = ob) (Mv.refl _ _) (b := ob) (fun _ => rfl) _ _) (fun k e hk => ?_)⟩
  have := (OW.out.lt _ e).1
  omega

theorem slice_upto (g o n c h : Nat) (hh : h ≤ c) (W : World) (hc : 0 < c := by omega) : (Instr.slice 52 (.slice (some ⟨g, o, none⟩) n c) none (some (.int .i64 (h : Int))) none).run Tryd.prog W = .ok (.slice (some ⟨g, o, none⟩) h c) W := by
  have ht' : Tryd.prog.underlying 52 = some (.slice (Tryd.prog.elem 52)) := by simp [Program.elem, under52]
  have he : Tryd.prog.elem 52 = 5 := by simp [Program.elem, under52]
  rw [run_slice_h W 52 _ _ _ ht' .i64 _ (by omega) (by omega), he, size5]
  have hne : ¬ c = 0 := by omega
  simp [Result.andThen, sliced, Addr.add, hne]
theorem conv_str (w : World) (s : ByteArray) : (convert 9 52 (.string s)).run Tryd.prog w = .ok (.slice (some ⟨w.heap.size, 0, none⟩) s.size (grownCap w s.size 0 5)) (Lib.bytesWorld w 5 s) :=
  Lib.run_convert_string_bytes w 9 52 5 s under9 under52 under5
theorem Mv.toBelow {X : Nat → Prop} {w w1 : World} (h : Mv X w w1) (hx : ∀ k, k < w.heap.size → ¬ X k) : Below w.heap.size w w1 := ⟨h.os, h.tape, h.output, h.size, fun k hk => h.block k hk (hx k hk)⟩
set_option maxHeartbeats 4000000 in
set_option maxRecDepth 100000 in
theorem closeMsg_any (st : Nat) (hst : st < 65536) (s : ByteArray) (hs : s.size ≤ 123) (w : World) :
    Calls Tryd.prog 33 #[.int .i64 st, .string s] w fun e w' => (∃ a l c, e = .returned (.slice a l c)) ∧ Below w.heap.size w w' := by
  have e1 : decide ((123 : Int) < (s.size : Int)) = false := decide_eq_false (by omega)
  have hmk := fun W => run_make_row' (P := Tryd.prog) 52 5 (.int .u8 0) 1 under52 (by kernel_rfl) rfl .i64 .i64 (2 + s.size) (by omega) (by omega) W
  have ec : ((2 + s.size : Nat) : Int) = 2 + (s.size : Int) := by omega
  simp only [ec] at hmk
  have cv := conv_str
  obtain ⟨W1, hW1⟩ : ∃ W1, w.alloc (Obj.cells (madeCells #[Value.int IntKind.u8 0] (2 + s.size)) 5) = W1 := ⟨_, rfl⟩
  have hth : Hid (W1.there w.heap.size 0 (2 + s.size)) := Lib.hid (fun j hj => by
    subst hW1
    refine ⟨?_, Lib.frozen_of_heap (heap_alloc_new w _) _⟩
    rw [Lib.cell_of_heap (heap_alloc_new w _), Nat.zero_add]
    simp [madeCells, hj])
  have M1 : Hid (Mv (fun _ => False) w W1) := Lib.hid (hW1 ▸ (Mv.refl _ w).alloc _)
  have hwst : (st : Int) % 65536 = (st : Int) := by omega
  have hwst2 : IntKind.u16.wrap (st : Int) = (st : Int) := by
    have : IntKind.u16.wrap (st : Int) = (st : Int) % 65536 := by simp [IntKind.wrap, IntKind.bits, IntKind.signed]
    rw [this]; omega
  have hs2 : ∀ W, (Instr.slice 52 (.slice (some ⟨w.heap.size, 0, none⟩) (2 + s.size) (2 + s.size)) none (some (.int .i64 2)) none).run Tryd.prog W = .ok (.slice (some ⟨w.heap.size, 0, none⟩) 2 (2 + s.size)) W := fun W => slice_upto w.heap.size 0 (2 + s.size) (2 + s.size) 2 (by omega) W
  go_enter Tryd.func33, Tryd.ntmps33
  go_wp2_with fail
  go_still_tail 5, (by kernel_rfl)
  go_wp2_with fail
  obtain ⟨x0, hx0⟩ := Option.isSome_iff_exists.1 (hth.out 0 (by omega)).1
  obtain ⟨x1, hx1⟩ := Option.isSome_iff_exists.1 (hth.out 1 (by omega)).1
  have HX0 := Lib.hid hx0
  have HX1 := Lib.hid hx1
  clear hx0 hx1
  refine (Tryd.binary_BE_PutUint16 w.heap.size 0 2 (2 + s.size) st hst x0 x1 W1.drew (by omega) HX0.out HX1.out (hth.out 0 (by omega)).2 (hth.out 1 (by omega)).2).mono ?_
  rintro e w3 ⟨rfl, hw3⟩
  have M3 : Hid (Mv (fun _ => False) w w3) := Lib.hid (by rw [hw3]; exact (M1.out.drew.alloc _).setCells (fun h => absurd h (Nat.lt_irrefl _)) _ _)
  have th3 : Hid (w3.there w.heap.size 0 (2 + s.size)) := Lib.hid (by
    rw [hw3]
    refine World.there_setCells (fun j hj => ?_) _ _ _
    have b : (W1.drew.alloc (.cells #[] 82)).heap[w.heap.size]? = W1.heap[w.heap.size]? := Below.heap_alloc W1.drew _ _ (World.block_lt_of_cell? W1 _ HX0.out)
    rw [World.cell?_of_block (w := W1) b, World.frozen?_of_block (w := W1) (a := ⟨w.heap.size, 0 + j, none⟩) b]
    exact hth.out j hj)
  have l3 : w.heap.size < w3.heap.size := by
    obtain ⟨x0, hx0⟩ := Option.isSome_iff_exists.1 (th3.out 0 (by omega)).1
    exact World.block_lt_of_cell? w3 _ hx0
  obtain ⟨vs, hvs⟩ : ∃ vs, (s.data.toList.map fun x : UInt8 => Value.int .u8 (x.toNat : Int)) = vs := ⟨_, rfl⟩
  have HL : Hid (vs.length = s.size) := Lib.hid (by rw [← hvs]; simp)
  have HV : Hid (∀ j v, vs[j]? = some v → v = Value.int .u8 ((s.data.toList.getD j 0).toNat : Int)) := Lib.hid (fun j v h => by
    rw [← hvs] at h
    obtain ⟨hj, rfl⟩ := List.getElem?_eq_some_iff.1 h
    have hj2 : j < s.data.toList.length := by simpa using hj
    simp only [List.getElem_map, List.getD_eq_getElem?_getD, List.getElem?_eq_getElem hj2, Option.getD_some])
  have HM : Hid (∀ v ∈ vs, v.oneCell' = true) := Lib.hid (fun v hv => by rw [← hvs] at hv; obtain ⟨x, _, rfl⟩ := List.mem_map.1 hv; rfl)
  obtain ⟨o2, ho2, hsl⟩ := slice_from w.heap.size 0 (2 + s.size) (2 + s.size) 2 (by omega) (by omega)
  rw [Nat.add_sub_cancel_left] at hsl
  have hsl3 : ∀ W, (Instr.slice 52 (.slice (some ⟨w.heap.size, 0, none⟩) (2 + s.size) (2 + s.size)) (some (.int .i64 2)) none none).run Tryd.prog W = .ok (.slice (some ⟨w.heap.size, o2, none⟩) s.size s.size) W := hsl
  clear hsl
  obtain ⟨W4, hW4⟩ : ∃ W4, Lib.bytesWorld w3 5 s = W4 := ⟨_, rfl⟩
  have h4 : Hid (W4.heap[w.heap.size]? = w3.heap[w.heap.size]?) := Lib.hid (by rw [← hW4]; exact Lib.bytesWorld_at_old w3 5 s _ l3)
  have M4 : Hid (Mv (fun _ => False) w (W4.setCells w.heap.size o2 vs)) := Lib.hid (by
    refine Mv.setCells (M3.out.trans ?_) (fun h => absurd h (Nat.lt_irrefl _)) _ _
    rw [← hW4]
    exact Mv.below (Joins.below_bytesWorld w3.heap.size w3 5 s (Nat.le_refl _)))
  have hcp : (Builtin.copy_ #[52, 52] 3 #[.slice (some ⟨w.heap.size, o2, none⟩) s.size s.size, .slice (some ⟨w3.heap.size, 0, none⟩) s.size (grownCap w3 s.size 0 5)]).run Tryd.prog W4 = .ok (.int .i64 s.size) (W4.setCells w.heap.size o2 vs) := by
    have := run_copy_cells (P := Tryd.prog) W4 52 52 3 5 w.heap.size o2 s.size s.size ⟨w3.heap.size, 0, none⟩ s.size (grownCap w3 s.size 0 5) vs under52 (by kernel_rfl) (by rw [HL.out]; exact (Nat.min_self _).symm) (fun j v hv => by
      rw [Addr.add_mid, Nat.zero_add, ← hW4, Lib.bytesWorld_cell w3 5 s j (by rw [← HL.out]; exact (List.getElem?_eq_some_iff.1 hv).1), HV.out j v hv]) (fun j hj => by
      rw [ho2 (by have := HL.out; omega), World.cell?_of_block (w := w3) h4.out, Nat.add_assoc]
      exact (th3.out (2 + j) (by have := HL.out; omega)).1) (fun j hj => by
      rw [ho2 (by have := HL.out; omega), World.frozen?_of_block (w := w3) (a := ⟨w.heap.size, 0 + 2 + j, none⟩) h4.out, Nat.add_assoc]
      exact (th3.out (2 + j) (by have := HL.out; omega)).2) HM.out
    rw [HL.out] at this
    exact this
  rw [← hW4] at hcp M4
  clear hw3 hvs hW4 hs2 hmk
  go_wp2_with fail
  go_ret
  exact ⟨⟨_, _, _, rfl⟩, M4.out.toBelow (fun _ _ h => h)⟩
end Go.Proofs.YtbldebfjgccadaaDoor
