/- A delivery. -/
import Derived.Test.YtpbhblppehkifaaDoorStoE
import Derived.WalkSpells
namespace Go.Proofs.YtpbhblppehkifaaDoor
open Go Go.RowKit Go.MuLone Con

/-- An error that is none, or one. -/
def ErrV (v : Value) (b : Bool) : Prop := (v = .nilIface ∧ b = true) ∨ ((∃ t u, v = .iface t u) ∧ b = false)
/-- The listed errors. -/
structure SurC (w : World) : Prop where
  e0 : ∃ t u, w.cell? ⟨0, 0, none⟩ = some (.iface t u)
  e1 : ∃ t u, w.cell? ⟨1, 0, none⟩ = some (.iface t u)
  e2 : ∃ t u, w.cell? ⟨2, 0, none⟩ = some (.iface t u)
  size : 4 ≤ w.heap.size
theorem SurC.below {w w' : World} {B : Nat} (h : SurC w) (hB : 4 ≤ B) (hb : Below B w w') : SurC w' := by
  obtain ⟨⟨t0, u0, h0⟩, ⟨t1, u1, h1⟩, ⟨t2, u2, h2⟩, hs⟩ := h
  refine ⟨⟨t0, u0, ?_⟩, ⟨t1, u1, ?_⟩, ⟨t2, u2, ?_⟩, Nat.le_trans hs hb.size⟩
  · rw [hb.cell (p := ⟨0, 0, none⟩) (by show 0 < B; omega)]; exact h0
  · rw [hb.cell (p := ⟨1, 0, none⟩) (by show 1 < B; omega)]; exact h1
  · rw [hb.cell (p := ⟨2, 0, none⟩) (by show 2 < B; omega)]; exact h2

/-- A delivery where nothing is acknowledged. -/
def Del0 (w w' : World) (B m n : Nat) (dc ds fc fs c s t : Int) (mp mr : Option Nat) (W : List Wt) (R : List (Int × Int)) : Prop :=
  Eff B w w' ∧ ∃ dc' ds' fc' fs', St w' B m (stc 0 0 dc' ds' fc' fs' mp mr) mp mr n W R ∧
    (dc', ds', fc', fs') = if t = 1 ∧ fc < c then (if dc < c then c else dc, if ds < s then s else ds, if dc < c then c else fc, if ds < s then s else fs) else (dc, ds, fc, fs)
def okT (t : Int) : Bool := decide (t = 1)

set_option maxRecDepth 100000 in
theorem deliver0_st (B m n : Nat) (dc ds fc fs c s t at_ : Int) (mp mr : Option Nat) (W : List Wt) (R : List (Int × Int)) (w : World) (hS : SurC w) (hB : 4 ≤ B) (h : St w B m (stc 0 0 dc ds fc fs mp mr) mp mr n W R) :
    Calls Tryd.prog 28 #[ptr m, .int .u64 c, .int .u64 s, .int .u64 t, .int .i64 at_] w fun e w' => ∃ v, e = .returned v ∧ ErrV v (okT t) ∧ Del0 w w' B m n dc ds fc fs c s t mp mr W R := by
  go_enter_defers Tryd.func28, Tryd.ntmps28
  go_wp2_with fail
  refine (lockS h).mono ?_
  rintro e w1 ⟨rfl, h1, e1⟩
  have S1 := hS.below hB e1.below
  obtain ⟨c0, c1, c2, c3, c4, c5, c6, c7, c8, c9, c10⟩ := h1.cells
  have f0 := h1.frozen
  by_cases ht : t = 1
  · subst ht
    by_cases hc : c ≤ fc
    · go_wp2_with fail
      refine leaves_cons (f := 46) (args := #[ptr m]) (by simp) (by simp [go_sem]) ?_
      refine (unlockD .returning h1).mono ?_
      rintro e u' w'' ⟨rfl, rfl, h3, e3⟩
      exact ⟨_, results_tmp rfl _ _ _, _, rfl, Or.inl ⟨rfl, rfl⟩, e1.trans e3, dc, ds, fc, fs, h3, by rw [if_neg (by omega)]⟩
    · by_cases hd : dc < c
      · by_cases hs : ds < s
        · go_wp2_with fail
          refine leaves_cons (f := 46) (args := #[ptr m]) (by simp) (by simp [go_sem]) ?_
          have h4 := ((((SE.of h1 e1).set 4 (.int .u64 c)).set 6 (.int .u64 c)).set 5 (.int .u64 s)).set 7 (.int .u64 s)
          refine (unlockD .returning h4.1).mono ?_
          rintro e u' w'' ⟨rfl, rfl, h3, e3⟩
          exact ⟨_, results_tmp rfl _ _ _, _, rfl, Or.inl ⟨rfl, rfl⟩, h4.2.trans e3, c, s, c, s, h3, by rw [if_pos (by omega), if_pos hd, if_pos hs, if_pos hd, if_pos hs]⟩
        · go_wp2_with fail
          refine leaves_cons (f := 46) (args := #[ptr m]) (by simp) (by simp [go_sem]) ?_
          have h4 := (((SE.of h1 e1).set 4 (.int .u64 c)).set 6 (.int .u64 c))
          refine (unlockD .returning h4.1).mono ?_
          rintro e u' w'' ⟨rfl, rfl, h3, e3⟩
          exact ⟨_, results_tmp rfl _ _ _, _, rfl, Or.inl ⟨rfl, rfl⟩, h4.2.trans e3, c, ds, c, fs, h3, by rw [if_pos (by omega), if_pos hd, if_neg (show ¬ ds < s by omega), if_pos hd, if_neg (show ¬ ds < s by omega)]⟩
      · by_cases hs : ds < s
        · go_wp2_with fail
          refine leaves_cons (f := 46) (args := #[ptr m]) (by simp) (by simp [go_sem]) ?_
          have h4 := (((SE.of h1 e1).set 5 (.int .u64 s)).set 7 (.int .u64 s))
          refine (unlockD .returning h4.1).mono ?_
          rintro e u' w'' ⟨rfl, rfl, h3, e3⟩
          exact ⟨_, results_tmp rfl _ _ _, _, rfl, Or.inl ⟨rfl, rfl⟩, h4.2.trans e3, dc, s, fc, s, h3, by rw [if_pos (by omega), if_neg (show ¬ dc < c by omega), if_pos hs, if_neg (show ¬ dc < c by omega), if_pos hs]⟩
        · go_wp2_with fail
          refine leaves_cons (f := 46) (args := #[ptr m]) (by simp) (by simp [go_sem]) ?_
          refine (unlockD .returning h1).mono ?_
          rintro e u' w'' ⟨rfl, rfl, h3, e3⟩
          exact ⟨_, results_tmp rfl _ _ _, _, rfl, Or.inl ⟨rfl, rfl⟩, e1.trans e3, dc, ds, fc, fs, h3, by rw [if_pos (by omega), if_neg (show ¬ dc < c by omega), if_neg (show ¬ ds < s by omega), if_neg (show ¬ dc < c by omega), if_neg (show ¬ ds < s by omega)]⟩
  · have ht' : (t == 1) = false := by simpa using ht
    obtain ⟨t0, u0, g0⟩ := S1.e0
    go_wp2_with fail
    refine leaves_cons (f := 46) (args := #[ptr m]) (by simp) (by simp [go_sem]) ?_
    refine (unlockD .returning h1).mono ?_
    rintro e u' w'' ⟨rfl, rfl, h3, e3⟩
    exact ⟨_, results_tmp rfl _ _ _, _, rfl, Or.inr ⟨⟨_, _, rfl⟩, by simp [okT, ht]⟩, e1.trans e3, dc, ds, fc, fs, h3, by rw [if_neg (by simp [ht])]⟩
end Go.Proofs.YtpbhblppehkifaaDoor

namespace Go.Proofs.YtpbhblppehkifaaDoor
open Go Go.RowKit Go.MuLone Con

section
variable {P : Program} (w : World) {ops : Array Oper} {rest : List Oper} {o : Oper} {a : Act} {Q : Exit → Act → World → Prop}
theorem wpList_look_is (hg : o.guard = none) (m x : Operand) (t : TypeId) (hop : o.op = Op.lookup t m x false)
    (k e : TypeId) (hk : P.underlying k = some (.int .u64)) (ht : P.underlying t = some (.map k e)) (z : Value) (hz : (zeroValue e).run P w = .ok z w)
    (mp : Option Nat) (n : Nat) (G : List (Int × Value)) (hm : a.eval m = .map mp) (h : MapAt w P k mp n G) (key : Int) (hx : a.eval x = .int .u64 key) (h0 : 0 ≤ key) (h1 : key < 18446744073709551616) (v : Value) (hv : (getL key G).getD z = v)
    (hK : wpList P ops Q rest (a.put o.dst v) w) :
    wpList P ops Q (o :: rest) a w := by
  subst hv
  exact wpList_look w hg m x t hop k e hk ht z hz mp n G hm h key hx h0 h1 hK
theorem wpList_look_ok_is (hg : o.guard = none) (m x : Operand) (t : TypeId) (hop : o.op = Op.lookup t m x true)
    (k e : TypeId) (hk : P.underlying k = some (.int .u64)) (ht : P.underlying t = some (.map k e)) (z : Value) (hz : (zeroValue e).run P w = .ok z w)
    (mp : Option Nat) (n : Nat) (G : List (Int × Value)) (hm : a.eval m = .map mp) (h : MapAt w P k mp n G) (key : Int) (hx : a.eval x = .int .u64 key) (h0 : 0 ≤ key) (h1 : key < 18446744073709551616) (v : Value) (b : Bool) (hv : (getL key G).getD z = v) (hb : (getL key G).isSome = b)
    (hK : wpList P ops Q rest (a.put o.dst (.tuple #[v, .bool b])) w) :
    wpList P ops Q (o :: rest) a w := by
  subst hv
  subst hb
  exact wpList_look_ok w hg m x t hop k e hk ht z hz mp n G hm h key hx h0 h1 hK
end

theorem zero89 (w : World) : (zeroValue 89).run Tryd.prog w = .ok (.pointer none) w := Tryd.zeroValue89 w
theorem zero29 (w : World) : (zeroValue 29).run Tryd.prog w = .ok (.int .u64 0) w := Tryd.zeroValue29 w
theorem pendG_nil {W : List Wt} (h : pendG W = []) : W = [] := by simpa [pendG] using h
theorem redG_nil {R : List (Int × Int)} (h : redG R = []) : R = [] := by simpa [redG] using h

section
variable {B m n : Nat} {lk ack dc ds fc fs : Int} {mp mr : Option Nat} {W : List Wt} {R : List (Int × Int)} {w0 w w' : World} {cs : Array Value}
theorem SE.alloc (h : SE w0 w B m cs mp mr n W R) (o : Obj) : SE w0 (w.alloc o) B m cs mp mr n W R := h.grown (World.grownBy_alloc w o none) (by simp)
theorem SE.mkP (h : SE w0 w B m cs none mr n W R) : SE w0 (w.alloc (.map #[] 0)) B m cs (some w.heap.size) mr n W R := by
  have hW : W = [] := pendG_nil h.1.rest.pend
  subst hW
  have h2 : SE w0 (w.alloc (.map #[] 0)) B m cs (some w.heap.size) mr n [] R := by
    have ha := h.alloc (.map #[] 0)
    refine ⟨⟨ha.1.box, { ha.1.rest with pend := (made_at w _ _).mono (Nat.zero_le _), ne := fun b hb e => ?_, mpB := fun b hb => ?_ }⟩, ha.2⟩
    · cases hb
      exact Nat.lt_irrefl _ (h.1.rest.red.lt e)
    · cases hb
      exact Nat.le_trans h.1.rest.hB (Nat.le_of_lt h.1.lt)
  exact h2
theorem SE.newP (h : SE w0 w B m cs none mr n W R) (v : Value) : SE w0 ((w.setCell ⟨m, 8, none⟩ v).alloc (.map #[] 0)) B m (cs.setIfInBounds 8 v) (some w.heap.size) mr n W R := by
  have h1 := SE.mkP (h.set 8 v)
  have e : (w.setCell ⟨m, 8, none⟩ v).heap.size = w.heap.size := by simp [World.setCell]
  rw [e] at h1
  exact h1

theorem SE.mkR (h : SE w0 w B m cs mp none n W R) : SE w0 (w.alloc (.map #[] 0)) B m cs mp (some w.heap.size) n W R := by
  have hR : R = [] := redG_nil h.1.rest.red
  subst hR
  have h2 : SE w0 (w.alloc (.map #[] 0)) B m cs mp (some w.heap.size) n W [] := by
    have ha := h.alloc (.map #[] 0)
    refine ⟨⟨ha.1.box, { ha.1.rest with red := (made_at w _ _).mono (Nat.zero_le _), ne := fun b hb e => ?_, mrB := fun b hb => ?_ }⟩, ha.2⟩
    · cases e
      exact Nat.lt_irrefl _ (h.1.rest.pend.lt hb)
    · cases hb
      exact Nat.le_trans h.1.rest.hB (Nat.le_of_lt h.1.lt)
  exact h2
theorem SE.newR (h : SE w0 w B m cs mp none n W R) (v : Value) : SE w0 ((w.setCell ⟨m, 9, none⟩ v).alloc (.map #[] 0)) B m (cs.setIfInBounds 9 v) mp (some w.heap.size) n W R := by
  have h1 := SE.mkR (h.set 9 v)
  have e : (w.setCell ⟨m, 9, none⟩ v).heap.size = w.heap.size := by simp [World.setCell]
  rw [e] at h1
  exact h1

/-- The time of a message that waits. -/
def retime (e : Wt) (at_ : Int) (W : List Wt) : List Wt := W.map fun x => if x.b = e.b then { x with t := at_ } else x
theorem pendG_retime (e : Wt) (at_ : Int) (W : List Wt) : pendG (retime e at_ W) = pendG W := by
  simp only [pendG, retime, List.map_map]
  apply List.map_congr_left
  intro x _
  by_cases h : x.b = e.b <;> simp [h]
theorem SE.setEl (h : SE w0 w B m cs mp mr n W R) {e : Wt} (he : e ∈ W) (at_ : Int) : SE w0 (w.setCell ⟨e.b, 1, none⟩ (.int .i64 at_)) B m cs mp mr n (retime e at_ W) R := by
  have hE := h.1.rest.els e he
  have hg := grown_setCell w e.b 1 (.int .i64 at_)
  refine ⟨⟨(heap_setCell_ne (Ne.symm (h.1.rest.elB e he).2)).trans h.1.box, { h.1.rest with
    pend := by
      rw [pendG_retime]
      exact MapAt.kept h.1.rest.pend hg (fun b hb q => by cases q; exact h.1.rest.pend.no_cells hb hE)
    red := MapAt.kept h.1.rest.red hg (fun b hb q => by cases q; exact h.1.rest.red.no_cells hb hE)
    els := fun x hx => ?_, elB := fun x hx => ?_, nd := ?_, sW := ?_, kW := fun x hx => ?_ }⟩, h.2.trans (Eff.grown hg (Nat.le_trans h.1.rest.hB (Nat.le_of_lt h.1.lt)) (fun r hr => ?_))⟩
  · obtain ⟨y, hy, rfl⟩ := List.mem_map.1 hx
    by_cases hb : y.b = e.b
    · have hyE : w.heap[e.b]? = some (.cells #[.int .u64 y.c, .int .i64 y.t] 91 (0, 0)) := by rw [← hb]; exact h.1.rest.els y hy
      rw [if_pos hb]
      show (w.setCell _ _).heap[y.b]? = _
      rw [hb]
      exact heap_setCell hyE
    · rw [if_neg hb]
      exact (heap_setCell_ne hb).trans (h.1.rest.els y hy)
  · obtain ⟨y, hy, rfl⟩ := List.mem_map.1 hx
    by_cases hb : y.b = e.b
    · rw [if_pos hb]; exact h.1.rest.elB y hy
    · rw [if_neg hb]; exact h.1.rest.elB y hy
  · have : (retime e at_ W).map (·.b) = W.map (·.b) := by
      simp only [retime, List.map_map]
      apply List.map_congr_left
      intro x _
      by_cases hb : x.b = e.b <;> simp [hb]
    rw [this]
    exact h.1.rest.nd
  · unfold retime
    rw [List.pairwise_map]
    refine h.1.rest.sW.imp (fun {x y} hxy => ?_)
    by_cases hb : x.b = e.b <;> by_cases hc : y.b = e.b <;> simp [hb, hc, hxy]
  · obtain ⟨y, hy, rfl⟩ := List.mem_map.1 hx
    by_cases hb : y.b = e.b
    · rw [if_pos hb]; exact h.1.rest.kW y hy
    · rw [if_neg hb]; exact h.1.rest.kW y hy
  · cases hr
    exact ⟨(h.1.rest.elB e he).1, fun cs t f hk => by rw [hE] at hk; cases hk; exact Or.inr rfl⟩
theorem val_retime {e : Wt} {W : List Wt} (hs : W.Pairwise (fun a b => a.s < b.s)) (hn : (W.map (·.b)).Nodup) (he : e ∈ W) (at_ : Int) : (retime e at_ W).map val = putL e.s (e.c, at_) (W.map val) := by
  have hS : Srt (W.map val) := srt_val.2 hs
  have inj : ∀ x ∈ W, x.b = e.b → x = e := fun x hx hb => by
    have h2 : W.Pairwise (fun a b => a.b ≠ b.b) := List.pairwise_map.1 hn
    have : ∀ (l : List Wt), l.Pairwise (fun a b => a.b ≠ b.b) → x ∈ l → e ∈ l → x = e := by
      intro l
      induction l with
      | nil => intro _ h1; cases h1
      | cons y r ih =>
        intro hp h1 h2
        obtain ⟨g1, g2⟩ := List.pairwise_cons.1 hp
        rcases List.mem_cons.1 h1 with e1 | e1
        · rcases List.mem_cons.1 h2 with e2 | e2
          · rw [e1, e2]
          · exact absurd (e1 ▸ hb) (g1 e e2)
        · rcases List.mem_cons.1 h2 with e2 | e2
          · exact absurd (e2 ▸ hb).symm (g1 x e1)
          · exact ih g2 e1 e2
    exact this W h2 hx he
  refine Srt.ext ?_ (Srt.put hS) (fun p => ?_)
  · unfold Srt retime
    rw [List.pairwise_map, List.pairwise_map]
    refine hs.imp (fun {x y} hxy => ?_)
    by_cases hb : x.b = e.b <;> by_cases hc : y.b = e.b <;> simp [val, hb, hc, hxy]
  · rw [mem_putL]
    constructor
    · intro hp
      obtain ⟨x, hx, rfl⟩ := List.mem_map.1 hp
      obtain ⟨y, hy, rfl⟩ := List.mem_map.1 hx
      by_cases hb : y.b = e.b
      · rw [if_pos hb, inj y hy hb]
        exact Or.inl rfl
      · rw [if_neg hb]
        refine Or.inr ⟨List.mem_map.2 ⟨y, hy, rfl⟩, fun hs2 => hb ?_⟩
        have h3 : (y.s, y.c, y.t) = (e.s, e.c, e.t) := by
          have g1 := hS.get (show (y.s, (y.c, y.t)) ∈ W.map val from List.mem_map.2 ⟨y, hy, rfl⟩)
          have g2 := hS.get (show (e.s, (e.c, e.t)) ∈ W.map val from List.mem_map.2 ⟨e, he, rfl⟩)
          have h4 : y.s = e.s := hs2
          rw [h4, g2] at g1
          rw [h4, Option.some.inj g1]
        have : ∀ (l : List Wt), l.Pairwise (fun a b => a.s < b.s) → y ∈ l → e ∈ l → y.s = e.s → y = e := by
          intro l
          induction l with
          | nil => intro _ h1; cases h1
          | cons z r ih =>
            intro hp h1 h2 h5
            obtain ⟨g1, g2⟩ := List.pairwise_cons.1 hp
            rcases List.mem_cons.1 h1 with e1 | e1
            · rcases List.mem_cons.1 h2 with e2 | e2
              · rw [e1, e2]
              · have := g1 e e2; rw [← e1] at this; omega
            · rcases List.mem_cons.1 h2 with e2 | e2
              · have := g1 y e1; rw [← e2] at this; omega
              · exact ih g2 e1 e2 h5
        rw [this W hs hy he hs2]
    · rintro (rfl | ⟨hp, hne⟩)
      · exact List.mem_map.2 ⟨{ e with t := at_ }, List.mem_map.2 ⟨e, he, by simp⟩, rfl⟩
      · obtain ⟨y, hy, rfl⟩ := List.mem_map.1 hp
        refine List.mem_map.2 ⟨y, List.mem_map.2 ⟨y, hy, ?_⟩, rfl⟩
        rw [if_neg (fun hb => hne (by rw [inj y hy hb]; rfl))]
/-- A new message that waits, laid ahead of the map's store. -/
theorem SE.addEl (h : SE w0 w B m cs mp mr n W R) (x : Wt) (hx : x.b = w.heap.size) (hk : 0 ≤ x.s ∧ x.s ≤ 65536 ∧ 0 ≤ x.c ∧ x.c ≤ 65536)
    (ht : Turn (w.alloc (.cells #[.int .u64 x.c, .int .i64 x.t] 91)) w' mp) (hm : MapAt w' Tryd.prog 29 mp (n + 1) (pendG (putW x W))) : SE w0 w' B m cs mp mr (n + 1) (putW x W) R := by
  have ha := h.alloc (.cells #[.int .u64 x.c, .int .i64 x.t] 91)
  have hm0 := h.1.lt
  refine ha.turnP ht (Nat.le_succ n) hm (fun e he => ?_) (nd_putW h.1.rest.nd (fun e he => by have := (h.1.rest.els e he).lt; omega)) (srt_val.1 (by rw [val_put]; exact Srt.put (srt_val.2 h.1.rest.sW))) (fun e he => ?_)
  · rcases mem_putW he with rfl | he
    · refine ⟨?_, by have := h.1.rest.hB; omega, by omega⟩
      unfold El
      rw [hx]
      exact heap_last w _
    · exact ⟨ha.1.rest.els e he, h.1.rest.elB e he⟩
  · rcases mem_putW he with rfl | he
    · exact hk
    · exact h.1.rest.kW e he
end
end Go.Proofs.YtpbhblppehkifaaDoor

namespace Go.Proofs.YtpbhblppehkifaaDoor
open Go Go.RowKit Go.MuLone Con
set_option linter.unusedVariables false

def sndS : Code → Code
  | .seq _ b => b
  | c => c
def fstS : Code → Code
  | .seq a _ => a
  | c => c
def inB : Code → Code
  | .block _ c => c
  | c => c
def thenC : Code → Code
  | .cond _ a _ => a
  | c => c
def elseC : Code → Code
  | .cond _ _ b => b
  | c => c
noncomputable def B28 : Code := Tryd.f28.body.getD .skip
/-- The part where messages are acknowledged, and its pieces. -/
noncomputable def T28 : Code := thenC (sndS (fstS (sndS (sndS (sndS (sndS (sndS B28)))))))
noncomputable def T28a : Code := fstS T28
noncomputable def T28r : Code := sndS T28
noncomputable def T28s : Code := fstS (sndS T28r)
noncomputable def T28b : Code := sndS (sndS T28r)
noncomputable def T28c : Code := fstS T28b
noncomputable def T28d : Code := sndS T28b
noncomputable def T28e : Code := fstS T28d
noncomputable def T28f : Code := sndS T28d
theorem T28_eq : T28 = .seq T28a (.seq (fstS T28r) (.seq T28s (.seq T28c (.seq T28e T28f)))) := by kernel_rfl

set_option maxRecDepth 1000000 in
def Fr28 (m : Nat) (c s t at_ : Int) (u : Nat → Value) : Act := ⟨#[ptr m, .int .u64 c, .int .u64 s, .int .u64 t, .int .i64 at_, u 5, u 6, u 7, u 8, u 9, .nilIface, u 11, u 12, u 13, u 14, u 15, u 16, u 17, u 18, u 19, u 20, u 21, u 22, u 23, u 24, u 25, u 26, u 27, u 28, u 29, u 30, u 31, u 32, u 33, u 34, u 35, u 36, u 37, u 38, u 39, u 40, u 41, u 42, u 43, u 44, u 45, u 46, u 47, u 48, u 49, u 50, u 51, u 52, u 53, u 54, u 55, u 56, u 57, u 58, u 59, u 60, u 61, u 62, u 63, u 64, u 65, u 66, u 67, u 68, u 69, u 70, u 71, u 72, u 73, u 74, u 75, u 76, u 77, u 78, u 79, u 80, u 81, u 82, u 83, u 84, u 85, u 86, u 87, u 88, u 89, u 90, u 91, u 92, u 93, u 94, u 95, u 96, u 97, u 98, u 99, u 100, u 101, u 102, u 103, u 104, u 105, u 106, u 107, u 108, u 109, u 110, u 111, u 112, u 113, u 114, u 115, u 116, u 117, u 118, u 119, u 120, u 121, u 122, u 123, u 124, u 125, u 126, u 127, u 128, u 129, u 130, u 131, u 132, u 133, u 134, u 135, u 136, u 137, u 138, u 139, u 140, u 141, u 142, u 143, u 144, u 145, u 146, u 147, u 148, u 149, u 150, u 151, u 152, u 153, u 154, u 155, u 156, u 157, u 158, u 159, u 160, u 161, u 162, u 163, u 164, u 165, u 166, u 167, u 168, u 169, u 170, u 171, u 172, u 173, u 174, u 175, u 176, u 177, u 178, u 179, u 180, u 181, u 182, u 183, u 184, u 185, u 186, u 187, u 188, u 189, u 190, u 191, u 192, u 193, u 194, u 195, u 196, u 197, u 198, u 199, u 200, u 201, u 202, u 203, u 204], [{ target := Target.fn (Fn.func 46) #[], args := #[ptr m] }]⟩
/-- The frame, whatever its letters hold. -/
def Is28 (m : Nat) (c s t at_ : Int) (a : Act) : Prop := ∃ u, a = Fr28 m c s t at_ u
theorem Is28.mk' {m : Nat} {c s t at_ : Int} (a : Act) (h : a = Fr28 m c s t at_ (fun i => a.tmps.getD i undef)) : Is28 m c s t at_ a := ⟨_, h⟩

def wsD (ds c s at_ : Int) (V : List (Int × Int × Int)) : List (Int × Int × Int) :=
  if s ≤ ds then (match getL s V with | some p => putL s (p.1, at_) V | none => V) else putL s (c, at_) V
def rsD (s t : Int) (R : List (Int × Int)) : List (Int × Int) :=
  if 1 < t ∧ (getL s R).getD 0 < t - 1 then putL s (t - 1) R else R
def mxI (a b : Int) : Int := if a < b then b else a
theorem isNil_map {T k e : TypeId} (ht : Tryd.prog.underlying T = some (.map k e)) (w : World) (r : Option Nat) : (binOp .eql T (.map r) (.map none)).run Tryd.prog w = .ok (.bool r.isNone) w := run_eql_map_nil w _ _ _ r ht
theorem wrap_u64 {x : Int} (h0 : 0 ≤ x) (h1 : x < 18446744073709551616) : IntKind.u64.wrap x = x := by
  have e : IntKind.u64.wrap x = x % 18446744073709551616 := by
    unfold IntKind.wrap
    simp [IntKind.signed, IntKind.bits]
  omega

section
variable {B m n : Nat} {ack dc ds fc fs c s t at_ : Int} {mp mr : Option Nat} {W : List Wt} {R : List (Int × Int)} {w w1 : World} {Q : Exit → Act → World → Prop} {a : Act}

set_option maxRecDepth 1000000 in
set_option maxHeartbeats 4000000 in
theorem del28a (ha : Is28 m c s t at_ a) (H1 : Hid (SE w w1 B m (stc 1 ack dc ds fc fs mp mr) mp mr n W R))
    (HQ : Hid (∀ a' w' b, Is28 m c s t at_ a' → SE w w' B m (stc 1 ack dc ds fc fs (some b) mr) (some b) mr n W R → Q .normal a' w')) : Code.wp Tryd.prog T28a Q a w1 := by
  obtain ⟨u, rfl⟩ := ha
  have q76 := isNil_map (T := 76) Tryd.underlying76
  have hmm := @run_makeMap Tryd.prog
  obtain ⟨c0, c1, c2, c3, c4, c5, c6, c7, c8, c9, c10⟩ := H1.out.1.cells
  have f0 := H1.out.1.frozen
  have lm := H1.out.1.lt
  unfold Fr28
  conv => arg 2; whnf
  cases mp with
  | none =>
    go_wp2_with fail
    exact HQ.out _ _ w1.heap.size (Is28.mk' _ (by kernel_rfl)) (H1.out.newP _)
  | some b =>
    go_wp2_with fail
    exact HQ.out _ _ b (Is28.mk' _ (by kernel_rfl)) H1.out

set_option maxRecDepth 1000000 in
set_option maxHeartbeats 4000000 in
theorem del28s {b : Nat} (ha : Is28 m c s t at_ a) (hn : n < maxLen) (hc : 0 ≤ c ∧ c ≤ 65536) (hs : 0 ≤ s ∧ s ≤ 65536) (hs64 : s < 18446744073709551616) (H2 : Hid (SE w w1 B m (stc 1 ack dc ds fc fs (some b) mr) (some b) mr n W R))
    (HQ : Hid (∀ a' w' W', Is28 m c s t at_ a' → SE w w' B m (stc 1 ack dc ds fc fs (some b) mr) (some b) mr (n + 1) W' R → W'.map val = wsD ds c s at_ (W.map val) → Q .normal a' w')) : Code.wp Tryd.prog T28s Q a w1 := by
  obtain ⟨u, rfl⟩ := ha
  obtain ⟨c0, c1, c2, c3, c4, c5, c6, c7, c8, c9, c10⟩ := H2.out.1.cells
  have f0 := H2.out.1.frozen
  unfold Fr28
  conv => arg 2; whnf
  by_cases hsd : s ≤ ds
  · cases hg : getW s W with
    | none =>
      have hv : (getL s (pendG W)).getD (.pointer none) = .pointer none := by rw [pendG_get, hg]; rfl
      go_wp2_with (first
        | (at_lookup; refine wpList_look_is _ rfl _ _ 76 rfl 29 89 under29 Tryd.underlying76 (.pointer none) (zero89 _) (some b) n (pendG W) rfl H2.out.1.rest.pend s rfl hs.1 hs64 (.pointer none) hv ?_))
      exact HQ.out _ _ W (Is28.mk' _ (by kernel_rfl)) ⟨H2.out.1.mono (Nat.le_succ n), H2.out.2⟩ (by unfold wsD; rw [if_pos hsd, getW_val, hg]; rfl)
    | some e =>
      have hv : (getL s (pendG W)).getD (.pointer none) = ptr e.b := by rw [pendG_get, hg]; rfl
      obtain ⟨hmem, hes⟩ := getW_mem hg
      have hE := H2.out.1.rest.els e hmem
      have g1 : w1.cell? ⟨e.b, 1, none⟩ = some (.int .i64 e.t) := cell_heap hE
      have g2 := frozen_heap hE 1
      go_wp2_with (first
        | (at_lookup; refine wpList_look_is _ rfl _ _ 76 rfl 29 89 under29 Tryd.underlying76 (.pointer none) (zero89 _) (some b) n (pendG W) rfl H2.out.1.rest.pend s rfl hs.1 hs64 (ptr e.b) hv ?_))
      have H3 := H2.out.setEl hmem at_
      refine HQ.out _ _ (retime e at_ W) (Is28.mk' _ (by kernel_rfl)) ⟨H3.1.mono (Nat.le_succ n), H3.2⟩ ?_
      unfold wsD
      rw [if_pos hsd, getW_val, hg, val_retime H2.out.1.rest.sW H2.out.1.rest.nd hmem, hes]
      rfl
  · have M4 : MapAt (w1.alloc (.cells #[.int .u64 c, .int .i64 at_] 91)) Tryd.prog 29 (some b) n (pendG W) := MapAt.kept H2.out.1.rest.pend (World.grownBy_alloc w1 _ none) (by simp)
    go_wp2_with (first
      | (at_mapUpdate; refine wpList_put_at _ rfl _ _ _ 76 rfl 29 89 under29 Tryd.underlying76 b n (pendG W) rfl M4 hn s rfl hs.1 hs64 (ptr w1.heap.size) rfl ?_; intro w4 hm4 hturn; go_frame))
    rw [pendG_put ⟨s, c, at_, w1.heap.size⟩ W] at hm4
    exact HQ.out _ _ (putW ⟨s, c, at_, w1.heap.size⟩ W) (Is28.mk' _ (by kernel_rfl)) (H2.out.addEl ⟨s, c, at_, w1.heap.size⟩ rfl ⟨hs.1, hs.2, hc.1, hc.2⟩ hturn hm4) (by unfold wsD; rw [if_neg (by omega), val_put])

set_option maxRecDepth 1000000 in
set_option maxHeartbeats 4000000 in
theorem del28c (ha : Is28 m c s t at_ a) (H3 : Hid (SE w w1 B m (stc 1 ack dc ds fc fs mp mr) mp mr n W R))
    (HQ : Hid (∀ a' w', Is28 m c s t at_ a' → SE w w' B m (stc 1 ack (mxI dc c) ds fc fs mp mr) mp mr n W R → Q .normal a' w')) : Code.wp Tryd.prog T28c Q a w1 := by
  obtain ⟨u, rfl⟩ := ha
  obtain ⟨c0, c1, c2, c3, c4, c5, c6, c7, c8, c9, c10⟩ := H3.out.1.cells
  have f0 := H3.out.1.frozen
  unfold Fr28
  conv => arg 2; whnf
  by_cases hd : dc < c
  · go_wp2_with fail
    exact HQ.out _ _ (Is28.mk' _ (by kernel_rfl)) (by have := H3.out.set 4 (.int .u64 c); unfold mxI; rw [if_pos hd]; exact this)
  · go_wp2_with fail
    exact HQ.out _ _ (Is28.mk' _ (by kernel_rfl)) (by unfold mxI; rw [if_neg (by omega)]; exact H3.out)

set_option maxRecDepth 1000000 in
set_option maxHeartbeats 4000000 in
theorem del28e (ha : Is28 m c s t at_ a) (H3 : Hid (SE w w1 B m (stc 1 ack dc ds fc fs mp mr) mp mr n W R))
    (HQ : Hid (∀ a' w', Is28 m c s t at_ a' → SE w w' B m (stc 1 ack dc (mxI ds s) fc fs mp mr) mp mr n W R → Q .normal a' w')) : Code.wp Tryd.prog T28e Q a w1 := by
  obtain ⟨u, rfl⟩ := ha
  obtain ⟨c0, c1, c2, c3, c4, c5, c6, c7, c8, c9, c10⟩ := H3.out.1.cells
  have f0 := H3.out.1.frozen
  unfold Fr28
  conv => arg 2; whnf
  by_cases hd : ds < s
  · go_wp2_with fail
    exact HQ.out _ _ (Is28.mk' _ (by kernel_rfl)) (by have := H3.out.set 5 (.int .u64 s); unfold mxI; rw [if_pos hd]; exact this)
  · go_wp2_with fail
    exact HQ.out _ _ (Is28.mk' _ (by kernel_rfl)) (by unfold mxI; rw [if_neg (by omega)]; exact H3.out)

set_option maxRecDepth 1000000 in
set_option maxHeartbeats 4000000 in
theorem del28f (ha : Is28 m c s t at_ a) (hR : R.length < n) (hRm : R.length < maxLen) (hs : 0 ≤ s ∧ s ≤ 65536) (hs64 : s < 18446744073709551616) (hwr : IntKind.u64.wrap (t - 1) = t - 1) (H5 : Hid (SE w w1 B m (stc 1 ack dc ds fc fs mp mr) mp mr n W R))
    (HQ : Hid (∀ a' w' mr', Is28 m c s t at_ a' → SE w w' B m (stc 1 ack dc ds fc fs mp mr') mp mr' n W (rsD s t R) → Q .normal a' w')) : Code.wp Tryd.prog T28f Q a w1 := by
  obtain ⟨u, rfl⟩ := ha
  have q77 := isNil_map (T := 77) Tryd.underlying77
  have hmm := @run_makeMap Tryd.prog
  obtain ⟨c0, c1, c2, c3, c4, c5, c6, c7, c8, c9, c10⟩ := H5.out.1.cells
  have f0 := H5.out.1.frozen
  have lm := H5.out.1.lt
  have hv : (getL s (redG R)).getD (.int .u64 0) = .int .u64 ((getL s R).getD 0) := by rw [redG_get]; cases getL s R <;> rfl
  unfold Fr28
  conv => arg 2; whnf
  by_cases h1t : 1 < t
  · cases mr with
    | none =>
      have hR0 : R = [] := redG_nil H5.out.1.rest.red
      subst hR0
      have H6 := hid (H5.out.newR (.map (some w1.heap.size)))
      have hlt : (0 : Int) < t - 1 := by clear hwr; omega
      go_wp2_with (first
        | (at_lookup; refine wpList_look_is _ rfl _ _ 77 rfl 29 29 under29 Tryd.underlying77 (.int .u64 0) (zero29 _) (some w1.heap.size) n (redG []) rfl H6.out.1.rest.red s rfl hs.1 hs64 (.int .u64 0) rfl ?_)
        | (at_mapUpdate; refine wpList_put_at _ rfl _ _ _ 77 rfl 29 29 under29 Tryd.underlying77 w1.heap.size 0 (redG []) rfl (MapAt.tight H6.out.1.rest.red) hRm s rfl hs.1 hs64 (.int .u64 (t - 1)) rfl ?_; intro w4 hm4 hturn; go_frame))
      rw [redG_put] at hm4
      refine HQ.out _ _ (some w1.heap.size) (Is28.mk' _ (by kernel_rfl)) ?_
      unfold rsD
      rw [if_pos ⟨h1t, hlt⟩]
      refine H6.out.turnR hturn (Nat.le_refl _) (MapAt.mono hm4 hR) (Srt.put H6.out.1.rest.sR) (fun p hp => ?_)
      rcases mem_putL.1 hp with rfl | ⟨hp, _⟩
      · exact hs
      · cases hp
    | some b2 =>
      by_cases hlt : (getL s R).getD 0 < t - 1
      · go_wp2_with (first
          | (at_lookup; refine wpList_look_is _ rfl _ _ 77 rfl 29 29 under29 Tryd.underlying77 (.int .u64 0) (zero29 _) (some b2) n (redG R) rfl H5.out.1.rest.red s rfl hs.1 hs64 (.int .u64 ((getL s R).getD 0)) hv ?_)
          | (at_mapUpdate; refine wpList_put_at _ rfl _ _ _ 77 rfl 29 29 under29 Tryd.underlying77 b2 R.length (redG R) rfl (by have := MapAt.tight H5.out.1.rest.red; rw [redG_len] at this; exact this) hRm s rfl hs.1 hs64 (.int .u64 (t - 1)) rfl ?_; intro w4 hm4 hturn; go_frame))
        rw [redG_put] at hm4
        refine HQ.out _ _ (some b2) (Is28.mk' _ (by kernel_rfl)) ?_
        unfold rsD
        rw [if_pos ⟨h1t, hlt⟩]
        refine H5.out.turnR hturn (Nat.le_refl _) (MapAt.mono hm4 hR) (Srt.put H5.out.1.rest.sR) (fun p hp => ?_)
        rcases mem_putL.1 hp with rfl | ⟨hp, _⟩
        · exact hs
        · exact H5.out.1.rest.kR p hp
      · go_wp2_with (first
          | (at_lookup; refine wpList_look_is _ rfl _ _ 77 rfl 29 29 under29 Tryd.underlying77 (.int .u64 0) (zero29 _) (some b2) n (redG R) rfl H5.out.1.rest.red s rfl hs.1 hs64 (.int .u64 ((getL s R).getD 0)) hv ?_))
        refine HQ.out _ _ (some b2) (Is28.mk' _ (by kernel_rfl)) ?_
        unfold rsD
        rw [if_neg (fun hx => absurd hx.2 (Int.not_lt.2 hlt))]
        exact H5.out
  · go_wp2_with fail
    refine HQ.out _ _ mr (Is28.mk' _ (by kernel_rfl)) ?_
    unfold rsD
    rw [if_neg (fun hx => absurd hx.1 (Int.not_lt.2 h1t))]
    exact H5.out
end
end Go.Proofs.YtpbhblppehkifaaDoor

namespace Go.Proofs.YtpbhblppehkifaaDoor
open Go Go.RowKit Go.MuLone Con

/-- A delivery where messages are acknowledged. -/
def Del1 (w w' : World) (B m n : Nat) (ack dc ds fc fs c s t at_ : Int) (mp mr : Option Nat) (W : List Wt) (R : List (Int × Int)) : Prop :=
  if c ≤ fc then Eff B w w' ∧ St w' B m (stc 0 ack dc ds fc fs mp mr) mp mr n W R
  else ∃ mp' mr' W', SE w w' B m (stc 0 ack (mxI dc c) (mxI ds s) fc fs mp' mr') mp' mr' (n + 1) W' (rsD s t R) ∧ W'.map val = wsD ds c s at_ (W.map val)

set_option maxRecDepth 1000000 in
theorem del28r {m : Nat} {c s t at_ : Int} {a : Act} {w1 : World} {Q : Exit → Act → World → Prop} (ha : Is28 m c s t at_ a) (HQ : Hid (∀ a', Is28 m c s t at_ a' → Q .normal a' w1)) : Code.wp Tryd.prog (fstS T28r) Q a w1 := by
  obtain ⟨u, rfl⟩ := ha
  unfold Fr28
  conv => arg 2; whnf
  go_wp2_with fail
  exact HQ.out _ (Is28.mk' _ (by kernel_rfl))

set_option maxRecDepth 100000 in
set_option maxHeartbeats 4000000 in
theorem deliver1_st (B m n : Nat) (ack dc ds fc fs c s t at_ : Int) (mp mr : Option Nat) (W : List Wt) (R : List (Int × Int)) (w : World) (hack : ack ≠ 0) (hn : n < 100000) (hc : 0 ≤ c ∧ c ≤ 65536) (hs : 0 ≤ s ∧ s ≤ 65536) (ht : 1 ≤ t ∧ t ≤ 100000) (h : St w B m (stc 0 ack dc ds fc fs mp mr) mp mr n W R) :
    Calls Tryd.prog 28 #[ptr m, .int .u64 c, .int .u64 s, .int .u64 t, .int .i64 at_] w fun e w' => e = .returned .nilIface ∧ Del1 w w' B m n ack dc ds fc fs c s t at_ mp mr W R := by
  have hs64 : s < 18446744073709551616 := by omega
  have hRn : R.length ≤ n := by
    have := h.rest.red.len_le
    rwa [redG_len] at this
  have hRm : R.length < maxLen := by unfold maxLen; omega
  have hnm : n < maxLen := by unfold maxLen; omega
  have hwr := hid (wrap_u64 (x := t - 1) (by omega) (by omega))
  have hack' : (ack == 0) = false := by simpa using hack
  go_enter_defers Tryd.func28, Tryd.ntmps28
  go_wp2_with fail
  refine (lockS h).mono ?_
  rintro e w1 ⟨rfl, h1, e1⟩
  obtain ⟨c0, c1, c2, c3, c4, c5, c6, c7, c8, c9, c10⟩ := h1.cells
  have f0 := h1.frozen
  have lm := h1.lt
  go_upto_region 3 with fail
  go_cut [29] from 13 (fun v wx => v = .bool false ∧ w1 = wx)
  case first =>
    by_cases h1 : t = 1
    · subst h1
      go_wp2_with fail
      go_meet
      case rel => exact ⟨rfl, rfl⟩
    · have ht' : (t == 1) = false := by simpa using h1
      go_wp2_with fail
      go_meet
      case rel => exact ⟨rfl, rfl⟩
  case rest =>
  obtain ⟨rfl, rfl⟩ := hcut
  by_cases hcf : c ≤ fc
  · go_wp2_with fail
    refine leaves_cons (f := 46) (args := #[ptr m]) (by simp) (by simp [go_sem]) ?_
    refine (unlockD .returning h1).mono ?_
    rintro e u' w'' ⟨rfl, rfl, h3, e3⟩
    exact ⟨_, results_tmp rfl _ _ _, rfl, by unfold Del1; rw [if_pos hcf]; exact ⟨e1.trans e3, h3⟩⟩
  · have H1 := hid (SE.of h1 e1)
    go_upto_if 44 with fail
    refine wp_cond (t := true) (by simp [Act.eval, hack]) ?_
    rw [if_pos rfl]
    change Code.wp Tryd.prog T28 _ _ _
    rw [T28_eq]
    refine wp_seq ?_
    refine del28a (c := c) (s := s) (t := t) (at_ := at_) (Is28.mk' _ (by kernel_rfl)) H1 (hid fun a2 w2 b ha2 H2 => ?_)
    refine wp_seq ?_
    refine del28r ha2 (hid fun a3 ha3 => ?_)
    refine wp_seq ?_
    refine del28s ha3 hnm hc hs hs64 (hid H2) (hid fun a4 w4 W' ha4 H4 hv4 => ?_)
    refine wp_seq ?_
    refine del28c ha4 (hid H4) (hid fun a5 w5 ha5 H5 => ?_)
    refine wp_seq ?_
    refine del28e ha5 (hid H5) (hid fun a6 w6 ha6 H6 => ?_)
    refine del28f ha6 (Nat.lt_succ_of_le hRn) hRm hs hs64 hwr.out (hid H6) (hid fun a7 w7 mr' ha7 H7 => ?_)
    obtain ⟨u7, rfl⟩ := ha7
    unfold Fr28
    go_wp2_with fail
    refine leaves_cons (f := 46) (args := #[ptr m]) (by simp) (by simp [go_sem]) ?_
    refine (unlockD .returning H7.1).mono ?_
    rintro e u' w'' ⟨rfl, rfl, h3, e3⟩
    exact ⟨_, results_tmp rfl _ _ _, rfl, by unfold Del1; rw [if_neg (by omega)]; exact ⟨some b, mr', W', ⟨h3, H7.2.trans e3⟩, hv4⟩⟩
end Go.Proofs.YtpbhblppehkifaaDoor
