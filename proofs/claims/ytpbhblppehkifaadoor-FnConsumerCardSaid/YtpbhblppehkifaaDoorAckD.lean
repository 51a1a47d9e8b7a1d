/- An acknowledgement: none is kept, below the floor, of a message that does not wait. -/
import Derived.Test.YtpbhblppehkifaaDoorUpd
import Derived.Test.YtpbhblppehkifaaDoorStoF
namespace Go.Proofs.YtpbhblppehkifaaDoor
open Go Go.RowKit Go.MuLone Con

set_option maxRecDepth 100000 in
theorem ackNone_st (B m n : Nat) (dc ds fc fs c s : Int) (mp mr : Option Nat) (W : List Wt) (R : List (Int × Int)) (w : World) (hS : SurC w) (hB : 4 ≤ B) (h : St w B m (stc 0 0 dc ds fc fs mp mr) mp mr n W R) :
    Calls Tryd.prog 29 #[ptr m, .int .u64 c, .int .u64 s] w fun e w' => ∃ v, e = .returned v ∧ ErrV v false ∧ St w' B m (stc 0 0 dc ds fc fs mp mr) mp mr n W R ∧ Eff B w w' := by
  go_enter_defers Tryd.func29, Tryd.ntmps29
  go_wp2_with fail
  refine (lockS h).mono ?_
  rintro e w1 ⟨rfl, h1, e1⟩
  have S1 := hS.below hB e1.below
  obtain ⟨c0, c1, c2, c3, c4, c5, c6, c7, c8, c9, c10⟩ := h1.cells
  obtain ⟨t0, u0, g0⟩ := S1.e0
  go_wp2_with fail
  refine leaves_cons (f := 46) (args := #[ptr m]) (by simp) (by simp [go_sem]) ?_
  refine (unlockD .returning h1).mono ?_
  rintro e u' w'' ⟨rfl, rfl, h3, e3⟩
  exact ⟨_, results_tmp rfl _ _ _, _, rfl, Or.inr ⟨⟨_, _, rfl⟩, rfl⟩, h3, e1.trans e3⟩

theorem look_run {w : World} {t : TypeId} {k e : TypeId} (hk : Tryd.prog.underlying k = some (.int .u64)) (ht : Tryd.prog.underlying t = some (.map k e)) (z : Value) (hz : (zeroValue e).run Tryd.prog w = .ok z w)
    {mp : Option Nat} {n : Nat} {G : List (Int × Value)} (h : MapAt w Tryd.prog k mp n G) (key : Int) (h0 : 0 ≤ key) (h1 : key < 18446744073709551616) (v : Value) (hv : (getL key G).getD z = v) :
    (Instr.lookup t (.map mp) (.int .u64 key) false).run Tryd.prog w = .ok v w := by
  have hkey := Maps.keyOf_int_mk hk (wf_key h0 h1)
  subst hv
  cases mp with
  | none =>
    have hG : G = [] := h
    subst hG
    exact Maps.look_nil (w := w) false (Maps.int_keyed hk) ht hz hkey
  | some b =>
    obtain ⟨v, ps, hrun, hv⟩ := World.ownsMap.lookup h (Maps.int_keyed hk) ht hz (zd := .held z) (zp := []) rfl hkey
    rw [dat_at] at hv
    simp only [rv, Option.some.injEq, Prod.mk.injEq, DataW.held.injEq] at hv
    obtain ⟨rfl, _⟩ := hv
    exact hrun
theorem SE.delR {B m n : Nat} {mp mr : Option Nat} {W : List Wt} {R : List (Int × Int)} {w0 w w' : World} {cs : Array Value} {s : Int} (h : SE w0 w B m cs mp mr n W R) (hm : MapAt w' Tryd.prog 29 mr n (delL s (redG R))) (ht : Turn w w' mr) : SE w0 w' B m cs mp mr n W (delL s R) := by
  rw [redG_del] at hm
  exact h.turnR_sub ht hm List.filter_sublist

set_option maxRecDepth 100000 in
theorem ackLow_st (B m n : Nat) (ack dc ds fc fs c s : Int) (mp mr : Option Nat) (W : List Wt) (R : List (Int × Int)) (w : World) (hack : ack ≠ 0) (hs : 0 ≤ s ∧ s ≤ 65536) (hc : c ≤ fc) (h : St w B m (stc 0 ack dc ds fc fs mp mr) mp mr n W R) :
    Calls Tryd.prog 29 #[ptr m, .int .u64 c, .int .u64 s] w fun e w' => e = .returned .nilIface ∧ St w' B m (stc 0 ack dc ds fc fs mp mr) mp mr n W (delL s R) ∧ Eff B w w' := by
  have hack' : (ack == 0) = false := by simpa using hack
  go_enter_defers Tryd.func29, Tryd.ntmps29
  go_wp2_with fail
  refine (lockS h).mono ?_
  rintro e w1 ⟨rfl, h1, e1⟩
  obtain ⟨c0, c1, c2, c3, c4, c5, c6, c7, c8, c9, c10⟩ := h1.cells
  go_upto_region 6 with (first
    | (at_delete; refine wpList_del_at _ rfl _ _ 77 29 rfl 29 under29 Tryd.underlying77 mr n (redG R) rfl h1.rest.red s rfl hs.1 (by omega) ?_; intro w2 hm2 ht2; go_frame))
  have H2 := (SE.of h1 e1).delR hm2 ht2
  obtain ⟨d0, d1, d2, d3, d4, d5, d6, d7, d8, d9, d10⟩ := H2.1.cells
  clear c0 c1 c2 c3 c4 c5 c6 c7 c8 c9 c10
  go_wp2_with fail
  refine leaves_cons (f := 46) (args := #[ptr m]) (by simp) (by simp [go_sem]) ?_
  refine (unlockD .returning H2.1).mono ?_
  rintro e u' w'' ⟨rfl, rfl, h3, e3⟩
  exact ⟨_, results_tmp rfl _ _ _, rfl, h3, H2.2.trans e3⟩

set_option maxRecDepth 100000 in
theorem ackMiss_st (B m n : Nat) (ack dc ds fc fs c s : Int) (mp mr : Option Nat) (W : List Wt) (R : List (Int × Int)) (w : World) (hS : SurC w) (hB : 4 ≤ B) (hack : ack ≠ 0) (hs : 0 ≤ s ∧ s ≤ 65536) (hc : ¬ c ≤ fc) (hw : getW s W = none) (h : St w B m (stc 0 ack dc ds fc fs mp mr) mp mr n W R) :
    Calls Tryd.prog 29 #[ptr m, .int .u64 c, .int .u64 s] w fun e w' => ∃ v, e = .returned v ∧ ErrV v false ∧ St w' B m (stc 0 ack dc ds fc fs mp mr) mp mr n W (delL s R) ∧ Eff B w w' := by
  have hack' : (ack == 0) = false := by simpa using hack
  go_enter_defers Tryd.func29, Tryd.ntmps29
  go_wp2_with fail
  refine (lockS h).mono ?_
  rintro e w1 ⟨rfl, h1, e1⟩
  obtain ⟨c0, c1, c2, c3, c4, c5, c6, c7, c8, c9, c10⟩ := h1.cells
  go_upto_region 6 with (first
    | (at_delete; refine wpList_del_at _ rfl _ _ 77 29 rfl 29 under29 Tryd.underlying77 mr n (redG R) rfl h1.rest.red s rfl hs.1 (by omega) ?_; intro w2 hm2 ht2; go_frame))
  have H2 := (SE.of h1 e1).delR hm2 ht2
  have S1 := hS.below hB H2.2.below
  obtain ⟨d0, d1, d2, d3, d4, d5, d6, d7, d8, d9, d10⟩ := H2.1.cells
  clear c0 c1 c2 c3 c4 c5 c6 c7 c8 c9 c10
  obtain ⟨t0, u0, g0⟩ := S1.e1
  have hv : (getL s (pendG W)).getD (.pointer none) = .pointer none := by rw [pendG_get, hw]; rfl
  rcases len_case W with rfl | hl
  · go_wp2_with (first
      | (at_len; refine wpList_len_at _ rfl _ 76 rfl 29 89 Tryd.underlying76 mp n (pendG []) rfl H2.1.rest.pend ?_))
    refine leaves_cons (f := 46) (args := #[ptr m]) (by simp) (by simp [go_sem]) ?_
    refine (unlockD .returning H2.1).mono ?_
    rintro e u' w'' ⟨rfl, rfl, h3, e3⟩
    exact ⟨_, results_tmp rfl _ _ _, _, rfl, Or.inr ⟨⟨_, _, rfl⟩, rfl⟩, h3, H2.2.trans e3⟩
  · have hrun := look_run (t := 76) under29 Tryd.underlying76 (.pointer none) (zero89 w2) H2.1.rest.pend s hs.1 (by omega) (.pointer none) hv
    have hl' : pendG W ≠ [] := fun hx => by rw [pendG_nil hx] at hl; simp at hl
    go_wp2_with (first
      | (at_len; refine wpList_len_at _ rfl _ 76 rfl 29 89 Tryd.underlying76 mp n (pendG W) rfl H2.1.rest.pend ?_))
    refine leaves_cons (f := 46) (args := #[ptr m]) (by simp) (by simp [go_sem]) ?_
    refine (unlockD .returning H2.1).mono ?_
    rintro e u' w'' ⟨rfl, rfl, h3, e3⟩
    exact ⟨_, results_tmp rfl _ _ _, _, rfl, Or.inr ⟨⟨_, _, rfl⟩, rfl⟩, h3, H2.2.trans e3⟩
end Go.Proofs.YtpbhblppehkifaaDoor

namespace Go.Proofs.YtpbhblppehkifaaDoor
open Go Go.RowKit Go.MuLone Con
set_option linter.unusedVariables false

noncomputable def B29 : Code := Tryd.f29.body.getD .skip
noncomputable def H29 : Code := sndS (sndS (sndS (sndS (sndS (sndS (sndS B29))))))
noncomputable def T29a : Code := thenC (sndS (fstS H29))
noncomputable def T29l : Code := fstS (sndS (sndS (sndS T29a)))
noncomputable def T29x : Code := fstS (sndS H29)
noncomputable def T29y : Code := fstS (sndS (sndS H29))
theorem H29_eq : H29 = .seq (fstS H29) (.seq T29x (.seq T29y (.seq (fstS (sndS (sndS (sndS H29)))) .ret))) := by kernel_rfl

set_option maxRecDepth 1000000 in
def Fr29 (m : Nat) (c s : Int) (v7 : Value) (u : Nat → Value) : Act := ⟨#[ptr m, .int .u64 c, .int .u64 s, u 3, u 4, u 5, .nilIface, v7, u 8, u 9, u 10, u 11, u 12, u 13, u 14, u 15, u 16, u 17, u 18, u 19, u 20, u 21, u 22, u 23, u 24, u 25, u 26, u 27, u 28, u 29, u 30, u 31, u 32, u 33, u 34, u 35, u 36, u 37, u 38, u 39, u 40, u 41, u 42, u 43, u 44, u 45, u 46, u 47, u 48, u 49, u 50, u 51, u 52, u 53, u 54, u 55, u 56, u 57, u 58, u 59, u 60, u 61, u 62, u 63, u 64, u 65, u 66, u 67, u 68, u 69, u 70, u 71, u 72, u 73, u 74, u 75, u 76, u 77, u 78, u 79, u 80, u 81, u 82, u 83, u 84, u 85, u 86, u 87, u 88, u 89, u 90, u 91, u 92, u 93, u 94, u 95, u 96, u 97, u 98, u 99, u 100, u 101, u 102, u 103, u 104, u 105, u 106, u 107, u 108, u 109, u 110, u 111, u 112, u 113, u 114, u 115, u 116, u 117, u 118, u 119, u 120, u 121, u 122, u 123, u 124, u 125, u 126, u 127, u 128, u 129, u 130, u 131, u 132, u 133, u 134, u 135, u 136, u 137, u 138, u 139, u 140, u 141, u 142, u 143, u 144, u 145, u 146, u 147, u 148, u 149, u 150, u 151, u 152, u 153, u 154, u 155, u 156, u 157, u 158, u 159, u 160, u 161, u 162, u 163, u 164, u 165, u 166, u 167, u 168, u 169, u 170, u 171, u 172, u 173, u 174, u 175, u 176, u 177, u 178, u 179, u 180, u 181, u 182, u 183, u 184, u 185, u 186, u 187, u 188, u 189, u 190, u 191, u 192, u 193, u 194, u 195, u 196, u 197, u 198, u 199, u 200, u 201, u 202, u 203, u 204, u 205, u 206, u 207, u 208, u 209, u 210, u 211, u 212, u 213, u 214, u 215, u 216, u 217, u 218, u 219, u 220, u 221, u 222, u 223, u 224, u 225, u 226, u 227, u 228, u 229, u 230, u 231, u 232, u 233, u 234, u 235, u 236, u 237, u 238, u 239, u 240, u 241, u 242, u 243, u 244, u 245, u 246, u 247, u 248, u 249, u 250, u 251, u 252, u 253, u 254, u 255, u 256, u 257, u 258, u 259, u 260, u 261, u 262, u 263, u 264, u 265, u 266, u 267, u 268, u 269, u 270, u 271, u 272, u 273, u 274, u 275, u 276, u 277, u 278, u 279, u 280, u 281, u 282, u 283, u 284, u 285, u 286, u 287, u 288, u 289, u 290, u 291, u 292, u 293, u 294], [{ target := Target.fn (Fn.func 46) #[], args := #[ptr m] }]⟩
/-- The frame, whatever its letters hold. -/
def Is29 (m : Nat) (c s : Int) (v7 : Value) (a : Act) : Prop := ∃ u, a = Fr29 m c s v7 u
theorem Is29.mk' {m : Nat} {c s : Int} {v7 : Value} (a : Act) (h : a = Fr29 m c s v7 (fun i => a.tmps.getD i undef)) : Is29 m c s v7 a := ⟨_, h⟩

def own1 (c : Int) (e : Wt) : Int := if e.c < c ∧ 0 < e.c then e.c else c
theorem SE.delP {B m n : Nat} {mp mr : Option Nat} {W : List Wt} {R : List (Int × Int)} {w0 w w' : World} {cs : Array Value} {s : Int} (h : SE w0 w B m cs mp mr n W R) (hm : MapAt w' Tryd.prog 29 mp n (delL s (pendG W))) (ht : Turn w w' mp) : SE w0 w' B m cs mp mr n (delW s W) R := by
  rw [pendG_del] at hm
  exact h.turnP_sub ht hm List.filter_sublist

section
variable {B m n : Nat} {ack dc ds fc fs c s : Int} {mp mr : Option Nat} {W : List Wt} {R : List (Int × Int)} {w w1 : World} {Q : Exit → Act → World → Prop} {a : Act} {v7 : Value}

set_option maxRecDepth 1000000 in
set_option maxHeartbeats 4000000 in
theorem ack29x {e : Wt} (ha : Is29 m c s v7 a) (hs : 0 ≤ s) (hs64 : s < 18446744073709551616) (hw : getW s W = some e) (H2 : Hid (SE w w1 B m (stc 1 ack dc ds fc fs mp mr) mp mr n W R))
    (HQ : Hid (∀ a' w', Is29 m (own1 c e) s v7 a' → SE w w' B m (stc 1 ack dc ds fc fs mp mr) mp mr n (delW s W) R → Q .normal a' w')) : Code.wp Tryd.prog T29x Q a w1 := by
  obtain ⟨u, rfl⟩ := ha
  obtain ⟨d0, d1, d2, d3, d4, d5, d6, d7, d8, d9, d10⟩ := H2.out.1.cells
  have hv : (getL s (pendG W)).getD (.pointer none) = ptr e.b := by rw [pendG_get, hw]; rfl
  have hb : (getL s (pendG W)).isSome = true := by rw [pendG_get, hw]; rfl
  obtain ⟨hmem, hes⟩ := getW_mem hw
  have hE := H2.out.1.rest.els e hmem
  have HC : Hid (∀ w3, Turn w1 w3 mp → w3.cell? ⟨e.b, 0, none⟩ = some (.int .u64 e.c)) := hid fun w3 ht => cell_heap (ht.cells hE)
  unfold Fr29
  conv => arg 2; whnf
  by_cases h1 : e.c < c
  · by_cases h2 : 0 < e.c
    · go_wp2_with (first
        | (at_lookup; refine wpList_look_ok_is _ rfl _ _ 76 rfl 29 89 under29 Tryd.underlying76 (.pointer none) (zero89 _) mp n (pendG W) rfl H2.out.1.rest.pend s rfl hs hs64 (ptr e.b) true hv hb ?_)
        | (at_delete; refine wpList_del_at _ rfl _ _ 76 29 rfl 89 under29 Tryd.underlying76 mp n (pendG W) rfl H2.out.1.rest.pend s rfl hs hs64 ?_; intro w3 hm3 ht3; have g0 := HC.out _ ht3; have H3 := hid (H2.out.delP hm3 ht3); clear hm3 ht3; go_frame))
      have hq := HQ.out
      unfold own1 at hq
      rw [if_pos ⟨h1, h2⟩] at hq
      exact hq _ _ (Is29.mk' _ (by kernel_rfl)) H3.out
    · go_wp2_with (first
        | (at_lookup; refine wpList_look_ok_is _ rfl _ _ 76 rfl 29 89 under29 Tryd.underlying76 (.pointer none) (zero89 _) mp n (pendG W) rfl H2.out.1.rest.pend s rfl hs hs64 (ptr e.b) true hv hb ?_)
        | (at_delete; refine wpList_del_at _ rfl _ _ 76 29 rfl 89 under29 Tryd.underlying76 mp n (pendG W) rfl H2.out.1.rest.pend s rfl hs hs64 ?_; intro w3 hm3 ht3; have g0 := HC.out _ ht3; have H3 := hid (H2.out.delP hm3 ht3); clear hm3 ht3; go_frame))
      have hq := HQ.out
      unfold own1 at hq
      rw [if_neg (by omega)] at hq
      exact hq _ _ (Is29.mk' _ (by kernel_rfl)) H3.out
  · go_wp2_with (first
      | (at_lookup; refine wpList_look_ok_is _ rfl _ _ 76 rfl 29 89 under29 Tryd.underlying76 (.pointer none) (zero89 _) mp n (pendG W) rfl H2.out.1.rest.pend s rfl hs hs64 (ptr e.b) true hv hb ?_)
      | (at_delete; refine wpList_del_at _ rfl _ _ 76 29 rfl 89 under29 Tryd.underlying76 mp n (pendG W) rfl H2.out.1.rest.pend s rfl hs hs64 ?_; intro w3 hm3 ht3; have g0 := HC.out _ ht3; have H3 := hid (H2.out.delP hm3 ht3); clear hm3 ht3; go_frame))
    have hq := HQ.out
    unfold own1 at hq
    rw [if_neg (by omega)] at hq
    exact hq _ _ (Is29.mk' _ (by kernel_rfl)) H3.out
end

theorem getW_none {k : Int} {W : List Wt} (h : getW k W = none) : ∀ x ∈ W, x.s ≠ k := by
  intro x hx e
  have := List.find?_eq_none.1 h x hx
  simp [e] at this
theorem no_len {W : List Wt} (h : 0 < W.length) (h2 : (((pendG W).length : Int) == 0) = true) : False := by
  rw [pendG_len] at h2
  have : (W.length : Int) = 0 := by simpa using h2
  omega
/-- The floor behind the acknowledgement of one message, of those that wait still. -/
def FlR (dc ds fc fs c s : Int) (W : List Wt) (fc' fs' : Int) : Prop :=
  (W = [] ∧ fc' = dc ∧ fs' = ds) ∨ (W ≠ [] ∧ c ≠ fc + 1 ∧ fc' = fc ∧ fs' = fs) ∨
    (W ≠ [] ∧ c = fc + 1 ∧ (((dc ≤ c ∨ ∀ x ∈ W, ¬ (s < x.s ∧ x.s ≤ ds)) ∧ fc' = c ∧ fs' = s) ∨
      ∃ x ∈ W, s < x.s ∧ x.s ≤ ds ∧ (∀ y ∈ W, ¬ (s < y.s ∧ y.s < x.s)) ∧ fc' = (if 0 < x.c then x.c - 1 else c) ∧ fs' = (if 0 < x.c then x.s - 1 else s)))

section
variable {B m n : Nat} {ack dc ds fc fs c s : Int} {mp mr : Option Nat} {W : List Wt} {R : List (Int × Int)} {w w1 : World} {Q : Exit → Act → World → Prop} {a : Act} {v7 : Value}
set_option maxRecDepth 1000000 in
set_option maxHeartbeats 8000000 in
theorem ack29y (ha : Is29 m c s v7 a) (hc : 0 ≤ c ∧ c ≤ 65536) (hs : 0 ≤ s ∧ s ≤ 65536) (hfc : 0 ≤ fc ∧ fc ≤ 65536) (hds : 0 ≤ ds ∧ ds ≤ 65536) (H2 : Hid (SE w w1 B m (stc 1 ack dc ds fc fs mp mr) mp mr n W R))
    (HQ : Hid (∀ a' w' fc' fs', Is29 m c s v7 a' → SE w w' B m (stc 1 ack dc ds fc' fs' mp mr) mp mr n W R → FlR dc ds fc fs c s W fc' fs' → Q .normal a' w')) : Code.wp Tryd.prog T29y Q a w1 := by
  obtain ⟨u, rfl⟩ := ha
  obtain ⟨d0, d1, d2, d3, d4, d5, d6, d7, d8, d9, d10⟩ := H2.out.1.cells
  have f0 := H2.out.1.frozen
  have HDS := hid hds
  unfold Fr29
  conv => arg 2; whnf
  rcases len_case W with rfl | hl
  · go_wp2_with (first
      | (at_len; refine wpList_len_at _ rfl _ 76 rfl 29 89 Tryd.underlying76 mp n (pendG []) rfl H2.out.1.rest.pend ?_))
    exact HQ.out _ _ dc ds (Is29.mk' _ (by kernel_rfl)) ((H2.out.set 6 (.int .u64 dc)).set 7 (.int .u64 ds)) (Or.inl ⟨rfl, rfl, rfl⟩)
  · have hl' : pendG W ≠ [] := fun hx => by rw [pendG_nil hx] at hl; simp at hl
    have hne : Hid (W ≠ []) := hid fun hx => by rw [hx] at hl; simp at hl
    have HL := hid hl
    clear hl
    have hwf : IntKind.u64.wrap (fc + 1) = fc + 1 := wrap_u64 (by omega) (by omega)
    by_cases hcf : c = fc + 1
    · have HCF := hid hcf
      have hwf' : IntKind.u64.wrap (fc + 1) = c := hwf.trans hcf.symm
      clear hwf
      by_cases hcd : c < dc
      · have hws : IntKind.u64.wrap (s + 1) = s + 1 := wrap_u64 (by omega) (by omega)
        have hs1 : 0 ≤ s + 1 ∧ s + 1 ≤ 65537 := by clear hws hwf'; omega
        clear hcf
        go_wp2_with (first
          | (at_len; refine wpList_len_at _ rfl _ 76 rfl 29 89 Tryd.underlying76 mp n (pendG W) rfl H2.out.1.rest.pend ?_))
        any_goals (exfalso; refine no_len HL.out ?_; assumption)
        have H3 := hid ((H2.out.set 6 (.int .u64 c)).set 7 (.int .u64 s))
        have hds5 := HDS
        rename ((((pendG W).length : Int) == 0) = false) => hz
        clear hz
        have HCD := hid hcd
        have HA := hid (And.intro hc (And.intro hs (And.intro hfc (And.intro hds hs1))))
        clear hwf' d0 d1 d2 d3 d4 d5 d6 d7 d8 d9 d10 f0 H2 hws hcd hc hfc hds
        generalize (w1.setCell { block := m, off := 6 } (Value.int IntKind.u64 c)).setCell { block := m, off := 7 } (Value.int IntKind.u64 s) = w2 at *
        go_loopg [12] (65537 - (s + 1)).toNat (fun gk v wr => ∃ ss : Int, v = .int .u64 ss ∧ Hid (s + 1 ≤ ss ∧ ss ≤ 65537 ∧ gk = (65537 - ss).toNat) ∧ Hid (∀ x ∈ W, ¬ (s < x.s ∧ x.s < ss)) ∧ w2 = wr)
        case atStart => exact ⟨s + 1, rfl, hid ⟨Int.le_refl _, hs1.2, by omega⟩, hid fun x _ hh => by omega, rfl⟩
        case round =>
          obtain ⟨ss, rfl, hss, hno, rfl⟩ := hrel
          obtain ⟨d0, d1, d2, d3, d4, d5, d6, d7, d8, d9, d10⟩ := H3.out.1.cells
          have f0 := H3.out.1.frozen
          have hss0 : 0 ≤ ss := by have := hss.out; omega
          have hss64 : ss < 18446744073709551616 := by have := hss.out; omega
          by_cases hle : ss ≤ ds
          · cases hg : getW ss W with
            | none =>
              have hv : (getL ss (pendG W)).getD (.pointer none) = .pointer none := by rw [pendG_get, hg]; rfl
              have hb : (getL ss (pendG W)).isSome = false := by rw [pendG_get, hg]; rfl
              have hwn : IntKind.u64.wrap (ss + 1) = ss + 1 := wrap_u64 (by omega) (by have := hss.out; omega)
              have hnext : s + 1 ≤ ss + 1 ∧ ss + 1 ≤ 65537 ∧ (65537 - (ss + 1)).toNat < (65537 - ss).toNat := by
                have := hss.out
                have := HDS.out
                clear hwn
                omega
              have HN := hid hnext
              clear hnext
              go_wp2_with (first
                | (at_lookup; refine wpList_look_ok_is _ rfl _ _ 76 rfl 29 89 under29 Tryd.underlying76 (.pointer none) (zero89 _) mp n (pendG W) rfl H3.out.1.rest.pend ss rfl hss0 hss64 (.pointer none) false hv hb ?_))
              go_roundg (65537 - (ss + 1)).toNat
              case measure => rw [hss.out.2.2]; exact HN.out.2.2
              case rel =>
                refine ⟨ss + 1, rfl, hid ⟨HN.out.1, HN.out.2.1, rfl⟩, hid fun x hx hh => ?_, rfl⟩
                by_cases he : x.s = ss
                · exact getW_none hg x hx he
                · exact hno.out x hx ⟨hh.1, by clear hwn; omega⟩
            | some e =>
              have hv : (getL ss (pendG W)).getD (.pointer none) = ptr e.b := by rw [pendG_get, hg]; rfl
              have hb : (getL ss (pendG W)).isSome = true := by rw [pendG_get, hg]; rfl
              obtain ⟨hmem, hes⟩ := getW_mem hg
              have hE := H3.out.1.rest.els e hmem
              have hk := H3.out.1.rest.kW e hmem
              have g0 : w2.cell? ⟨e.b, 0, none⟩ = some (.int .u64 e.c) := cell_heap hE
              have hfl : ∀ fc' fs', fc' = (if 0 < e.c then e.c - 1 else c) → fs' = (if 0 < e.c then e.s - 1 else s) → FlR dc ds fc fs c s W fc' fs' := fun fc' fs' h1 h2 =>
                Or.inr (Or.inr ⟨hne.out, HCF.out, Or.inr ⟨e, hmem, by have := hss.out; omega, by omega, fun y hy hh => hno.out y hy ⟨hh.1, by omega⟩, h1, h2⟩⟩)
              have HFL := hid hfl
              clear hfl
              by_cases h0 : 0 < e.c
              · have hw1 : IntKind.u64.wrap (e.c - 1) = e.c - 1 := wrap_u64 (by omega) (by omega)
                have hw2 : IntKind.u64.wrap (ss - 1) = ss - 1 := wrap_u64 (by have := hss.out; have := HA.out; clear hw1; omega) (by clear hw1; omega)
                go_wp2_with (first
                  | (at_lookup; refine wpList_look_ok_is _ rfl _ _ 76 rfl 29 89 under29 Tryd.underlying76 (.pointer none) (zero89 _) mp n (pendG W) rfl H3.out.1.rest.pend ss rfl hss0 hss64 (ptr e.b) true hv hb ?_))
                exact HQ.out _ _ (e.c - 1) (ss - 1) (Is29.mk' _ (by kernel_rfl)) ((H3.out.set 6 (.int .u64 (e.c - 1))).set 7 (.int .u64 (ss - 1))) (HFL.out _ _ (by rw [if_pos h0]) (by rw [if_pos h0, hes]))
              · go_wp2_with (first
                  | (at_lookup; refine wpList_look_ok_is _ rfl _ _ 76 rfl 29 89 under29 Tryd.underlying76 (.pointer none) (zero89 _) mp n (pendG W) rfl H3.out.1.rest.pend ss rfl hss0 hss64 (ptr e.b) true hv hb ?_))
                exact HQ.out _ _ c s (Is29.mk' _ (by kernel_rfl)) H3.out (HFL.out _ _ (by rw [if_neg (Int.not_lt.2 h0)]) (by rw [if_neg (Int.not_lt.2 h0)]))
          · go_wp2_with fail
            exact HQ.out _ _ c s (Is29.mk' _ (by kernel_rfl)) H3.out (Or.inr (Or.inr ⟨hne.out, HCF.out, Or.inl ⟨Or.inr (fun x hx hh => hno.out x hx ⟨hh.1, by omega⟩), rfl, rfl⟩⟩))
      · clear hcf
        go_wp2_with (first
          | (at_len; refine wpList_len_at _ rfl _ 76 rfl 29 89 Tryd.underlying76 mp n (pendG W) rfl H2.out.1.rest.pend ?_))
        any_goals (exfalso; refine no_len HL.out ?_; assumption)
        exact HQ.out _ _ c s (Is29.mk' _ (by kernel_rfl)) ((H2.out.set 6 (.int .u64 c)).set 7 (.int .u64 s)) (Or.inr (Or.inr ⟨hne.out, HCF.out, Or.inl ⟨Or.inl (hcd), rfl, rfl⟩⟩))
    · have HCF := hid hcf
      have hc1 : (c == fc + 1) = false := by simpa using hcf
      go_wp2_with (first
        | (at_len; refine wpList_len_at _ rfl _ 76 rfl 29 89 Tryd.underlying76 mp n (pendG W) rfl H2.out.1.rest.pend ?_))
      any_goals (exfalso; refine no_len HL.out ?_; assumption)
      exact HQ.out _ _ fc fs (Is29.mk' _ (by kernel_rfl)) H2.out (Or.inr (Or.inl ⟨hne.out, HCF.out, rfl, rfl⟩))
end
end Go.Proofs.YtpbhblppehkifaaDoor

namespace Go.Proofs.YtpbhblppehkifaaDoor
open Go Go.RowKit Go.MuLone Con
set_option linter.unusedVariables false

/-- What is left. -/
def AllR (s fs : Int) (W : List Wt) (R : List (Int × Int)) (W' : List Wt) (R' : List (Int × Int)) : Prop :=
  W'.Sublist W ∧ R'.Sublist R ∧ ((∀ e ∈ W, fs < e.s) → (∀ p ∈ R, ∃ e ∈ W, e.s = p.1) → W' = W.filter (fun e => decide (s < e.s)) ∧ R' = R.filter (fun p => decide (s < p.1)))

def inW (W : List Wt) (x : Int) : Bool := (getW x W).isSome
def goneW (s : Int) (W : List Wt) (left : Lit → Bool) : List Wt := W.filter fun e => left (.int .u64 e.s) || decide (s < e.s)
def goneQ (s : Int) (W : List Wt) (R : List (Int × Int)) (left : Lit → Bool) : List (Int × Int) := R.filter fun p => left (.int .u64 p.1) || !inW W p.1 || decide (s < p.1)
theorem getW_of {W : List Wt} (hs : W.Pairwise (fun a b => a.s < b.s)) {e : Wt} (he : e ∈ W) : inW W e.s = true := by
  unfold inW
  cases h : getW e.s W with
  | none => exact absurd rfl (getW_none h e he)
  | some x => rfl
theorem goneW_start {s : Int} {W : List Wt} {left : Lit → Bool} (hs : W.Pairwise (fun a b => a.s < b.s)) (hl : ∀ x, left (.int .u64 x) = inW W x) : goneW s W left = W :=
  List.filter_eq_self.2 (fun e he => by rw [hl, getW_of hs he]; rfl)
theorem goneQ_start {s : Int} {W : List Wt} {R : List (Int × Int)} {left : Lit → Bool} (hl : ∀ x, left (.int .u64 x) = inW W x) : goneQ s W R left = R :=
  List.filter_eq_self.2 (fun p _ => by rw [hl]; cases inW W p.1 <;> rfl)
theorem goneW_del {s y : Int} {W : List Wt} {left left' : Lit → Bool} (hl : ∀ z, left' (.int .u64 z) = (left (.int .u64 z) && !(z == y))) (hy : y ≤ s) : delW y (goneW s W left) = goneW s W left' := by
  unfold delW goneW
  rw [List.filter_filter]
  refine List.filter_congr (fun p _ => ?_)
  rw [hl]
  by_cases h : p.s = y
  · have h2 : (p.s == y) = true := by simpa using h
    have h3 : decide (s < p.s) = false := decide_eq_false (by omega)
    rw [h2, h3]
    simp
  · have h2 : (p.s == y) = false := by simpa using h
    rw [h2]
    simp
theorem goneQ_del {s y : Int} {W : List Wt} {R : List (Int × Int)} {left left' : Lit → Bool} (hl : ∀ z, left' (.int .u64 z) = (left (.int .u64 z) && !(z == y))) (hy : y ≤ s) (hin : inW W y = true) : delL y (goneQ s W R left) = goneQ s W R left' := by
  unfold delL goneQ
  rw [List.filter_filter]
  refine List.filter_congr (fun p _ => ?_)
  rw [hl]
  by_cases h : p.1 = y
  · have h2 : (p.1 == y) = true := by simpa using h
    have h3 : decide (s < p.1) = false := decide_eq_false (by omega)
    have h4 : inW W p.1 = true := by rw [h]; exact hin
    rw [h2, h3, h4]
    simp
  · have h2 : (p.1 == y) = false := by simpa using h
    rw [h2]
    simp
theorem goneW_stay {s y : Int} {W : List Wt} {left left' : Lit → Bool} (hl : ∀ z, left' (.int .u64 z) = (left (.int .u64 z) && !(z == y))) (hy : s < y) : goneW s W left = goneW s W left' := by
  unfold goneW
  refine List.filter_congr (fun p _ => ?_)
  rw [hl]
  by_cases h : p.s = y
  · have h3 : decide (s < p.s) = true := decide_eq_true (by omega)
    rw [h3]
    simp
  · have h2 : (p.s == y) = false := by simpa using h
    rw [h2]
    simp
theorem goneQ_stay {s y : Int} {W : List Wt} {R : List (Int × Int)} {left left' : Lit → Bool} (hl : ∀ z, left' (.int .u64 z) = (left (.int .u64 z) && !(z == y))) (hy : s < y) : goneQ s W R left = goneQ s W R left' := by
  unfold goneQ
  refine List.filter_congr (fun p _ => ?_)
  rw [hl]
  by_cases h : p.1 = y
  · have h3 : decide (s < p.1) = true := decide_eq_true (by omega)
    rw [h3]
    simp
  · have h2 : (p.1 == y) = false := by simpa using h
    rw [h2]
    simp
theorem all_gone {s fs : Int} {W : List Wt} {R : List (Int × Int)} {left : Lit → Bool} (hs : W.Pairwise (fun a b => a.s < b.s)) (hl : ∀ x, left (.int .u64 x) = false) : AllR s fs W R (goneW s W left) (goneQ s W R left) := by
  refine ⟨List.filter_sublist, List.filter_sublist, fun _ h2 => ⟨?_, ?_⟩⟩
  · unfold goneW
    refine List.filter_congr (fun p _ => ?_)
    rw [hl]
    rfl
  · unfold goneQ
    refine List.filter_congr (fun p hp => ?_)
    obtain ⟨e, he, hes⟩ := h2 p hp
    have : inW W p.1 = true := by rw [← hes]; exact getW_of hs he
    rw [hl, this]
    rfl

section
variable {B m n : Nat} {ack dc ds fc fs c s fs0 sg : Int} {mp mr : Option Nat} {W : List Wt} {R : List (Int × Int)} {w w1 : World} {Q : Exit → Act → World → Prop} {a : Act}
set_option maxRecDepth 1000000 in
set_option maxHeartbeats 8000000 in
theorem ack29k (ha : Is29 m c s (.int .u64 sg) a) (hn : W.length < 1000000) (hsg : (W.length : Int) < sg) (H2 : Hid (SE w w1 B m (stc 1 ack dc ds fc fs mp mr) mp mr n W R))
    (HQ : Hid (∀ a' w' W' R', Is29 m c s (.int .u64 sg) a' → SE w w' B m (stc 1 ack dc ds fc fs mp mr) mp mr n W' R' → AllR s fs0 W R W' R' → Q .normal a' w')) : Code.wp Tryd.prog T29l Q a w1 := by
  obtain ⟨u, rfl⟩ := ha
  obtain ⟨d0, d1, d2, d3, d4, d5, d6, d7, d8, d9, d10⟩ := H2.out.1.cells
  have hS := H2.out.1.rest.sW
  have hB : B ≤ w1.heap.size := Nat.le_trans H2.out.1.rest.hB (Nat.le_of_lt H2.out.1.lt)
  have hcv : IntKind.u64.wrap ((pendG W).length : Int) = ((pendG W).length : Int) := by rw [pendG_len]; exact wrap_u64 (by omega) (by omega)
  have hlt : decide (((pendG W).length : Int) < sg) = true := by rw [pendG_len]; exact decide_eq_true hsg
  have HN := hid hn
  have HSG := hid hsg
  clear hn hsg
  unfold Fr29
  conv => arg 2; whnf
  go_wp2_with (first
    | (at_len; refine wpList_len_at _ rfl _ 76 rfl 29 89 Tryd.underlying76 mp n (pendG W) rfl H2.out.1.rest.pend ?_)
    | (at_range; refine wpList_range_at _ rfl _ 76 rfl 29 89 under29 Tryd.underlying76 mp n _ rfl H2.out.1.rest.pend ?_; intro w2 left cnt hrg hl hg hsz; go_frame))
  have hl' : ∀ x, left (.int .u64 x) = inW W x := fun x => (hl x).trans (by unfold inW; rw [pendG_get, isSome_map])
  have H3 : Hid (SE w w2 B m (stc 1 ack dc ds fc fs mp mr) mp mr n W R) := hid (H2.out.grown hg (by simp))
  have hne := hid H2.out.1.rest.ne
  clear d0 d1 d2 d3 d4 d5 d6 d7 d8 d9 d10 hsz hg H2 hl hcv hlt
  generalize w1.heap.size = r at *
  go_loopg [8] cnt (fun gk _ wr => ∃ left, Hid (RangesAt wr Tryd.prog 29 mp r n (pendG (goneW s W left)) left gk) ∧ Hid (SE w wr B m (stc 1 ack dc ds fc fs mp mr) mp mr n (goneW s W left) (goneQ s W R left)) ∧ Hid (∀ x, left (.int .u64 x) = true → inW W x = true))
  case atStart => exact ⟨left, by rw [goneW_start hS hl']; exact hid hrg, by rw [goneW_start hS hl', goneQ_start hl']; exact H3, hid fun x hx => by rw [← hl']; exact hx⟩
  case round =>
    clear hrg hl' H3
    obtain ⟨left, hr, hs', hin⟩ := hrel
    go_wp2_with (first
      | (at_next; refine wpList_next_at _ rfl _ rfl 29 under29 mp r n _ _ _ rfl hr.out ?_ ?_))
    · intro hl0
      go_wp2
      exact HQ.out _ _ _ _ (Is29.mk' _ (by kernel_rfl)) hs'.out (all_gone hS hl0)
    · intro y v w3 left' cnt' hy0 hy1 hly hgy hrg3 hl3 hlt hg3 hs3 hen
      have S3 := hid (hs'.out.grown hg3 (by rintro z hz; cases hz; exact ⟨hB, hr.out.iter⟩))
      obtain ⟨c0, c1, c2, c3, c4, c5, c6, c7, c8, c9, c10⟩ := S3.out.1.cells
      have hiny := hin.out y hly
      have HIN : Hid (∀ x, left' (.int .u64 x) = true → inW W x = true) := hid fun x hx => hin.out x (by rw [hl3] at hx; simp at hx; exact hx.1)
      clear hs3
      obtain ⟨e, he⟩ : ∃ e, getW y (goneW s W left) = some e := by
        rw [pendG_get] at hgy
        cases hq : getW y (goneW s W left) with
        | none => rw [hq] at hgy; cases hgy
        | some u => exact ⟨u, rfl⟩
      obtain rfl : v = ptr e.b := by
        rw [pendG_get, he] at hgy
        exact (Option.some.inj hgy).symm
      clear hgy he
      by_cases hyx : y ≤ s
      · go_wp2_with (first
          | (at_delete; refine wpList_del_ranges _ rfl _ _ 76 29 rfl 89 under29 Tryd.underlying76 mp r n _ _ _ rfl hrg3 y rfl hy0 hy1 ?_; intro w4 left4 cnt4 hrg4 hl4 hle hturn; have hl5 : ∀ z, left4 (.int .u64 z) = (left (.int .u64 z) && !(z == y)) := (fun z => by rw [hl4, hl3]; cases left (.int .u64 z) <;> cases (z == y) <;> rfl); have R4 := hid hrg4; have S4 := hid (S3.out.delP hrg4.owns hturn); have HL5 := hid hl5; have HLE := hid hle; clear hrg4 hl5 hle hl4 hturn c0 c1 c2 c3 c4 c5 c6 c7 c8 c9 c10; obtain ⟨c0, c1, c2, c3, c4, c5, c6, c7, c8, c9, c10⟩ := S4.out.1.cells; go_frame)
          | (at_delete; refine wpList_del_at _ rfl _ _ 77 29 rfl 29 under29 Tryd.underlying77 mr n _ rfl S4.out.1.rest.red y rfl hy0 hy1 ?_; intro w5 hm5 ht5; go_frame))
        have S5 := S4.out.delR hm5 ht5
        have R5 := (R4.out.kept ht5.grown (fun b hb e => hne.out b hb e.symm) (fun e => by
          have h5 := S4.out.1.rest.red
          cases e
          obtain ⟨es, clock, hk, _⟩ := h5
          obtain ⟨_, _, _, _, hi⟩ := R4.out.iter
          rw [hi] at hk
          cases hk))
        rw [pendG_del, goneW_del HL5.out hyx] at R5
        rw [goneW_del HL5.out hyx, goneQ_del HL5.out hyx hiny] at S5
        go_roundg cnt4
        case measure => have := HLE.out; omega
        case rel => exact ⟨left4, hid R5, hid S5, hid fun x hx => hin.out x (by rw [HL5.out] at hx; simp at hx; exact hx.1)⟩
      · go_wp2_with fail
        have hyx' : s < y := by omega
        rw [goneW_stay hl3 hyx'] at hrg3
        rw [goneW_stay hl3 hyx', goneQ_stay hl3 hyx'] at S3
        go_roundg cnt'
        case measure => omega
        case rel => exact ⟨left', hid hrg3, S3, HIN⟩
end
end Go.Proofs.YtpbhblppehkifaaDoor

namespace Go.Proofs.YtpbhblppehkifaaDoor
open Go Go.RowKit Go.MuLone Con
set_option linter.unusedVariables false

def between (q s x : Int) : Bool := decide (q < x) && decide (x ≤ s)
def cutW (q s : Int) (W : List Wt) : List Wt := W.filter fun e => !between q s e.s
def cutQ (q s : Int) (R : List (Int × Int)) : List (Int × Int) := R.filter fun p => !between q s p.1
theorem between_step (q s x : Int) (hq : q ≤ s) : (!between (q - 1) s x) = (!(x == q) && !between q s x) := by
  unfold between
  by_cases h : x = q
  · subst h
    have h1 : decide (x - 1 < x) = true := decide_eq_true (by omega)
    have h2 : decide (x ≤ s) = true := decide_eq_true hq
    rw [h1, h2]
    simp
  · have h2 : (x == q) = false := by simpa using h
    have h3 : decide (q - 1 < x) = decide (q < x) := decide_eq_decide.2 (by omega)
    rw [h2, h3]
    simp
theorem cutW_step {q s : Int} {W : List Wt} (hq : q ≤ s) : delW q (cutW q s W) = cutW (q - 1) s W := by
  unfold delW cutW
  rw [List.filter_filter]
  exact List.filter_congr (fun e _ => (between_step q s e.s hq).symm)
theorem cutQ_step {q s : Int} {R : List (Int × Int)} (hq : q ≤ s) : delL q (cutQ q s R) = cutQ (q - 1) s R := by
  unfold delL cutQ
  rw [List.filter_filter]
  exact List.filter_congr (fun e _ => (between_step q s e.1 hq).symm)
theorem between_self (s x : Int) : between s s x = false := by
  unfold between
  by_cases h : s < x
  · rw [decide_eq_false (show ¬ x ≤ s by omega)]; simp
  · rw [decide_eq_false h]; simp
theorem cutW_start {s : Int} {W : List Wt} : cutW s s W = W := List.filter_eq_self.2 (fun e _ => by rw [between_self]; rfl)
theorem cutQ_start {s : Int} {R : List (Int × Int)} : cutQ s s R = R := List.filter_eq_self.2 (fun e _ => by rw [between_self]; rfl)
theorem all_cut {q s fs : Int} {W : List Wt} {R : List (Int × Int)} (hq : fs ≤ q ∧ q ≤ s) (h : q = fs ∨ cutW q s W = []) : AllR s fs W R (cutW q s W) (cutQ q s R) := by
  refine ⟨List.filter_sublist, List.filter_sublist, fun h1 h2 => ?_⟩
  have key : ∀ x, (∃ e ∈ W, e.s = x) → (!between q s x) = decide (s < x) := by
    rintro x ⟨e, he, rfl⟩
    have := h1 e he
    unfold between
    rcases h with rfl | h
    · rw [decide_eq_true this]
      by_cases hx : s < e.s
      · rw [decide_eq_true hx, decide_eq_false (show ¬ e.s ≤ s by omega)]; rfl
      · rw [decide_eq_false hx, decide_eq_true (show e.s ≤ s by omega)]; rfl
    · have h3 := List.filter_eq_nil_iff.1 h e he
      simp [between] at h3
      rw [decide_eq_true h3.1, decide_eq_true h3.2, decide_eq_false (show ¬ s < e.s by omega)]
      rfl
  exact ⟨List.filter_congr (fun e he => key _ ⟨e, he, rfl⟩), List.filter_congr (fun p hp => key _ (h2 p hp))⟩

theorem len_run {w : World} {t k e : TypeId} (ht : Tryd.prog.underlying t = some (.map k e)) {mp : Option Nat} {n : Nat} {G : List (Int × Value)} (h : MapAt w Tryd.prog k mp n G) (ty : TypeId) :
    (Builtin.len_ #[t] ty #[.map mp]).run Tryd.prog w = .ok (.int .i64 (G.length : Nat)) w := by
  cases mp with
  | none =>
    have hG : G = [] := h
    subst hG
    exact Maps.len_nil ht ty
  | some b =>
    have hl := World.ownsMap.len h ht ty
    rw [dat_size] at hl
    exact hl
section
variable {B m n : Nat} {ack dc ds fc fs c s fs0 sg : Int} {mp mr : Option Nat} {W : List Wt} {R : List (Int × Int)} {w w1 : World} {Q : Exit → Act → World → Prop} {a : Act}
set_option maxRecDepth 1000000 in
set_option maxHeartbeats 8000000 in
theorem ack29d (ha : Is29 m c s (.int .u64 sg) a) (hn : W.length < 1000000) (hsg : ¬ (W.length : Int) < sg) (hf : 0 ≤ fs0 ∧ fs0 ≤ s ∧ s ≤ 65536 ∧ sg = s - fs0) (H2 : Hid (SE w w1 B m (stc 1 ack dc ds fc fs mp mr) mp mr n W R))
    (HQ : Hid (∀ a' w' W' R', Is29 m c s (.int .u64 sg) a' → SE w w' B m (stc 1 ack dc ds fc fs mp mr) mp mr n W' R' → AllR s fs0 W R W' R' → Q .normal a' w')) : Code.wp Tryd.prog T29l Q a w1 := by
  obtain ⟨u, rfl⟩ := ha
  obtain ⟨d0, d1, d2, d3, d4, d5, d6, d7, d8, d9, d10⟩ := H2.out.1.cells
  have hcv : IntKind.u64.wrap ((pendG W).length : Int) = ((pendG W).length : Int) := by rw [pendG_len]; exact wrap_u64 (by omega) (by omega)
  have hlt : decide (((pendG W).length : Int) < sg) = false := by rw [pendG_len]; exact decide_eq_false hsg
  have hws : IntKind.u64.wrap (s - sg) = fs0 := by rw [show s - sg = fs0 by omega]; exact wrap_u64 (by omega) (by omega)
  have HF := hid hf
  clear hf hn hsg
  unfold Fr29
  conv => arg 2; whnf
  go_wp2_with (first
    | (at_len; refine wpList_len_at _ rfl _ 76 rfl 29 89 Tryd.underlying76 mp n (pendG W) rfl H2.out.1.rest.pend ?_))
  clear hcv hlt d0 d1 d2 d3 d4 d5 d6 d7 d8 d9 d10
  go_loopg [9] (s - fs0).toNat (fun gk v wr => ∃ q : Int, v = .int .u64 q ∧ Hid (fs0 ≤ q ∧ q ≤ s ∧ gk = (q - fs0).toNat) ∧ Hid (SE w wr B m (stc 1 ack dc ds fc fs mp mr) mp mr n (cutW q s W) (cutQ q s R)))
  case atStart => exact ⟨s, rfl, hid ⟨HF.out.2.1, Int.le_refl _, rfl⟩, by rw [cutW_start, cutQ_start]; exact H2⟩
  case round =>
    clear H2
    obtain ⟨q, rfl, hq, hs'⟩ := hrel
    obtain ⟨d0, d1, d2, d3, d4, d5, d6, d7, d8, d9, d10⟩ := hs'.out.1.cells
    by_cases hqf : fs0 < q
    · have hlen := len_run (t := 76) Tryd.underlying76 hs'.out.1.rest.pend 3
      have hq1 := hq.out
      have hq0 : 0 ≤ q := by have := HF.out; clear hws; omega
      have hq64 : q < 18446744073709551616 := by have := HF.out; clear hws; omega
      have hwq : IntKind.u64.wrap (q - 1) = q - 1 := wrap_u64 (by have := HF.out; clear hws; omega) (by clear hws; omega)
      have HQ1 : Hid (fs0 ≤ q - 1 ∧ q - 1 ≤ s ∧ (q - 1 - fs0).toNat < gk) := hid (by clear hws hwq; omega)
      clear hq1
      rcases len_case (cutW q s W) with hnil | hpos
      · have HNIL := hid hnil
        rw [hnil] at hlen
        clear hnil
        go_wp2_with fail
        exact HQ.out _ _ _ _ (Is29.mk' _ (by kernel_rfl)) hs'.out (all_cut ⟨hq.out.1, hq.out.2.1⟩ (Or.inr HNIL.out))
      · have hlp : decide (0 < (pendG (cutW q s W)).length) = true := by rw [pendG_len]; exact decide_eq_true hpos
        have hlp2 : decide (0 < ((pendG (cutW q s W)).length : Int)) = true := by rw [pendG_len]; exact decide_eq_true (by omega)
        go_wp2_with (first
          | (at_delete; refine wpList_del_at _ rfl _ _ 76 29 rfl 89 under29 Tryd.underlying76 mp n _ rfl hs'.out.1.rest.pend q rfl hq0 hq64 ?_; intro w4 hm4 ht4; have S4 := hid (hs'.out.delP hm4 ht4); clear hm4 ht4 d0 d1 d2 d3 d4 d5 d6 d7 d8 d9 d10; obtain ⟨d0, d1, d2, d3, d4, d5, d6, d7, d8, d9, d10⟩ := S4.out.1.cells; go_frame)
          | (at_delete; refine wpList_del_at _ rfl _ _ 77 29 rfl 29 under29 Tryd.underlying77 mr n _ rfl S4.out.1.rest.red q rfl hq0 hq64 ?_; intro w5 hm5 ht5; have S5 := hid (S4.out.delR hm5 ht5); clear hm5 ht5; go_frame))
        go_roundg (q - 1 - fs0).toNat
        case measure => exact HQ1.out.2.2
        case rel => exact ⟨q - 1, rfl, hid ⟨HQ1.out.1, HQ1.out.2.1, rfl⟩, by have := S5; rw [cutW_step hq.out.2.1, cutQ_step hq.out.2.1] at this; exact this⟩
    · go_wp2_with fail
      exact HQ.out _ _ _ _ (Is29.mk' _ (by kernel_rfl)) hs'.out (all_cut ⟨hq.out.1, hq.out.2.1⟩ (Or.inl (by have := hq.out; omega)))
end

theorem H29_eq2 : H29 = .seq (fstS H29) (.seq T29x (.seq T29y (sndS (sndS (sndS H29))))) := by kernel_rfl
theorem T29a_eq : T29a = .seq (fstS T29a) (.seq (fstS (sndS T29a)) (.seq (fstS (sndS (sndS T29a))) (.seq T29l (sndS (sndS (sndS (sndS T29a))))))) := by kernel_rfl

section
variable {B m n : Nat} {ack dc ds fc fs c s : Int} {mp mr : Option Nat} {W : List Wt} {R : List (Int × Int)} {w w1 : World} {Q : Exit → Act → World → Prop} {a : Act} {v7 : Value}
set_option maxRecDepth 1000000 in
theorem ack29p1 (ha : Is29 m c s v7 a) (H : Hid (SE w w1 B m (stc 1 ack dc ds fc fs mp mr) mp mr n W R)) (HQ : Hid (∀ a', Is29 m c s (.int .u64 (IntKind.u64.wrap (s - fs))) a' → Q .normal a' w1)) : Code.wp Tryd.prog (fstS T29a) Q a w1 := by
  obtain ⟨u, rfl⟩ := ha
  obtain ⟨d0, d1, d2, d3, d4, d5, d6, d7, d8, d9, d10⟩ := H.out.1.cells
  unfold Fr29
  conv => arg 2; whnf
  go_wp2_with fail
  exact HQ.out _ (Is29.mk' _ (by kernel_rfl))
set_option maxRecDepth 1000000 in
theorem ack29p2 (ha : Is29 m c s v7 a) (H : Hid (SE w w1 B m (stc 1 ack dc ds fc fs mp mr) mp mr n W R)) (HQ : Hid (∀ a' w', Is29 m c s v7 a' → SE w w' B m (stc 1 ack dc ds c fs mp mr) mp mr n W R → Q .normal a' w')) : Code.wp Tryd.prog (fstS (sndS T29a)) Q a w1 := by
  obtain ⟨u, rfl⟩ := ha
  obtain ⟨d0, d1, d2, d3, d4, d5, d6, d7, d8, d9, d10⟩ := H.out.1.cells
  have f0 := H.out.1.frozen
  unfold Fr29
  conv => arg 2; whnf
  go_wp2_with fail
  exact HQ.out _ _ (Is29.mk' _ (by kernel_rfl)) (H.out.set 6 (.int .u64 c))
set_option maxRecDepth 1000000 in
theorem ack29p3 (ha : Is29 m c s v7 a) (H : Hid (SE w w1 B m (stc 1 ack dc ds fc fs mp mr) mp mr n W R)) (HQ : Hid (∀ a' w', Is29 m c s v7 a' → SE w w' B m (stc 1 ack dc ds fc s mp mr) mp mr n W R → Q .normal a' w')) : Code.wp Tryd.prog (fstS (sndS (sndS T29a))) Q a w1 := by
  obtain ⟨u, rfl⟩ := ha
  obtain ⟨d0, d1, d2, d3, d4, d5, d6, d7, d8, d9, d10⟩ := H.out.1.cells
  have f0 := H.out.1.frozen
  unfold Fr29
  conv => arg 2; whnf
  go_wp2_with fail
  exact HQ.out _ _ (Is29.mk' _ (by kernel_rfl)) (H.out.set 7 (.int .u64 s))
set_option maxRecDepth 1000000 in
theorem ack29p4 (ha : Is29 m c s v7 a) (HQ : Hid (∀ a', Is29 m c s v7 a' → Q .ret a' w1)) : Code.wp Tryd.prog (sndS (sndS (sndS (sndS T29a)))) Q a w1 := by
  obtain ⟨u, rfl⟩ := ha
  unfold Fr29
  conv => arg 2; whnf
  go_wp2_with fail
  exact HQ.out _ (Is29.mk' _ (by kernel_rfl))
set_option maxRecDepth 1000000 in
theorem ack29p5 (ha : Is29 m c s v7 a) (HQ : Hid (∀ a', Is29 m c s v7 a' → Q .ret a' w1)) : Code.wp Tryd.prog (sndS (sndS (sndS H29))) Q a w1 := by
  obtain ⟨u, rfl⟩ := ha
  unfold Fr29
  conv => arg 2; whnf
  go_wp2_with fail
  exact HQ.out _ (Is29.mk' _ (by kernel_rfl))
end

set_option maxRecDepth 1000000 in
theorem ackEnd {B m n : Nat} {ack dc ds fc fs c s : Int} {mp mr : Option Nat} {W : List Wt} {R : List (Int × Int)} {w w1 : World} {v7 : Value} {a : Act} {Post : Ending → World → Prop} (ha : Is29 m c s v7 a) (H : SE w w1 B m (stc 1 ack dc ds fc fs mp mr) mp mr n W R)
    (hP : ∀ e w', e = Ending.returned .nilIface → SE w w' B m (stc 0 ack dc ds fc fs mp mr) mp mr n W R → Post e w') : bodyPostD Tryd.prog Tryd.f29 Post Exit.ret a w1 := by
  obtain ⟨u, rfl⟩ := ha
  unfold Fr29
  refine leaves_cons (f := 46) (args := #[ptr m]) (by simp) (by simp [go_sem]) ?_
  refine (unlockD .returning H.1).mono ?_
  rintro e u' w'' ⟨rfl, rfl, h3, e3⟩
  exact ⟨_, results_tmp rfl _ _ _, hP _ _ rfl ⟨h3, H.2.trans e3⟩⟩

set_option maxRecDepth 1000000 in
set_option maxHeartbeats 4000000 in
/-- All up to a message that waits. -/
theorem ackAll_st (B m n : Nat) (dc ds fc fs c s : Int) (mp mr : Option Nat) (W : List Wt) (R : List (Int × Int)) (w : World) (hn : n < 100000) (hs : 0 ≤ s ∧ s ≤ 65536) (hfs : 0 ≤ fs ∧ fs ≤ 65536) (hc : ¬ c ≤ fc) (e : Wt) (hw : getW s W = some e)
    (h : St w B m (stc 0 1 dc ds fc fs mp mr) mp mr n W R) :
    Calls Tryd.prog 29 #[ptr m, .int .u64 c, .int .u64 s] w fun r w' => r = .returned .nilIface ∧ ∃ W' R', SE w w' B m (stc 0 1 dc ds c s mp mr) mp mr n W' R' ∧ AllR s fs W (delL s R) W' R' := by
  have hs64 : s < 18446744073709551616 := by omega
  have hlW := h.rest.pend.len_le
  rw [pendG_len] at hlW
  go_enter_defers Tryd.func29, Tryd.ntmps29
  go_wp2_with fail
  refine (lockS h).mono ?_
  rintro _ w1 ⟨rfl, h1, e1⟩
  obtain ⟨c0, c1, c2, c3, c4, c5, c6, c7, c8, c9, c10⟩ := h1.cells
  go_upto_region 6 with (first
    | (at_delete; refine wpList_del_at _ rfl _ _ 77 29 rfl 29 under29 Tryd.underlying77 mr n (redG R) rfl h1.rest.red s rfl hs.1 hs64 ?_; intro w2 hm2 ht2; go_frame))
  have H2 := hid ((SE.of h1 e1).delR hm2 ht2)
  clear c0 c1 c2 c3 c4 c5 c6 c7 c8 c9 c10 hm2 ht2
  obtain ⟨d0, d1, d2, d3, d4, d5, d6, d7, d8, d9, d10⟩ := H2.out.1.cells
  have f0 := H2.out.1.frozen
  have hv : (getL s (pendG W)).getD (.pointer none) = ptr e.b := by rw [pendG_get, hw]; rfl
  obtain ⟨hmem, hes⟩ := getW_mem hw
  have hlw : 0 < W.length := List.length_pos_of_mem hmem
  have hlp : (((pendG W).length : Int) == 0) = false := by rw [pendG_len]; simpa using (fun hx : W = [] => by rw [hx] at hlw; simp at hlw)
  have hlp2 : pendG W ≠ [] := fun hx => by rw [pendG_nil hx] at hmem; cases hmem
  have hrun := look_run (t := 76) under29 Tryd.underlying76 (.pointer none) (zero89 w2) H2.out.1.rest.pend s hs.1 hs64 (ptr e.b) hv
  go_upto_if 59 with (first
    | (at_len; refine wpList_len_at _ rfl _ 76 rfl 29 89 Tryd.underlying76 mp n (pendG W) rfl H2.out.1.rest.pend ?_))
  go_upto_if 74 with fail
  refine wp_cond (t := true) (by simp [Act.eval]) ?_
  rw [if_pos rfl]
  change Code.wp Tryd.prog T29a _ _ _
  rw [T29a_eq]
  clear hrun hlp hlp2 hv
  have hsgw : IntKind.u64.wrap (s - fs) = if fs ≤ s then s - fs else s - fs + 18446744073709551616 := by
    have e0 : IntKind.u64.wrap (s - fs) = (s - fs) % 18446744073709551616 := by
      unfold IntKind.wrap
      simp [IntKind.signed, IntKind.bits]
    rw [e0]
    by_cases hle : fs ≤ s
    · rw [if_pos hle]; omega
    · rw [if_neg hle]; omega
  refine wp_seq ?_
  refine ack29p1 (c := c) (s := s) (v7 := undef) (Is29.mk' _ (by kernel_rfl)) H2 (hid fun a3 ha3 => ?_)
  generalize IntKind.u64.wrap (s - fs) = sg at hsgw ha3
  refine wp_seq ?_
  refine ack29p2 ha3 H2 (hid fun a4 w4 ha4 H4 => ?_)
  refine wp_seq ?_
  refine ack29p3 ha4 (hid H4) (hid fun a5 w5 ha5 H5 => ?_)
  refine wp_seq ?_
  by_cases hbig : (W.length : Int) < sg
  · refine ack29k (fs0 := fs) ha5 (by omega) hbig (hid H5) (hid fun a6 w6 W' R' ha6 H6 hall => ?_)
    refine ack29p4 ha6 (hid fun a7 ha7 => ?_)
    exact ackEnd ha7 H6 (fun r w' hr hS => ⟨hr, W', R', hS, hall⟩)
  · have hle : fs ≤ s := by
      by_cases hle : fs ≤ s
      · exact hle
      · rw [if_neg hle] at hsgw; omega
    rw [if_pos hle] at hsgw
    refine ack29d (fs0 := fs) ha5 (by omega) hbig ⟨hfs.1, hle, hs.2, hsgw⟩ (hid H5) (hid fun a6 w6 W' R' ha6 H6 hall => ?_)
    refine ack29p4 ha6 (hid fun a7 ha7 => ?_)
    exact ackEnd ha7 H6 (fun r w' hr hS => ⟨hr, W', R', hS, hall⟩)

set_option maxRecDepth 1000000 in
set_option maxHeartbeats 4000000 in
/-- A message that waits, alone. -/
theorem ackOne_st (B m n : Nat) (dc ds fc fs c s : Int) (mp mr : Option Nat) (W : List Wt) (R : List (Int × Int)) (w : World) (hs : 0 ≤ s ∧ s ≤ 65536) (hcc : 0 ≤ c ∧ c ≤ 65536) (hfc : 0 ≤ fc ∧ fc ≤ 65536) (hds : 0 ≤ ds ∧ ds ≤ 65536) (hc : ¬ c ≤ fc) (e : Wt) (hw : getW s W = some e)
    (h : St w B m (stc 0 2 dc ds fc fs mp mr) mp mr n W R) :
    Calls Tryd.prog 29 #[ptr m, .int .u64 c, .int .u64 s] w fun r w' => r = .returned .nilIface ∧ ∃ fc' fs', SE w w' B m (stc 0 2 dc ds fc' fs' mp mr) mp mr n (delW s W) (delL s R) ∧ FlR dc ds fc fs (own1 c e) s (delW s W) fc' fs' := by
  have hs64 : s < 18446744073709551616 := by omega
  have hk := h.rest.kW e (getW_mem hw).1
  have ho : 0 ≤ own1 c e ∧ own1 c e ≤ 65536 := by
    unfold own1
    by_cases hx : e.c < c ∧ 0 < e.c
    · rw [if_pos hx]; omega
    · rw [if_neg hx]; exact hcc
  go_enter_defers Tryd.func29, Tryd.ntmps29
  go_wp2_with fail
  refine (lockS h).mono ?_
  rintro _ w1 ⟨rfl, h1, e1⟩
  obtain ⟨c0, c1, c2, c3, c4, c5, c6, c7, c8, c9, c10⟩ := h1.cells
  go_upto_region 6 with (first
    | (at_delete; refine wpList_del_at _ rfl _ _ 77 29 rfl 29 under29 Tryd.underlying77 mr n (redG R) rfl h1.rest.red s rfl hs.1 hs64 ?_; intro w2 hm2 ht2; go_frame))
  have H2 := hid ((SE.of h1 e1).delR hm2 ht2)
  clear c0 c1 c2 c3 c4 c5 c6 c7 c8 c9 c10 hm2 ht2
  obtain ⟨d0, d1, d2, d3, d4, d5, d6, d7, d8, d9, d10⟩ := H2.out.1.cells
  have f0 := H2.out.1.frozen
  have hv : (getL s (pendG W)).getD (.pointer none) = ptr e.b := by rw [pendG_get, hw]; rfl
  obtain ⟨hmem, hes⟩ := getW_mem hw
  have hlw : 0 < W.length := List.length_pos_of_mem hmem
  have hlp : (((pendG W).length : Int) == 0) = false := by rw [pendG_len]; simpa using (fun hx : W = [] => by rw [hx] at hlw; simp at hlw)
  have hlp2 : pendG W ≠ [] := fun hx => by rw [pendG_nil hx] at hmem; cases hmem
  have hrun := look_run (t := 76) under29 Tryd.underlying76 (.pointer none) (zero89 w2) H2.out.1.rest.pend s hs.1 hs64 (ptr e.b) hv
  go_upto_if 59 with (first
    | (at_len; refine wpList_len_at _ rfl _ 76 rfl 29 89 Tryd.underlying76 mp n (pendG W) rfl H2.out.1.rest.pend ?_))
  go_upto_if 74 with fail
  refine wp_cond (t := false) (by simp [Act.eval]) ?_
  rw [if_neg (by simp)]
  refine wp_skip ?_
  rename_i K hK
  refine hK _ _ ?_
  change Code.wp Tryd.prog (sndS H29) _ _ _
  rw [show sndS H29 = .seq T29x (.seq T29y (sndS (sndS (sndS H29)))) by kernel_rfl]
  refine wp_seq ?_
  refine ack29x (c := c) (s := s) (v7 := undef) (Is29.mk' _ (by kernel_rfl)) hs.1 hs64 hw H2 (hid fun a3 w3 ha3 H3 => ?_)
  refine wp_seq ?_
  refine ack29y ha3 ho hs hfc hds (hid H3) (hid fun a4 w4 fc' fs' ha4 H4 hfl => ?_)
  refine ack29p5 ha4 (hid fun a7 ha7 => ?_)
  exact ackEnd ha7 H4 (fun r w' hr hS => ⟨hr, fc', fs', hS, hfl⟩)
end Go.Proofs.YtpbhblppehkifaaDoor
