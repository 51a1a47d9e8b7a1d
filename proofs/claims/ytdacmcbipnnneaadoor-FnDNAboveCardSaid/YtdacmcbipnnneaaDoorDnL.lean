/- The walk of ldap.ParseDN. -/
import Derived.Test.YtdacmcbipnnneaaDoorDnK
namespace Go.Proofs.YtdacmcbipnnneaaDoor
open Go.RowKit
set_option linter.unusedVariables false
set_option linter.unusedSimpArgs false

theorem mk43 : ∀ W : World, (Instr.makeSlice 43 (.int .i64 0) (.int .i64 0)).run Tryd.prog W = .ok (.slice (some ⟨W.heap.size, 0, none⟩) 0 0) (W.alloc (.cells #[] 49)) := fun _ => by kernel_rfl
theorem mk46 : ∀ W : World, (Instr.makeSlice 46 (.int .i64 0) (.int .i64 0)).run Tryd.prog W = .ok (.slice (some ⟨W.heap.size, 0, none⟩) 0 0) (W.alloc (.cells #[] 51)) := fun _ => by kernel_rfl

/-- What is laid ahead of the first byte. -/
def startW (w : World) : World := ((((((w.alloc (.cells #[.slice (some ⟨w.heap.size + 1, 0, none⟩) 0 0] 45)).alloc (.cells #[] 49)).alloc (.cells #[.slice (some ⟨w.heap.size + 1 + 1 + 1, 0, none⟩) 0 0] 48)).alloc (.cells #[] 51)).alloc (.cells #[.slice none 0 0, .int .i64 0, .int .i8 0] 62)).alloc (.cells #[.string ⟨#[]⟩, .string ⟨#[]⟩] 50)).alloc (.cells #[.int .i64 0] 3)

theorem heap_push (w : World) (o : Obj) : (w.alloc o).heap = w.heap.push o := rfl

theorem start_heap (w : World) : (startW w).heap[w.heap.size]? = some (.cells #[.slice (some ⟨w.heap.size + 1, 0, none⟩) 0 0] 45 (0, 0)) ∧ (startW w).heap[w.heap.size + 1]? = some (.cells #[] 49 (0, 0)) ∧ (startW w).heap[w.heap.size + 1 + 1]? = some (.cells #[.slice (some ⟨w.heap.size + 1 + 1 + 1, 0, none⟩) 0 0] 48 (0, 0)) ∧
    (startW w).heap[w.heap.size + 1 + 1 + 1]? = some (.cells #[] 51 (0, 0)) ∧ (startW w).heap[w.heap.size + 1 + 1 + 1 + 1]? = some (.cells #[.slice none 0 0, .int .i64 0, .int .i8 0] 62 (0, 0)) ∧ (startW w).heap[w.heap.size + 1 + 1 + 1 + 1 + 1]? = some (.cells #[.string ⟨#[]⟩, .string ⟨#[]⟩] 50 (0, 0)) ∧ (startW w).heap[w.heap.size + 1 + 1 + 1 + 1 + 1 + 1]? = some (.cells #[.int .i64 0] 3 (0, 0)) := by
  unfold startW
  simp only [heap_push, Array.getElem?_push, Array.size_push]
  generalize w.heap.size = n
  refine ⟨?_, ?_, ?_, ?_, ?_, ?_, ?_⟩ <;> (repeat (first | rw [if_pos trivial] | rw [if_pos (by omega)] | rw [if_neg (by omega)]))

theorem start_below (w : World) : Below w.heap.size w (startW w) := by
  unfold startW
  exact ((((((((Below.refl _ _).alloc (Nat.le_refl _) _).alloc (by simp) _).alloc (by simp; omega) _).alloc (by simp; omega) _).alloc (by simp; omega) _).alloc (by simp; omega) _).alloc (by simp; omega) _)

theorem start_inv (w : World) : Inv w (startW w) w.heap.size (w.heap.size + 1 + 1 + 1 + 1) (w.heap.size + 1 + 1 + 1 + 1 + 1 + 1) (w.heap.size + 1 + 1) (w.heap.size + 1 + 1 + 1 + 1 + 1) (w.heap.size + 1 + 1) ⟨#[]⟩ PS.start := by
  obtain ⟨h0, h1, h2, h3, h4, h5, h6⟩ := start_heap w
  refine ⟨Nat.le_refl _, by omega, by omega, by omega, by omega, ⟨_, [], h0, ?_, rfl, fun i b xs e => by simp at e⟩, ⟨_, [], h2, ?_, rfl, fun i b xs e => by simp at e⟩, h5, h6, ?_, start_below w⟩
  · exact ⟨rfl, .inr ⟨w.heap.size + 1, 0, #[], rfl, by omega, h1, Nat.le_refl _, by simp [maxLen], rfl, rfl⟩⟩
  · exact ⟨rfl, .inr ⟨w.heap.size + 1 + 1 + 1, 0, #[], rfl, by omega, h3, Nat.le_refl _, by simp [maxLen], rfl, rfl⟩⟩
  · exact ⟨by omega, _, _, h4, World.ownsRow_nil _ _ _ _, by simp [Value.ownBlock]⟩

set_option maxHeartbeats 8000000 in
set_option maxRecDepth 100000 in
theorem parse_any (s : ByteArray) (RR : List (List At)) (hs : s.size ≤ 100000) (hp : Parses s RR 0 PS.start) (w : World) :
    Calls Tryd.prog 26 #[.string s] w fun e w' => e = .returned (.tuple #[ptr w.heap.size, .nilIface]) ∧ IsDn w' w.heap.size w.heap.size RR ∧ Below w.heap.size w w' := by
  obtain ⟨i0, hi0', hz0, hz1, hz2⟩ := info_parts info51
  obtain ⟨j0, hj0, jz0, jz1, jz2⟩ := info_parts info49
  have HP := Lib.hid hp
  clear hp
  have m43 := mk43
  have m46 := mk46
  go_enter Tryd.func26, Tryd.ntmps26
  go_wp2_with fail
  go_loopg [5, 7, 8, 11] s.size (fun gk r t e i w' => ∃ R T hi p k, r = ptr R ∧ t = ptr T ∧ e = .bool p.esc ∧ i = .int .i64 (k : Nat) ∧ Hid (gk = s.size - k) ∧ k ≤ s.size ∧ Hid (Parses s RR k p) ∧ Hid (p.uts ≤ p.buf.length) ∧ Hid (p.buf.length ≤ k) ∧ Hid (p.part.length ≤ k) ∧ Hid (p.dn.length ≤ k) ∧ Hid (Inv w w' w.heap.size (w.heap.size + 1 + 1 + 1 + 1) (w.heap.size + 1 + 1 + 1 + 1 + 1 + 1) R T hi ⟨#[]⟩ p))
  case atStart => exact ⟨_, _, _, PS.start, 0, rfl, rfl, rfl, rfl, rfl, Nat.zero_le _, HP.out, Nat.le_refl _, Nat.le_refl _, Nat.le_refl _, Nat.le_refl _, start_inv w⟩
  case round =>
    obtain ⟨R, T, hi, p, k, rfl, rfl, rfl, rfl, hm, hk, hps, hu, hbl, hpl, hdl, hI⟩ := hrel
    generalize w.heap.size + 1 + 1 + 1 + 1 + 1 + 1 = U at *
    generalize w.heap.size + 1 + 1 + 1 + 1 = F at *
    have cU : wr.cell? ⟨U, 0, none⟩ = some (.int .i64 p.uts) := cell_one hI.out.hU
    have fU : wr.frozen? ⟨U, 0, none⟩ = false := Lib.frozen_of_heap hI.out.hU 0
    cases hps.out with
    | none _ _ h1 h2 h3 =>
      have LN := len_any hI.out
      rw [h2] at LN
      have HLN := Lib.hid LN
      clear LN
      have H3 := Lib.hid h3
      have z0 : ¬ (k : Int) < s.size := by omega
      clear h1 h2 h3
      go_wp2_with fail
      refine HLN.out.mono ?_
      rintro e w1 ⟨rfl, n1, rfl⟩
      go_wp2_with fail
      go_ret2
      obtain ⟨v, bs, b1, b2, b3⟩ := hI.out.hD
      exact ⟨rfl, by rw [H3.out]; exact ⟨Nat.le_refl _, v, bs, b1, b2, b3.rdns⟩, below_drewN hI.out.below _⟩
    | last _ _ h1 h2 h3 h4 =>
      have H4 := Lib.hid h4
      have z0 : ¬ (k : Int) < s.size := by omega
      have bn : p.buf.length ≠ 0 := fun e => h2 (List.length_eq_zero_iff.1 e)
      have bp : 0 < p.buf.length := by omega
      have bl : p.buf.length ≤ 1000000 := by have := hbl.out; omega
      have z1 : decide ((p.typ.size : Int) = 0) = false := decide_eq_false (by omega)
      have z2 : ((p.typ.size : Int) == 0) = false := beq_eq_false_iff_ne.2 (by omega)
      clear h1 h2 h4
      go_wp2_with fail
      refine (len_any hI.out).mono ?_
      rintro e w0 ⟨rfl, n1, rfl⟩
      have HI0 : Hid (Inv w (wr.drewN n1) w.heap.size F U R T hi ⟨#[]⟩ p) := hI.out.drewN n1
      clear cU fU
      generalize wr.drewN n1 = w0 at HI0 ⊢
      have cT : w0.cell? ⟨T, 0, none⟩ = some (.string p.typ) := by rw [Lib.cell_of_heap HI0.out.hT]; rfl
      go_wp2_with fail
      refine (text_any HI0.out hu.out bl).mono ?_
      rintro e w1 ⟨rfl, hI1⟩
      clear cT
      have HI1 := Lib.hid hI1
      clear hI1
      have cT : w1.cell? ⟨T, 1, none⟩ = some (.string ⟨#[]⟩) := by rw [Lib.cell_of_heap HI1.out.hT]; rfl
      have fT : w1.frozen? ⟨T, 1, none⟩ = false := Lib.frozen_of_heap HI1.out.hT 1
      go_upto_region 65 with fail
      have HI2 := Lib.hid (HI1.out.setVal p.text)
      clear cT fT HI1
      generalize w1.setCell ⟨T, 1, none⟩ (.string p.text) = w2 at HI2 ⊢
      obtain ⟨v, ps, b1, b2, b3⟩ := HI2.out.hR
      have cR : w2.cell? ⟨R, 0, none⟩ = some v := cell_one b1
      have n0 := World.new_ne w2 _ cR
      have NW := Lib.hid (heap_alloc_new w2 (.cells #[ptr T] 51))
      have O2 := Lib.hid b2
      have B1 := Lib.hid b1
      have A3 := Lib.hid b3
      have nv : some R ≠ v.ownBlock := own_block b2 b1 (by decide)
      have lR : R < w2.heap.size := Lib.lt_of_heap b1
      have pl : p.part.length ≤ 100000 := by have := hpl.out; omega
      have hB : hi ≤ w2.heap.size := by have := HI2.out.lR; omega
      clear b1 b2 b3
      go_upto_region 66 with (at_builtin; go_loud (refine wpList_append_lies _ rfl _ _ _ rfl hi 51 i0 _ 1 8 Tryd.underlying46 hi0' hz0 hz1 hz2 rfl (by omega) v p.part.length (ps.map ptr) rfl (O2.out.alloc _) ⟨w2.heap.size, 0, none⟩ 1 1 [ptr T] rfl rfl (World.news_of_block (cs := #[ptr T]) (t := 51) (fr := (0, 0)) NW.out) (by simp [Value.oneCell']) (by omega) (by unfold maxLen; omega) (by omega) (by simp <;> omega) (w2.heap.size + 1) (by simp) ?_; intro gg cap w3 hown hgrow hat hlt3; have R3 := Lib.hid (keep_block hgrow nv (by simp <;> omega) ((Below.heap_alloc _ _ _ lR).trans B1.out)); have cR3 : w3.cell? ⟨R, 0, none⟩ = some v := cell_one R3.out; have fR3 : w3.frozen? ⟨R, 0, none⟩ = false := Lib.frozen_of_heap R3.out 0; have PU := Lib.hid (HI2.out.push B1.out O2.out A3.out hown rfl hgrow hlt3); clear hown hgrow hat))
      have lh := HI2.out.lhi
      have l3 : hi ≤ w3.heap.size := by have := PU.out.2.2.1.1; have := PU.out.2.2.1.2.1; omega
      have PA : Hid (Com w (w3.setCell ⟨R, 0, none⟩ (.slice (some ⟨gg, 0, none⟩) (p.part.length + 1) cap)) w.heap.size F U 0 [] ∧ HasD w (w3.setCell ⟨R, 0, none⟩ (.slice (some ⟨gg, 0, none⟩) (p.part.length + 1) cap)) w.heap.size hi p.dn ∧ RdnIn (w3.setCell ⟨R, 0, none⟩ (.slice (some ⟨gg, 0, none⟩) (p.part.length + 1) cap)) hi w3.heap.size R (p.part ++ [(p.typ, p.text)])) := ⟨PU.out.1, PU.out.2.1, PU.out.2.2.1⟩
      clear cR3 fR3 PU R3 hlt3 cR n0 NW O2 B1 A3 nv lR pl hB HI2
      generalize w3.setCell ⟨R, 0, none⟩ (.slice (some ⟨gg, 0, none⟩) (p.part.length + 1) cap) = w5 at PA ⊢
      generalize w3.heap.size = T2 at PA l3
      obtain ⟨v, bs, b1, b2, b3⟩ := PA.out.2.1
      have cD : w5.cell? ⟨w.heap.size, 0, none⟩ = some v := cell_one b1
      have n0 := World.new_ne w5 _ cD
      have NW := Lib.hid (heap_alloc_new w5 (.cells #[ptr R] 49))
      have O2 := Lib.hid b2
      have B1 := Lib.hid b1
      have A3 := Lib.hid b3
      have nv : some w.heap.size ≠ v.ownBlock := own_block b2 b1 (by decide)
      have lR : w.heap.size < w5.heap.size := Lib.lt_of_heap b1
      have pl : p.dn.length ≤ 100000 := by have := hdl.out; omega
      clear b1 b2 b3
      go_wp2_with (at_builtin; go_loud (refine wpList_append_lies _ rfl _ _ _ rfl w.heap.size 49 j0 _ 1 8 Tryd.underlying43 hj0 jz0 jz1 jz2 rfl (by omega) v p.dn.length (bs.map ptr) rfl (O2.out.alloc _) ⟨w5.heap.size, 0, none⟩ 1 1 [ptr R] rfl rfl (World.news_of_block (cs := #[ptr R]) (t := 49) (fr := (0, 0)) NW.out) (by simp [Value.oneCell']) (by omega) (by unfold maxLen; omega) (by omega) (by simp <;> omega) (w5.heap.size + 1) (by simp) ?_; intro gg cap w6 hown hgrow hat hlt6; have R6 := Lib.hid (keep_block hgrow nv (by simp <;> omega) ((Below.heap_alloc _ _ _ lR).trans B1.out)); have cR6 : w6.cell? ⟨w.heap.size, 0, none⟩ = some v := cell_one R6.out; have fR6 : w6.frozen? ⟨w.heap.size, 0, none⟩ = false := Lib.frozen_of_heap R6.out 0; have PU := Lib.hid (HasD.push PA.out.1 lh l3 PA.out.2.2 B1.out O2.out A3.out hown rfl hgrow); clear hown hgrow hat))
      go_ret2
      obtain ⟨v9, bs9, x1, x2, x3⟩ := PU.out.2.1
      exact ⟨rfl, by rw [H4.out]; exact ⟨Nat.le_refl _, v9, bs9, x1, x2, x3.rdns⟩, PU.out.1.below⟩
    | escS _ _ h1 h2 h3 h4 =>
      have hi0 : ∀ W : World, (Instr.index 9 (.string s) (.int .i64 k)).run Tryd.prog W = .ok (.int .u8 (b8 s k)) W := run_b8 s k h1
      rw [h2]
      clear h2
      generalize b8 s k = c at h3 h4 hi0
      have H4 := Lib.hid h4
      clear h4
      have bl : p.buf.length ≤ 1000000 := by have := hbl.out; omega
      rcases h3 with rfl | rfl | rfl | rfl | rfl | rfl | rfl | rfl | rfl | rfl
      all_goals
        go_wp2_with fail
        refine (write_any (hI.out.setU 0) _ (by decide) bl).mono ?_
        rintro e w1 ⟨rfl, hI1⟩
        have HI1 := Lib.hid hI1
        clear hI1
        go_wp2_with fail
        go_roundg (s.size - (k + 1))
        case measure => have := hm.out; omega
        case rel => exact ⟨R, T, hi, _, k + 1, rfl, rfl, rfl, rfl, rfl, by omega, H4.out, Nat.zero_le _, by have := hbl.out; simp [Hid]; omega, by have := hpl.out; exact (by omega : p.part.length ≤ k + 1), by have := hdl.out; exact (by omega : p.dn.length ≤ k + 1), HI1.out.esc' false⟩
    | escH _ x y _ h1 h2 h3 h4 h5 =>
      have hi0 : ∀ W : World, (Instr.index 9 (.string s) (.int .i64 k)).run Tryd.prog W = .ok (.int .u8 (b8 s k)) W := run_b8 s k (by omega)
      rw [h2]
      clear h2
      have H3 := Lib.hid h3
      have H4 := Lib.hid h4
      have H5 := Lib.hid h5
      have bl : p.buf.length ≤ 1000000 := by have := hbl.out; omega
      have hh : (48 ≤ b8 s k ∧ b8 s k ≤ 57) ∨ (97 ≤ b8 s k ∧ b8 s k ≤ 102) := by rcases h3 with ⟨a, b, _⟩ | ⟨a, b, _⟩ <;> omega
      clear h3 h4 h5
      have c0 : (b8 s k : Int) ≠ 32 ∧ (b8 s k : Int) ≠ 34 ∧ (b8 s k : Int) ≠ 35 ∧ (b8 s k : Int) ≠ 43 ∧ (b8 s k : Int) ≠ 44 ∧ (b8 s k : Int) ≠ 59 ∧ (b8 s k : Int) ≠ 60 ∧ (b8 s k : Int) ≠ 61 ∧ (b8 s k : Int) ≠ 62 ∧ (b8 s k : Int) ≠ 92 := by omega
      clear hh
      obtain ⟨q0, q1, q2, q3, q4, q5, q6, q7, q8, q9⟩ := c0
      have d0 : IntKind.i64.wrap ((k : Int) + 1) = (k : Int) + 1 := IntWalk.i64_in _ (by omega)
      go_wp2_with fail
      have e0 : (s.extract k (k + 2)).size = 2 := by rw [ByteArray.size_extract]; omega
      have x0 : hexd (b8 (s.extract k (k + 2)) 0) x := by rw [b8_extract _ _ _ _ (by omega) (by omega)]; exact H3.out
      have x1 : hexd (b8 (s.extract k (k + 2)) 1) y := by rw [b8_extract _ _ _ _ (by omega) (by omega)]; exact H4.out
      have g0 : ((wr.setCell ⟨U, 0, none⟩ (.int .i64 0)).alloc (.cells #[.int .u8 0] 5)).heap[wr.heap.size]? = some (.cells #[.int .u8 0] 5 (0, 0)) := by
        have := heap_alloc_new (wr.setCell ⟨U, 0, none⟩ (.int .i64 0)) (.cells #[.int .u8 0] 5)
        rwa [setCell_size] at this
      refine (hex_any _ wr.heap.size 1 x y e0 x0 x1 _ g0).mono ?_
      rintro e w1 ⟨rfl, g1, _, n1, hw1⟩
      have v16 : 16 * x + y < 256 := by have := hexd_lt H3.out; have := hexd_lt H4.out; omega
      have HI1 : Hid (Inv w w1 w.heap.size F U R T hi ⟨#[]⟩ { p with uts := 0 }) := by
        have := (hI.out.setU 0).scratch #[.int .u8 0] n1 (.int .u8 ((16 * x + y : Nat) : Int))
        rw [setCell_size] at this
        rw [hw1]; exact this
      have g2 : w1.cell? ⟨wr.heap.size, 0, none⟩ = some (.int .u8 ((16 * x + y : Nat) : Int)) := cell_one g1
      clear g1 hw1 g0 x0 x1 e0 q0 q1 q2 q3 q4 q5 q6 q7 q8 q9 hi0 cU fU
      generalize hv : 16 * x + y = v at v16 g2 H5
      go_wp2_with fail
      refine (write_any HI1.out v v16 bl).mono ?_
      rintro e w2 ⟨rfl, hI2⟩
      have HI2 := Lib.hid hI2
      clear hI2
      go_wp2_with fail
      go_roundg (s.size - (k + 2))
      case measure => have := hm.out; omega
      case rel => exact ⟨R, T, hi, _, k + 2, rfl, rfl, rfl, vint (by omega), rfl, by omega, H5.out, Nat.zero_le _, by have := hbl.out; simp [Hid]; omega, by have := hpl.out; exact (by omega : p.part.length ≤ k + 2), by have := hdl.out; exact (by omega : p.dn.length ≤ k + 2), HI2.out.esc' false⟩
    | slash _ _ h1 h2 h3 h4 =>
      have hi0 : ∀ W : World, (Instr.index 9 (.string s) (.int .i64 k)).run Tryd.prog W = .ok (.int .u8 92) W := fun W => by have := run_b8 s k h1 W; rw [h3] at this; exact this
      rw [h2]
      have H4 := Lib.hid h4
      clear h4 h3 h2
      go_wp2_with fail
      go_roundg (s.size - (k + 1))
      case measure => have := hm.out; omega
      case rel => exact ⟨R, T, hi, _, k + 1, rfl, rfl, rfl, rfl, rfl, by omega, H4.out, Nat.zero_le _, by have := hbl.out; exact (by omega : p.buf.length ≤ k + 1), by have := hpl.out; exact (by omega : p.part.length ≤ k + 1), by have := hdl.out; exact (by omega : p.dn.length ≤ k + 1), (hI.out.setU 0).esc' true⟩
    | eq _ _ h1 h2 h3 h4 h5 =>
      have hi0 : ∀ W : World, (Instr.index 9 (.string s) (.int .i64 k)).run Tryd.prog W = .ok (.int .u8 61) W := fun W => by have := run_b8 s k h1 W; rw [h3] at this; exact this
      rw [h2]
      have H2 := Lib.hid h2
      have H4 := Lib.hid h4
      have H5 := Lib.hid h5
      clear h2 h3 h4 h5
      have bl : p.buf.length ≤ 1000000 := by have := hbl.out; omega
      go_wp2_with fail
      refine (text_any hI.out hu.out bl).mono ?_
      rintro e w1 ⟨rfl, hI1⟩
      have HI1 := Lib.hid hI1
      clear hI1
      have cT : w1.cell? ⟨T, 0, none⟩ = some (.string p.typ) := by rw [Lib.cell_of_heap HI1.out.hT]; rfl
      have fT : w1.frozen? ⟨T, 0, none⟩ = false := Lib.frozen_of_heap HI1.out.hT 0
      by_cases hn : k + 1 < s.size
      · have hi1 : ∀ W : World, (Instr.index 9 (.string s) (.int .i64 ((k : Int) + 1))).run Tryd.prog W = .ok (.int .u8 (b8 s (k + 1))) W := run_b8 s (k + 1) hn
        have q0 : (b8 s (k + 1) : Int) ≠ 35 := by have := H4.out hn; omega
        generalize b8 s (k + 1) = c at q0 hi1
        have x0 : ((c : Int) == 35) = false := beq_eq_false_iff_ne.2 q0
        have y0 : decide ((c : Int) = 35) = false := decide_eq_false q0
        clear q0
        go_wp2_with fail
        go_roundg (s.size - (k + 1))
        case measure => have := hm.out; omega
        case rel => exact ⟨R, T, hi, { p with uts := 0, buf := [], typ := p.text }, k + 1, rfl, rfl, vbool H2.out, rfl, rfl, by omega, H5.out, Nat.le_refl _, Nat.zero_le _, by have := hpl.out; exact (by omega : p.part.length ≤ k + 1), by have := hdl.out; exact (by omega : p.dn.length ≤ k + 1), HI1.out.setTyp p.text⟩
      · have hk1 : k + 1 = s.size := by omega
        have z0 : decide ((k : Int) + 1 < s.size) = false := decide_eq_false (by omega)
        go_wp2_with fail
        go_roundg (s.size - (k + 1))
        case measure => have := hm.out; omega
        case rel => exact ⟨R, T, hi, { p with uts := 0, buf := [], typ := p.text }, k + 1, rfl, rfl, vbool H2.out, rfl, rfl, by omega, H5.out, Nat.le_refl _, Nat.zero_le _, by have := hpl.out; exact (by omega : p.part.length ≤ k + 1), by have := hdl.out; exact (by omega : p.dn.length ≤ k + 1), HI1.out.setTyp p.text⟩
    | plus _ _ h1 h2 h3 h4 h5 =>
      have hi0 : ∀ W : World, (Instr.index 9 (.string s) (.int .i64 k)).run Tryd.prog W = .ok (.int .u8 43) W := fun W => by have := run_b8 s k h1 W; rw [h3] at this; exact this
      rw [h2]
      have H2 := Lib.hid h2
      have H5 := Lib.hid h5
      clear h2 h3 h5
      have bl : p.buf.length ≤ 1000000 := by have := hbl.out; omega
      have cT : wr.cell? ⟨T, 0, none⟩ = some (.string p.typ) := by rw [Lib.cell_of_heap hI.out.hT]; rfl
      have z1 : decide ((p.typ.size : Int) = 0) = false := decide_eq_false (by omega)
      have z2 : ((p.typ.size : Int) == 0) = false := beq_eq_false_iff_ne.2 (by omega)
      go_wp2_with fail
      refine (text_any hI.out hu.out bl).mono ?_
      rintro e w1 ⟨rfl, hI1⟩
      clear cT cU fU
      have HI1 := Lib.hid hI1
      clear hI1
      have cT : w1.cell? ⟨T, 1, none⟩ = some (.string ⟨#[]⟩) := by rw [Lib.cell_of_heap HI1.out.hT]; rfl
      have fT : w1.frozen? ⟨T, 1, none⟩ = false := Lib.frozen_of_heap HI1.out.hT 1
      go_upto_region 54 with fail
      have HI2 := Lib.hid (HI1.out.setVal p.text)
      clear cT fT HI1
      generalize w1.setCell ⟨T, 1, none⟩ (.string p.text) = w2 at HI2 ⊢
      obtain ⟨v, ps, b1, b2, b3⟩ := HI2.out.hR
      have cR : w2.cell? ⟨R, 0, none⟩ = some v := cell_one b1
      have n0 := World.new_ne w2 _ cR
      have NW := Lib.hid (heap_alloc_new w2 (.cells #[ptr T] 51))
      have O2 := Lib.hid b2
      have B1 := Lib.hid b1
      have A3 := Lib.hid b3
      have nv : some R ≠ v.ownBlock := own_block b2 b1 (by decide)
      have lR : R < w2.heap.size := Lib.lt_of_heap b1
      have pl : p.part.length ≤ 100000 := by have := hpl.out; omega
      have hB : hi ≤ w2.heap.size := by have := HI2.out.lR; omega
      clear b1 b2 b3
      go_wp2_with (at_builtin; go_loud (refine wpList_append_lies _ rfl _ _ _ rfl hi 51 i0 _ 1 8 Tryd.underlying46 hi0' hz0 hz1 hz2 rfl (by omega) v p.part.length (ps.map ptr) rfl (O2.out.alloc _) ⟨w2.heap.size, 0, none⟩ 1 1 [ptr T] rfl rfl (World.news_of_block (cs := #[ptr T]) (t := 51) (fr := (0, 0)) NW.out) (by simp [Value.oneCell']) (by omega) (by unfold maxLen; omega) (by omega) (by simp <;> omega) (w2.heap.size + 1) (by simp) ?_; intro gg cap w3 hown hgrow hat hlt3; have R3 := Lib.hid (keep_block hgrow nv (by simp <;> omega) ((Below.heap_alloc _ _ _ lR).trans B1.out)); have cR3 : w3.cell? ⟨R, 0, none⟩ = some v := cell_one R3.out; have fR3 : w3.frozen? ⟨R, 0, none⟩ = false := Lib.frozen_of_heap R3.out 0; have PU := Lib.hid (HI2.out.push B1.out O2.out A3.out hown rfl hgrow hlt3); clear hown hgrow hat))
      go_roundg (s.size - (k + 1))
      case measure => have := hm.out; omega
      case rel => exact ⟨R, w3.heap.size, hi, { p with uts := 0, buf := [], typ := ⟨#[]⟩, part := p.part ++ [(p.typ, p.text)] }, k + 1, rfl, rfl, vbool H2.out, rfl, rfl, by omega, H5.out, Nat.le_refl _, Nat.zero_le _, by have := hpl.out; simp [Hid]; omega, by have := hdl.out; exact (by omega : p.dn.length ≤ k + 1), (Inv.newT p.esc PU.out.1 PU.out.2.1 HI2.out.lhi (setCell_size _ _ _).symm PU.out.2.2.1).1⟩
    | comma _ _ h1 h2 h3 h4 h5 =>
      have hi0 : ∀ W : World, (Instr.index 9 (.string s) (.int .i64 k)).run Tryd.prog W = .ok (.int .u8 44) W := fun W => by have := run_b8 s k h1 W; rw [h3] at this; exact this
      rw [h2]
      have H2 := Lib.hid h2
      have H5 := Lib.hid h5
      clear h2 h3 h5
      have bl : p.buf.length ≤ 1000000 := by have := hbl.out; omega
      have cT : wr.cell? ⟨T, 0, none⟩ = some (.string p.typ) := by rw [Lib.cell_of_heap hI.out.hT]; rfl
      have z1 : decide ((p.typ.size : Int) = 0) = false := decide_eq_false (by omega)
      have z2 : ((p.typ.size : Int) == 0) = false := beq_eq_false_iff_ne.2 (by omega)
      go_wp2_with fail
      refine (text_any hI.out hu.out bl).mono ?_
      rintro e w1 ⟨rfl, hI1⟩
      clear cT cU fU
      have HI1 := Lib.hid hI1
      clear hI1
      have cT : w1.cell? ⟨T, 1, none⟩ = some (.string ⟨#[]⟩) := by rw [Lib.cell_of_heap HI1.out.hT]; rfl
      have fT : w1.frozen? ⟨T, 1, none⟩ = false := Lib.frozen_of_heap HI1.out.hT 1
      go_upto_region 54 with fail
      have HI2 := Lib.hid (HI1.out.setVal p.text)
      clear cT fT HI1
      generalize w1.setCell ⟨T, 1, none⟩ (.string p.text) = w2 at HI2 ⊢
      obtain ⟨v, ps, b1, b2, b3⟩ := HI2.out.hR
      have cR : w2.cell? ⟨R, 0, none⟩ = some v := cell_one b1
      have n0 := World.new_ne w2 _ cR
      have NW := Lib.hid (heap_alloc_new w2 (.cells #[ptr T] 51))
      have O2 := Lib.hid b2
      have B1 := Lib.hid b1
      have A3 := Lib.hid b3
      have nv : some R ≠ v.ownBlock := own_block b2 b1 (by decide)
      have lR : R < w2.heap.size := Lib.lt_of_heap b1
      have pl : p.part.length ≤ 100000 := by have := hpl.out; omega
      have hB : hi ≤ w2.heap.size := by have := HI2.out.lR; omega
      clear b1 b2 b3
      go_upto_region 57 with (at_builtin; go_loud (refine wpList_append_lies _ rfl _ _ _ rfl hi 51 i0 _ 1 8 Tryd.underlying46 hi0' hz0 hz1 hz2 rfl (by omega) v p.part.length (ps.map ptr) rfl (O2.out.alloc _) ⟨w2.heap.size, 0, none⟩ 1 1 [ptr T] rfl rfl (World.news_of_block (cs := #[ptr T]) (t := 51) (fr := (0, 0)) NW.out) (by simp [Value.oneCell']) (by omega) (by unfold maxLen; omega) (by omega) (by simp <;> omega) (w2.heap.size + 1) (by simp) ?_; intro gg cap w3 hown hgrow hat hlt3; have R3 := Lib.hid (keep_block hgrow nv (by simp <;> omega) ((Below.heap_alloc _ _ _ lR).trans B1.out)); have cR3 : w3.cell? ⟨R, 0, none⟩ = some v := cell_one R3.out; have fR3 : w3.frozen? ⟨R, 0, none⟩ = false := Lib.frozen_of_heap R3.out 0; have PU := Lib.hid (HI2.out.push B1.out O2.out A3.out hown rfl hgrow hlt3); clear hown hgrow hat))
      have NT := Lib.hid (Inv.newT p.esc PU.out.1 PU.out.2.1 HI2.out.lhi (setCell_size _ _ _).symm PU.out.2.2.1)
      have lh := HI2.out.lhi
      have l3 : hi ≤ w3.heap.size := by have := PU.out.2.2.1.1; have := PU.out.2.2.1.2.1; omega
      clear cR3 fR3 PU R3 hlt3 cR n0 NW O2 B1 A3 nv lR pl hB HI2
      generalize (w3.setCell ⟨R, 0, none⟩ (.slice (some ⟨gg, 0, none⟩) (p.part.length + 1) cap)).alloc (.cells #[.string ⟨#[]⟩, .string ⟨#[]⟩] 50) = w5 at NT ⊢
      generalize w3.heap.size = T2 at NT l3 ⊢
      obtain ⟨v, bs, b1, b2, b3⟩ := NT.out.1.hD
      have cD : w5.cell? ⟨w.heap.size, 0, none⟩ = some v := cell_one b1
      have n0 := World.new_ne w5 _ cD
      have NW := Lib.hid (heap_alloc_new w5 (.cells #[ptr R] 49))
      have O2 := Lib.hid b2
      have B1 := Lib.hid b1
      have A3 := Lib.hid b3
      have nv : some w.heap.size ≠ v.ownBlock := own_block b2 b1 (by decide)
      have lR : w.heap.size < w5.heap.size := Lib.lt_of_heap b1
      have pl : p.dn.length ≤ 100000 := by have := hdl.out; omega
      clear b1 b2 b3
      go_wp2_with (at_builtin; go_loud (refine wpList_append_lies _ rfl _ _ _ rfl w.heap.size 49 j0 _ 1 8 Tryd.underlying43 hj0 jz0 jz1 jz2 rfl (by omega) v p.dn.length (bs.map ptr) rfl (O2.out.alloc _) ⟨w5.heap.size, 0, none⟩ 1 1 [ptr R] rfl rfl (World.news_of_block (cs := #[ptr R]) (t := 49) (fr := (0, 0)) NW.out) (by simp [Value.oneCell']) (by omega) (by unfold maxLen; omega) (by omega) (by simp <;> omega) (w5.heap.size + 1) (by simp) ?_; intro gg cap w6 hown hgrow hat hlt6; have R6 := Lib.hid (keep_block hgrow nv (by simp <;> omega) ((Below.heap_alloc _ _ _ lR).trans B1.out)); have cR6 : w6.cell? ⟨w.heap.size, 0, none⟩ = some v := cell_one R6.out; have fR6 : w6.frozen? ⟨w.heap.size, 0, none⟩ = false := Lib.frozen_of_heap R6.out 0; have PU := Lib.hid (HasD.push NT.out.1.com lh l3 NT.out.2 B1.out O2.out A3.out hown rfl hgrow); clear hown hgrow hat))
      have HT6 := Lib.hid (PU.out.2.2.1 T2 _ 50 (fun e => by simp at e) NT.out.1.hT)
      have lh2 : w.heap.size ≤ T2 := by omega
      go_roundg (s.size - (k + 1))
      case measure => have := hm.out; omega
      case rel => exact ⟨w6.heap.size, T2, T2, { p with uts := 0, buf := [], typ := ⟨#[]⟩, part := [], dn := p.dn ++ [p.part ++ [(p.typ, p.text)]] }, k + 1, rfl, rfl, vbool H2.out, rfl, rfl, by omega, H5.out, Nat.le_refl _, Nat.zero_le _, Nat.zero_le _, by have := hdl.out; simp [Hid]; omega, Inv.newR p.esc PU.out.1 PU.out.2.1 lh2 (Nat.le_refl _) HT6.out (setCell_size _ _ _).symm⟩
    | other _ _ h1 h2 h3 h4 h5 h6 h7 h8 =>
      have hi0 : ∀ W : World, (Instr.index 9 (.string s) (.int .i64 k)).run Tryd.prog W = .ok (.int .u8 (b8 s k)) W := run_b8 s k h1
      have c256 := b8_lt s k
      rw [h2]
      have H2 := Lib.hid h2
      clear h2
      generalize b8 s k = c at h3 h4 h5 h6 h7 h8 hi0 c256
      have H7 := Lib.hid h7
      have H8 := Lib.hid h8
      have bl : p.buf.length ≤ 1000000 := by have := hbl.out; omega
      have q0 : (c : Int) ≠ 92 := by omega
      have q1 : (c : Int) ≠ 61 := by omega
      have q2 : (c : Int) ≠ 44 := by omega
      have q3 : (c : Int) ≠ 43 := by omega
      clear h3 h4 h5 h6 h7 h8
      by_cases h32 : c = 32
      · have H8' : Hid (Parses s RR (k + 1) { p with uts := p.uts + 1, buf := p.buf ++ [UInt8.ofNat 32] }) := by have := H8.out; rw [if_pos h32, h32] at this; exact this
        clear H8
        subst h32
        have bn : p.buf.length ≠ 0 := fun e => H7.out rfl (List.length_eq_zero_iff.1 e)
        have bn1 : decide ((p.buf.length : Int) = 0) = false := decide_eq_false (by omega)
        have bn2 : ((p.buf.length : Int) == 0) = false := beq_eq_false_iff_ne.2 (by omega)
        have BN := Lib.hid bn
        have ub : p.uts ≤ 1000000 := by have := hu.out; omega
        clear bn
        go_wp2_with fail
        refine (len_any hI.out).mono ?_
        rintro e w1 ⟨rfl, n1, rfl⟩
        have HI1 : Hid (Inv w (wr.drewN n1) w.heap.size F U R T hi ⟨#[]⟩ p) := hI.out.drewN n1
        generalize wr.drewN n1 = w1 at HI1 ⊢
        have cU1 : w1.cell? ⟨U, 0, none⟩ = some (.int .i64 p.uts) := cell_one HI1.out.hU
        have fU1 : w1.frozen? ⟨U, 0, none⟩ = false := Lib.frozen_of_heap HI1.out.hU 0
        go_wp2_with fail
        refine (write_any (HI1.out.setU (p.uts + 1)) 32 (by decide) bl).mono ?_
        rintro e w2 ⟨rfl, hI2⟩
        have HI2 := Lib.hid hI2
        clear hI2
        go_wp2_with fail
        go_roundg (s.size - (k + 1))
        case measure => have := hm.out; omega
        case rel => exact ⟨R, T, hi, { p with uts := p.uts + 1, buf := p.buf ++ [UInt8.ofNat 32] }, k + 1, rfl, rfl, vbool H2.out, rfl, rfl, by omega, H8'.out, by have := hu.out; simp [Hid]; omega, by have := hbl.out; simp [Hid]; omega, by have := hpl.out; exact (by omega : p.part.length ≤ k + 1), by have := hdl.out; exact (by omega : p.dn.length ≤ k + 1), HI2.out⟩
      · have q4 : (c : Int) ≠ 32 := by omega
        have H8' : Hid (Parses s RR (k + 1) { p with uts := 0, buf := p.buf ++ [UInt8.ofNat c] }) := by have := H8.out; rw [if_neg h32] at this; exact this
        clear H8 H7 h32
        have x44 : ((c : Int) == 44) = false := beq_eq_false_iff_ne.2 q2
        have y44 : decide ((c : Int) = 44) = false := decide_eq_false q2
        have x43 : ((c : Int) == 43) = false := beq_eq_false_iff_ne.2 q3
        have y43 : decide ((c : Int) = 43) = false := decide_eq_false q3
        have x32 : ((c : Int) == 32) = false := beq_eq_false_iff_ne.2 q4
        have y32 : decide ((c : Int) = 32) = false := decide_eq_false q4
        clear q2 q3 q4
        go_wp2_with fail
        refine (write_any (hI.out.setU 0) c c256 bl).mono ?_
        rintro e w2 ⟨rfl, hI2⟩
        have HI2 := Lib.hid hI2
        clear hI2
        go_wp2_with fail
        go_roundg (s.size - (k + 1))
        case measure => have := hm.out; omega
        case rel => exact ⟨R, T, hi, { p with uts := 0, buf := p.buf ++ [UInt8.ofNat c] }, k + 1, rfl, rfl, vbool H2.out, rfl, rfl, by omega, H8'.out, Nat.zero_le _, by have := hbl.out; simp [Hid]; omega, by have := hpl.out; exact (by omega : p.part.length ≤ k + 1), by have := hdl.out; exact (by omega : p.dn.length ≤ k + 1), HI2.out⟩
end Go.Proofs.YtdacmcbipnnneaaDoor
