/- The walks of getMappingFunctionArgs and of zzTrim. -/
import Derived.Test.YtpiceaehfpljnaaDoorMpYA
import Derived.Test.YtpiceaehfpljnaaDoorMpM
namespace Go.Proofs.YtpiceaehfpljnaaDoor
open Go.RowKit Mp
attribute [local go_sem ↓] Go.wp_at_zero Go.wp_at_succ
set_option linter.unusedVariables false
set_option linter.unusedSimpArgs false
set_option maxRecDepth 1000000
set_option maxHeartbeats 8000000

theorem sa_one (s : ByteArray) (hz : s.size < 1000000) (h : ∀ i, i < s.size → b8 s i ≠ 44) (w : World) : Calls Tryd.prog 73 #[.string s] w fun e w' => ∃ v, e = .returned v ∧ Strs w' w.heap.size v [s] ∧ Below w.heap.size w w' := by
  obtain ⟨i0, hi0, hz0, hz1, hz2⟩ := info_parts info9
  have H := Lib.hid h
  clear h
  go_enter Tryd.func73, Tryd.ntmps73
  go_wp2_with fail
  go_loopg [3, 4, 5] s.size (fun gk v3 v4 v5 w' => ∃ k : Nat, v3 = .slice none 0 0 ∧ v4 = .int .i64 0 ∧ v5 = .int .i64 (k : Nat) ∧ gk + k = s.size ∧ w' = w)
  case atStart => exact ⟨0, rfl, rfl, rfl, rfl, rfl⟩
  case round =>
    obtain ⟨k, rfl, rfl, rfl, hgk, rfl⟩ := hrel
    by_cases hk : k < s.size
    · have d1 : decide ((k : Int) < (s.size : Int)) = true := decide_eq_true (by omega)
      have d2 : decide (k < s.size) = true := decide_eq_true hk
      have hc := H.out k hk
      rw [b8_get2' s k hk] at hc
      have q1 : (((s[k]'hk).toNat : Int) == 44) = false := beq_eq_false_iff_ne.2 (by omega)
      clear hc
      go_wp2_with fail
      go_roundg (gk - 1)
      case measure => omega
      case rel => exact ⟨k + 1, rfl, rfl, by simp, by omega, rfl⟩
    · have d1 : decide ((k : Int) < (s.size : Int)) = false := decide_eq_false (by omega)
      have d2 : decide (k < s.size) = false := decide_eq_false (by omega)
      have OO : Hid ((wr.alloc (.cells #[.string s] 9)).ownsRow wr.heap.size 9 1 (.slice none 0 0) 0 []) := Lib.hid (World.ownsRow_nil _ _ _ _)
      have NN : Hid ((wr.alloc (.cells #[.string s] 9)).heap[wr.heap.size]? = some (.cells #[.string s] 9 (0, 0))) := Lib.hid (heap_alloc_last wr _)
      have he : s.extract 0 s.size = s := ext_zero s
      go_wp2_with (at_builtin; refine wpList_append_lies _ rfl (.tmp 29) (.tmp 33) 23 rfl wr.heap.size 9 i0 (.string ⟨#[]⟩) 1 16 Tryd.underlying23 hi0 hz0 hz1 hz2 rfl (by omega) (.slice none 0 0) 0 [] rfl OO.out ⟨wr.heap.size, 0, none⟩ 1 1 [.string s] rfl rfl (World.news_of_block NN.out) (by simp [Value.oneCell']) (by omega) (by unfold maxLen; omega) (by omega) (by simp) _ rfl ?_)
      intro gg gcap w4 hown4 hgrow hat hlt4
      have H4 : Hid (Strs w4 wr.heap.size (.slice (some ⟨gg, 0, none⟩) 1 gcap) [s] ∧ Below wr.heap.size wr w4) := Lib.hid ⟨hown4, ((Below.refl _ wr).alloc (Nat.le_refl _) _).trans (grown_below hgrow (fun k hk => by simp [Value.ownBlock] at hk) (by simp))⟩
      clear hown4 hgrow hat
      go_wp2_with fail
      go_ret
      exact ⟨_, rfl, H4.out.1, H4.out.2⟩

theorem gm_none (name s : ByteArray) (h0 : 0 < name.size ∧ name.size < 1000) (hM : Mus s) (hn : ¬ Like (b8 s 2) (b8 name 0)) (w : World) : Calls Tryd.prog 61 #[.string name, .string s] w fun e w' => e = .returned (.slice none 0 0) ∧ w' = w := by
  have HN := Lib.hid (fa_none name s h0 hM hn w)
  clear hM hn
  go_enter Tryd.func61, Tryd.ntmps61
  go_wp2_with fail
  refine HN.out.mono ?_
  rintro e w1 ⟨rfl, rfl⟩
  go_wp2_with fail
  go_ret
  exact ⟨rfl, rfl⟩
theorem gm_some (name s : ByteArray) (n : Nat) (h0 : 0 < name.size ∧ name.size < 1000) (hF : Fun1 s name.size n) (hn : ∀ k, k < name.size → b8 name k < 256 ∧ Like (b8 s (2 + k)) (b8 name k)) (hc : ∀ i, i < (s.extract (name.size + 3) (name.size + n + 3)).size → b8 (s.extract (name.size + 3) (name.size + n + 3)) i ≠ 44) (w : World) :
    Calls Tryd.prog 61 #[.string name, .string s] w fun e w' => ∃ g c, e = .returned (.slice (some ⟨g, 0, none⟩) 1 c) ∧ StrsAt w' g [s.extract (name.size + 3) (name.size + n + 3)] ∧ Below w.heap.size w w' := by
  have HN := Lib.hid (fa_some name s n h0 hF hn w)
  have hz := hF.m.z.2
  obtain ⟨x, hx⟩ : ∃ x, s.extract (name.size + 3) (name.size + n + 3) = x := ⟨_, rfl⟩
  have hxz : x.size < 1000000 := by rw [← hx]; simp; omega
  rw [hx] at HN hc ⊢
  have HS := Lib.hid (fun W => sa_one x hxz hc W)
  clear hF hn hc hx
  go_enter Tryd.func61, Tryd.ntmps61
  go_wp2_with fail
  refine HN.out.mono ?_
  rintro e w1 ⟨rfl, rfl⟩
  go_wp2_with fail
  refine (HS.out _).mono ?_
  rintro e w2 ⟨v, rfl, o, hb⟩
  obtain ⟨g, c, rfl, _, _, at1⟩ := o.at (by simp)
  have HA := Lib.hid at1
  have HB := Lib.hid hb
  clear o at1 hb
  go_wp2_with fail
  go_ret
  exact ⟨g, c, rfl, HA.out, HB.out⟩

abbrev spS : ByteArray := ⟨#[32]⟩
theorem inset_any (c : Nat) (h : c ≠ 32) (w : World) : Calls Tryd.prog 83 #[.int .i32 (c : Nat), .string spS] w fun e w' => e = .returned (.bool false) ∧ Below w.heap.size w w' := by
  have q1 : ((c : Int) == 32) = false := beq_eq_false_iff_ne.2 (by omega)
  clear h
  have hA : Asc spS := by
    intro k hk
    match k, hk with
    | 0, _ => decide
  have hn0 := next_in (w := w.iter spS 0) (b := w.heap.size) (k := 0) (iter_new w spS) (by decide) hA
  have hi1 := Lib.iterAt_heap (w.iter spS 0) w.heap.size spS 0 1 (iter_new w spS)
  have hn1 := fun ty => Lib.run_next_end_at (P := Tryd.prog) _ w.heap.size spS 1 ty hi1 (by decide)
  have hb : Below w.heap.size w ((w.iter spS 0).iterAt w.heap.size spS 1) := below_iter (iter_below (Below.refl _ w) (Nat.le_refl _) spS) (Nat.le_refl _) spS 1
  rw [show b8 spS 0 = 32 from rfl] at hn0
  generalize (w.iter spS 0).iterAt w.heap.size spS 1 = w2 at hn0 hn1 hb hi1
  have HB := Lib.hid hb
  clear hb hi1 hA
  go_enter Tryd.func83, Tryd.ntmps83
  go_wp2_with fail
  refine wp_loop_rounds 2 ?_
  rw [rounds_succ]
  go_wp2_with fail
  rw [rounds_succ]
  go_wp2_with fail
  go_ret
  exact ⟨rfl, HB.out⟩
theorem trimL (s : ByteArray) (h0 : 0 < s.size) (hA : Asc s) (h : b8 s 0 ≠ 32) (w : World) : Calls Tryd.prog 75 #[.string s, .string spS] w fun e w' => e = .returned (.string s) ∧ Below w.heap.size w w' := by
  have hn0 := next_in (w := w.iter s 0) (b := w.heap.size) (k := 0) (iter_new w s) h0 hA
  have hb : Below w.heap.size w ((w.iter s 0).iterAt w.heap.size s 1) := below_iter (iter_below (Below.refl _ w) (Nat.le_refl _) s) (Nat.le_refl _) s 1
  generalize (w.iter s 0).iterAt w.heap.size s 1 = w2 at hn0 hb
  have HB := Lib.hid hb
  have HI := Lib.hid (inset_any (b8 s 0) h w2)
  have he : s.extract 0 s.size = s := ext_zero s
  clear hb hA h
  go_enter Tryd.func75, Tryd.ntmps75
  go_wp2_with fail
  refine wp_loop_rounds 1 ?_
  rw [rounds_succ]
  go_wp2_with fail
  refine HI.out.mono ?_
  rintro e w3 ⟨rfl, hb3⟩
  have HB3 := Lib.hid (HB.out.trans (hb3.mono HB.out.size))
  clear hb3
  go_wp2_with fail
  go_ret
  exact ⟨rfl, HB3.out⟩
theorem below_dn0 {B : Nat} {w w1 : World} (h : Below B w w1) (n : Nat) : Below B w (w1.drewN n) := ⟨h.os, h.tape, h.output, h.size, h.block⟩
theorem trimR (s : ByteArray) (h0 : 0 < s.size) (hz : s.size < 1000000) (h : b8 s (s.size - 1) ≠ 32) (w : World) : Calls Tryd.prog 74 #[.string s, .string spS] w fun e w' => e = .returned (.string s) ∧ Below w.heap.size w w' := by
  obtain ⟨m, hm⟩ : ∃ m, s.size = m + 1 := ⟨s.size - 1, by omega⟩
  have hml : m < s.size := by omega
  rw [show s.size - 1 = m by omega, b8_get2' s m hml] at h
  have q1 : ((32 : Int) == ((s[m]'hml).toNat : Int)) = false := beq_eq_false_iff_ne.2 (by omega)
  have hsp : 0 < spS.size := by decide
  have q0 : (((spS[0]'hsp).toNat : Int) == ((s[m]'hml).toNat : Int)) = false := q1
  have q2 : (((s[m]'hml).toNat : Int) == 32) = false := beq_eq_false_iff_ne.2 (by omega)
  have e1 : (s.size : Int) - 1 = (m : Int) := by omega
  have e2 : IntKind.i64.wrap (m : Int) = (m : Int) := IntWalk.i64_in _ ⟨by omega, by omega⟩
  have d1 : decide ((0 : Int) < (s.size : Int)) = true := decide_eq_true (by omega)
  have d2 : decide (0 < s.size) = true := decide_eq_true h0
  have q5 : (m < s.size) = True := eq_true hml
  have q6 : ((m : Int) < (s.size : Int)) = True := eq_true (by omega)
  have q7 : (s.size ≤ m) = False := eq_false (by omega)
  have q8 : ((s.size : Int) ≤ (m : Int)) = False := eq_false (by omega)
  have q9 : ((m : Int) < 0) = False := eq_false (by omega)
  have q10 : (0 ≤ (m : Int)) = True := eq_true (by omega)
  have he : s.extract 0 s.size = s := ext_zero s
  clear h hm
  go_enter Tryd.func74, Tryd.ntmps74
  go_wp2_with fail
  refine wp_loop_rounds 1 ?_
  rw [rounds_succ]
  go_wp2_with fail
  refine wp_loop_rounds 2 ?_
  rw [rounds_succ]
  go_wp2_with fail
  go_quiet (fail)
  rename_i nq
  go_wp2_with fail
  rw [rounds_succ]
  go_wp2_with fail
  go_ret
  exact ⟨rfl, below_dn0 (Below.refl _ w) _⟩
theorem trim_any (s : ByteArray) (h0 : 0 < s.size) (hz : s.size < 1000000) (hA : Asc s) (h : b8 s 0 ≠ 32) (h2 : b8 s (s.size - 1) ≠ 32) (w : World) : Calls Tryd.prog 62 #[.string s, .string spS] w fun e w' => e = .returned (.string s) ∧ Below w.heap.size w w' := by
  have H1 := Lib.hid (trimL s h0 hA h w)
  have H2 := Lib.hid (fun W => trimR s h0 hz h2 W)
  clear hA h h2
  go_enter Tryd.func62, Tryd.ntmps62
  go_wp2_with fail
  refine H1.out.mono ?_
  rintro e w1 ⟨rfl, hb⟩
  have HB := Lib.hid hb
  clear hb
  go_wp2_with fail
  refine (H2.out w1).mono ?_
  rintro e w2 ⟨rfl, hb⟩
  have HB2 := Lib.hid (HB.out.trans (hb.mono HB.out.size))
  clear hb
  go_wp2_with fail
  go_ret
  exact ⟨rfl, HB2.out⟩
end Go.Proofs.YtpiceaehfpljnaaDoor
