/- The walk of NewSubjectTransformWithStrict: a round at a wildcard. -/
import Derived.Test.YtpiceaehfpljnaaDoorMpQ
namespace Go.Proofs.YtpiceaehfpljnaaDoor
open Go.RowKit Mp Mpm
attribute [local go_sem ↓] Go.wp_at_zero Go.wp_at_succ
set_option linter.unusedVariables false
set_option linter.unusedSimpArgs false
set_option maxRecDepth 1000000
set_option maxHeartbeats 8000000

theorem wild2 (u : Nat → Value) (w0 : World) (B gd c b n np kk pos N ty : Nat) (num : Int) (P : List Nat) (ds : List ByteArray) (t : ByteArray) (ps : List Ph) (W : World) (Q : Exit → Act → World → Prop) (hSur : Sur W) (hS : StrsAt W gd ds) (hR : RW w0 B W (u 16) (u 17) (u 18) (u 19) ps) (hk : ps.length < ds.length) (hl : ds.length < 1000) (ht : ds[ps.length]? = some t) (hC : PhC t (.ok ty [(kk : Int)] num)) (hty : ty ≠ 0 ∧ ty < 100) (hM : MapAt w0 Tryd.prog 3 (some b) n (gl 0 P)) (hbB : b < B) (hkk : 1 ≤ kk ∧ kk ≤ np) (hnp : np < 1000) (hN : N < 100000) (hP : P[kk - 1]? = some pos)
    (u10 : u 10 = .int .i64 (np : Nat)) (u20 : u 20 = .map (some b)) (u23 : u 23 = .int .i64 (N : Nat)) (u2 : u 2 = .bool false) (u81 : u 102 = .slice (some ⟨gd, 0, none⟩) ds.length c) (u82 : u 103 = .int .i64 (ds.length : Nat)) (u83 : u 104 = .int .i64 (ps.length : Nat))
    (HQ : Hid (∀ a W', a = FrameU (uOf a) → KeepU u (uOf a) → uOf a 20 = u 20 → uOf a 23 = .int .i64 ((N + 1 : Nat) : Int) → uOf a 102 = u 102 → uOf a 103 = u 103 → uOf a 104 = .int .i64 ((ps.length + 1 : Nat) : Int) → RW w0 B W' (uOf a 16) (uOf a 17) (uOf a 18) (uOf a 19) (ps ++ [⟨ty, [(pos : Int)], num⟩]) → Q .normal a W')) :
    Code.wp Tryd.prog (L32 1) Q (FrameU u) W := by
  obtain ⟨y0, hy0, hy1, hy2, hy3⟩ := info_parts info90
  obtain ⟨x0, hx0, hx1, hx2, hx3⟩ := info_parts info53
  obtain ⟨i0, hi0, hi1, hi2, hi3⟩ := info_parts info21
  obtain ⟨z0, hz0, hz1, hz2, hz3⟩ := info_parts info9
  obtain ⟨k0, hk0, hk1, hk2, hk3⟩ := info_parts info3
  have d1 : decide ((ps.length : Int) < (ds.length : Int)) = true := decide_eq_true (by omega)
  have d2 : decide (ps.length < ds.length) = true := decide_eq_true hk
  have c0 := hS.2 ps.length hk
  have htt : ds[ps.length] = t := by rw [List.getElem?_eq_getElem hk] at ht; exact Option.some.inj ht
  rw [htt] at c0
  obtain ⟨v16, e16⟩ : ∃ v, u 16 = v := ⟨_, rfl⟩
  obtain ⟨v17, e17⟩ : ∃ v, u 17 = v := ⟨_, rfl⟩
  obtain ⟨v18, e18⟩ : ∃ v, u 18 = v := ⟨_, rfl⟩
  obtain ⟨v19, e19⟩ : ∃ v, u 19 = v := ⟨_, rfl⟩
  rw [e16, e17, e18, e19] at hR
  have HR := Lib.hid hR
  have HSur := Lib.hid hSur
  have HC := Lib.hid (hC W hSur)
  clear hS hR hSur hC ht htt
  unfold FrameU
  conv => arg 2; whnf
  go_wp2_with fail
  refine HC.out.mono ?_
  rintro e Wa ⟨g0, c0', rfl, hI0, hb0⟩
  have HR0a := Lib.hid (HR.out.later hb0)
  have hbwa := HR0a.out.bw
  have HM := Lib.hid (hM.below HR0a.out.below (fun b' e => by cases e; exact hbB))
  have i0c := hI0.2 0 (by simp)
  rw [show ([(kk : Int)] : List Int)[0] = (kk : Int) from rfl] at i0c
  have ty1 : ((ty : Int) == 0) = false := beq_eq_false_iff_ne.2 (by omega)
  have ty2 : (ty == 0) = false := beq_eq_false_iff_ne.2 hty.1
  have ty3 : ((ty : Int) != 0) = true := by simp; omega
  have ty4 : (ty != 0) = true := by simp; exact hty.1
  have k1 : decide ((np : Int) < (kk : Int)) = false := decide_eq_false (by omega)
  have k2 : decide (np < kk) = false := decide_eq_false (by omega)
  have hgl : getL (kk : Int) (gl 0 P) = some (.int .i64 (pos : Nat)) := by
    have := gl_get 0 P (kk - 1) pos hP
    have e : 0 + (kk - 1) + 1 = kk := by omega
    rw [e] at this
    exact this
  have HGL := Lib.hid hgl
  have HTY := Lib.hid hty
  clear hI0 hb0 hgl hM hbB hP hty
  go_wp2_with fail
  refine wp_loop_rounds 2 ?_
  rw [rounds_succ]
  have OS0 : Hid ((Wa.alloc (.cells #[.int .i64 (pos : Nat)] 3)).ownsRow B 3 1 (.slice none 0 0) 0 []) := Lib.hid (World.ownsRow_nil _ _ _ _)
  have NS0 : Hid ((Wa.alloc (.cells #[.int .i64 (pos : Nat)] 3)).heap[Wa.heap.size]? = some (.cells #[.int .i64 (pos : Nat)] 3 (0, 0))) := Lib.hid (heap_alloc_last Wa _)
  go_wp2_with (first
    | (at_lookup; refine wpList_look _ rfl _ _ 89 rfl 3 3 Tryd.underlying3 Tryd.underlying89 (.int .i64 0) (Tryd.zeroValue3 _) (some b) n (gl 0 P) rfl HM.out (kk : Int) rfl (by omega) (by omega) ?_; rw [HGL.out, Option.getD_some])
    | (at_builtin; refine wpList_append_lies _ rfl (.tmp 164) (.tmp 168) 53 rfl B 3 k0 (.int .i64 0) 1 8 Tryd.underlying53 hk0 hk1 hk2 hk3 rfl (by omega) (.slice none 0 0) 0 [] rfl OS0.out ⟨Wa.heap.size, 0, none⟩ 1 1 [.int .i64 (pos : Nat)] rfl rfl (World.news_of_block NS0.out) (by simp [Value.oneCell']) (by omega) (by unfold maxLen; omega) (by omega) (by simp; omega) _ rfl ?_))
  intro gs cps W0 owns grows ats lts
  have hbas : Below Wa.heap.size Wa W0 := ((Below.refl _ Wa).alloc (Nat.le_refl _) _).trans (grown_below grows (fun k hk => by simp [Value.ownBlock] at hk) (by simp))
  have HR0 := Lib.hid (HR0a.out.later hbas)
  have hbw := HR0.out.bw
  obtain ⟨cs0, hcs0, hcs1⟩ : ∃ cs, W0.heap[gs]? = some (.cells cs 3 (0, 0)) ∧ cs[0]? = some (.int .i64 (pos : Nat)) := by
    obtain ⟨_, h | ⟨g, cap, cur, hv, _, hr, _, _, _, htk⟩⟩ := owns
    · exact absurd h.1 (by simp)
    · simp only [Value.slice.injEq, Option.some.injEq, Addr.mk.injEq] at hv
      obtain ⟨⟨rfl, _⟩, _⟩ := hv
      refine ⟨cur, hr, ?_⟩
      have h0 : (cur.toList.take (1 * 1))[0]? = some (.int .i64 (pos : Nat)) := by rw [htk]; rfl
      simpa [List.getElem?_take] using h0
  have HCS := Lib.hid hcs0
  have HCT := Lib.hid hcs1
  obtain ⟨xs, hxs, hXs⟩ := HR0.out.x
  obtain ⟨zs, hzs⟩ := HR0.out.z
  have HXO := Lib.hid hxs
  have HXS := Lib.hid hXs
  have HZO := Lib.hid hzs
  clear hxs hXs hzs owns grows ats lts hbas hcs0 hcs1 i0c
  go_wp2_with fail
  rw [rounds_succ]
  go_wp2_with (at_builtin; refine wpList_append_lies _ rfl (.tmp 171) (.tmp 173) 68 rfl B 90 y0 (.int .i16 0) 1 2 Tryd.underlying68 hy0 hy1 hy2 hy3 rfl (by omega) v16 ps.length (ps.map fun p => .int .i16 p.ty) rfl (HR0.out.y.alloc _) ⟨W0.heap.size, 0, none⟩ 1 1 [.int .i16 (ty : Nat)] rfl rfl (World.news_of_block (cs := #[.int .i16 (ty : Nat)]) (t := 90) (fr := (0, 0)) (heap_alloc_new _ _)) (by simp [Value.oneCell']) (by omega) (by unfold maxLen; omega) (by omega) (by simp; omega) _ rfl ?_)
  intro g1 cp1 W1 own1 grow1 at1 lt1
  have K1 := Lib.hid (kc_app HR0.out.y grow1 hbw)
  have O1 := Lib.hid own1
  have hbw1 : B ≤ W1.heap.size := Nat.le_trans hbw K1.out.2.size
  clear own1 grow1 at1 lt1
  have O2 : Hid ((W1.alloc (.cells #[.slice (some ⟨gs, 0, none⟩) 1 cps] 53)).ownsRow B 53 1 v17 ps.length xs) := Lib.hid ((own_kc HXO.out K1.out.1 (by decide)).alloc _)
  have N2 : Hid ((W1.alloc (.cells #[.slice (some ⟨gs, 0, none⟩) 1 cps] 53)).heap[W1.heap.size]? = some (.cells #[.slice (some ⟨gs, 0, none⟩) 1 cps] 53 (0, 0))) := Lib.hid (heap_alloc_last W1 _)
  go_wp2_with (at_builtin; refine wpList_append_lies _ rfl (.tmp 175) (.tmp 177) 69 rfl B 53 x0 (.slice none 0 0) 1 24 Tryd.underlying69 hx0 hx1 hx2 hx3 rfl (by omega) v17 ps.length xs rfl O2.out ⟨W1.heap.size, 0, none⟩ 1 1 [.slice (some ⟨gs, 0, none⟩) 1 cps] rfl rfl (World.news_of_block N2.out) (by simp [Value.oneCell']) (by omega) (by unfold maxLen; omega) (by omega) (by simp; omega) _ rfl ?_)
  intro g2 cp2 W2 own2 grow2 at2 lt2
  have K2 := Lib.hid (kc_app (own_kc HXO.out K1.out.1 (by decide)) grow2 hbw1)
  have X2 : Hid (W2.heap[gs]? = some (.cells cs0 3 (0, 0))) := Lib.hid (K2.out.1 gs cs0 3 (0, 0) (by decide) (K1.out.1 gs cs0 3 (0, 0) (by decide) HCS.out))
  have O2 := Lib.hid own2
  have hbw2 : B ≤ W2.heap.size := Nat.le_trans hbw1 K2.out.2.size
  clear own2 grow2 at2 lt2
  have O3 : Hid ((W2.alloc (.cells #[.int .i32 num] 21)).ownsRow B 21 1 v18 ps.length (ps.map fun p => .int .i32 p.n)) := Lib.hid ((own_kc (own_kc HR0.out.i K1.out.1 (by decide)) K2.out.1 (by decide)).alloc _)
  have N3 : Hid ((W2.alloc (.cells #[.int .i32 num] 21)).heap[W2.heap.size]? = some (.cells #[.int .i32 num] 21 (0, 0))) := Lib.hid (heap_alloc_last W2 _)
  go_wp2_with (at_builtin; refine wpList_append_lies _ rfl (.tmp 179) (.tmp 181) 70 rfl B 21 i0 (.int .i32 0) 1 4 Tryd.underlying70 hi0 hi1 hi2 hi3 rfl (by omega) v18 ps.length (ps.map fun p => .int .i32 p.n) rfl O3.out ⟨W2.heap.size, 0, none⟩ 1 1 [.int .i32 num] rfl rfl (World.news_of_block N3.out) (by simp [Value.oneCell']) (by omega) (by unfold maxLen; omega) (by omega) (by simp; omega) _ rfl ?_)
  intro g3 cp3 W3 own3 grow3 at3 lt3
  have K3 := Lib.hid (kc_app (own_kc (own_kc HR0.out.i K1.out.1 (by decide)) K2.out.1 (by decide)) grow3 hbw2)
  have O3 := Lib.hid own3
  have hbw3 : B ≤ W3.heap.size := Nat.le_trans hbw2 K3.out.2.size
  clear own3 grow3 at3 lt3
  have O4 : Hid ((W3.alloc (.cells #[.string ⟨#[]⟩] 9)).ownsRow B 9 1 v19 ps.length zs) := Lib.hid ((own_kc (own_kc (own_kc HZO.out K1.out.1 (by decide)) K2.out.1 (by decide)) K3.out.1 (by decide)).alloc _)
  have N4 : Hid ((W3.alloc (.cells #[.string ⟨#[]⟩] 9)).heap[W3.heap.size]? = some (.cells #[.string ⟨#[]⟩] 9 (0, 0))) := Lib.hid (heap_alloc_last W3 _)
  go_wp2_with (at_builtin; refine wpList_append_lies _ rfl (.tmp 183) (.tmp 185) 23 rfl B 9 z0 (.string ⟨#[]⟩) 1 16 Tryd.underlying23 hz0 hz1 hz2 hz3 rfl (by omega) v19 ps.length zs rfl O4.out ⟨W3.heap.size, 0, none⟩ 1 1 [.string ⟨#[]⟩] rfl rfl (World.news_of_block N4.out) (by simp [Value.oneCell']) (by omega) (by unfold maxLen; omega) (by omega) (by simp; omega) _ rfl ?_)
  intro g4 cp4 W4 own4 grow4 at4 lt4
  have K4 := Lib.hid (kc_app (own_kc (own_kc (own_kc HZO.out K1.out.1 (by decide)) K2.out.1 (by decide)) K3.out.1 (by decide)) grow4 hbw3)
  have O4 := Lib.hid own4
  have hbw4 : B ≤ W4.heap.size := Nat.le_trans hbw3 K4.out.2.size
  clear own4 grow4 at4 lt4
  have HF : Hid (RW w0 B W4 (.slice (some ⟨g1, 0, none⟩) (ps.length + 1) cp1) (.slice (some ⟨g2, 0, none⟩) (ps.length + 1) cp2) (.slice (some ⟨g3, 0, none⟩) (ps.length + 1) cp3) (.slice (some ⟨g4, 0, none⟩) (ps.length + 1) cp4) (ps ++ [⟨ty, [(pos : Int)], num⟩])) := Lib.hid (by
    have hx2 : Xs W2 (xs ++ [.slice (some ⟨gs, 0, none⟩) 1 cps]) (ps ++ [⟨ty, [(pos : Int)], num⟩]) := ((HXS.out.kc K1.out.1 (by decide)).kc K2.out.1 (by decide)).snoc ⟨gs, cps, cs0, rfl, X2.out, fun j hj => by
      match j, hj with
      | 0, _ => exact HCT.out
      | j + 1, hj => exact absurd hj (by simp)⟩
    refine ⟨HR0.out.below.trans (K1.out.2.trans (K2.out.2.trans (K3.out.2.trans K4.out.2))), hbw4, ?_, ⟨xs ++ [.slice (some ⟨gs, 0, none⟩) 1 cps], ?_, (hx2.kc K3.out.1 (by decide)).kc K4.out.1 (by decide)⟩, ?_, ⟨zs ++ [.string ⟨#[]⟩], ?_⟩⟩
    · have := own_kc (own_kc (own_kc O1.out K2.out.1 (by decide)) K3.out.1 (by decide)) K4.out.1 (by decide)
      simpa using this
    · have := own_kc (own_kc O2.out K3.out.1 (by decide)) K4.out.1 (by decide)
      simpa using this
    · have := own_kc O3.out K4.out.1 (by decide)
      simpa using this
    · have := O4.out
      rw [List.length_append]
      exact this)
  go_wp2_with fail
  exact HQ.out _ W4 (by kernel_rfl) (by unfold KeepU; exact ⟨rfl, rfl, u2.symm, rfl, rfl, rfl, rfl, rfl, rfl, rfl, u10.symm, rfl, rfl, rfl, rfl, rfl⟩) u20.symm rfl u81.symm u82.symm rfl HF.out
end Go.Proofs.YtpiceaehfpljnaaDoor
