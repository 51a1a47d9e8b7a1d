/- The walk of NewSubjectTransformWithStrict, strict: the rounds. -/
import Derived.Test.YtpiceaehfpljnaaDoorMpT
namespace Go.Proofs.YtpiceaehfpljnaaDoor
open Go.RowKit Mp Mpm
attribute [local go_sem ↓] Go.wp_at_zero Go.wp_at_succ
set_option linter.unusedVariables false
set_option linter.unusedSimpArgs false
set_option maxRecDepth 1000000
set_option maxHeartbeats 8000000

theorem word2s (u : Nat → Value) (w0 : World) (B gd c : Nat) (ds : List ByteArray) (t : ByteArray) (ps : List Ph) (W : World) (Q : Exit → Act → World → Prop) (hSur : Sur W) (hS : StrsAt W gd ds) (hR : RW w0 B W (u 16) (u 17) (u 18) (u 19) ps) (hk : ps.length < ds.length) (hl : ds.length < 1000) (ht : ds[ps.length]? = some t) (hC : PhC t (.ok 0 [-1] (-1)))
    (u2 : u 2 = .bool true) (u81 : u 102 = .slice (some ⟨gd, 0, none⟩) ds.length c) (u82 : u 103 = .int .i64 (ds.length : Nat)) (u83 : u 104 = .int .i64 (ps.length : Nat))
    (HQ : Hid (∀ a W', a = FrameU (uOf a) → KeepU u (uOf a) → uOf a 20 = u 20 → uOf a 23 = u 23 → uOf a 102 = u 102 → uOf a 103 = u 103 → uOf a 104 = .int .i64 ((ps.length + 1 : Nat) : Int) → RW w0 B W' (uOf a 16) (uOf a 17) (uOf a 18) (uOf a 19) (ps ++ [⟨0, [-1], -1⟩]) → Q .normal a W')) :
    Code.wp Tryd.prog (L32 1) Q (FrameU u) W := by
  obtain ⟨y0, hy0, hy1, hy2, hy3⟩ := info_parts info90
  obtain ⟨x0, hx0, hx1, hx2, hx3⟩ := info_parts info53
  obtain ⟨i0, hi0, hi1, hi2, hi3⟩ := info_parts info21
  obtain ⟨z0, hz0, hz1, hz2, hz3⟩ := info_parts info9
  have d1 : decide ((ps.length : Int) < (ds.length : Int)) = true := decide_eq_true (by omega)
  have d2 : decide (ps.length < ds.length) = true := decide_eq_true hk
  have c0 := hS.2 ps.length hk
  have htt : ds[ps.length] = t := by rw [List.getElem?_eq_getElem hk] at ht; exact Option.some.inj ht
  rw [htt] at c0
  obtain ⟨v16, e16⟩ : ∃ v, u 16 = v := ⟨_, rfl⟩
  obtain ⟨v17, e17⟩ : ∃ v, u 17 = v := ⟨_, rfl⟩
  obtain ⟨v18, e18⟩ : ∃ v, u 18 = v := ⟨_, rfl⟩
  obtain ⟨v19, e19⟩ : ∃ v, u 19 = v := ⟨_, rfl⟩
  rw [e16, e17, e18, e19] at hR
  have HR := Lib.hid hR
  have HSur := Lib.hid hSur
  have HC := Lib.hid (hC W hSur)
  clear hS hR hSur hC ht htt
  unfold FrameU
  conv => arg 2; whnf
  go_wp2_with fail
  refine HC.out.mono ?_
  rintro e W0 ⟨g0, c0', rfl, hI0, hb0⟩
  have HR0 := Lib.hid (HR.out.later hb0)
  clear hI0 hb0
  have hbw := HR0.out.bw
  obtain ⟨xs, hxs, hXs⟩ := HR0.out.x
  obtain ⟨zs, hzs⟩ := HR0.out.z
  have HXO := Lib.hid hxs
  have HXS := Lib.hid hXs
  have HZO := Lib.hid hzs
  clear hxs hXs hzs
  go_wp2_with (at_builtin; refine wpList_append_lies _ rfl (.tmp 133) (.tmp 134) 68 rfl B 90 y0 (.int .i16 0) 1 2 Tryd.underlying68 hy0 hy1 hy2 hy3 rfl (by omega) v16 ps.length (ps.map fun p => .int .i16 p.ty) rfl (HR0.out.y.alloc _) ⟨W0.heap.size, 0, none⟩ 1 1 [.int .i16 0] rfl rfl (World.news_of_block (cs := #[.int .i16 0]) (t := 90) (fr := (0, 0)) (heap_alloc_new _ _)) (by simp [Value.oneCell']) (by omega) (by unfold maxLen; omega) (by omega) (by simp; omega) _ rfl ?_)
  intro g1 cp1 W1 own1 grow1 at1 lt1
  have K1 := Lib.hid (kc_app HR0.out.y grow1 hbw)
  have O1 := Lib.hid own1
  have hbw1 : B ≤ W1.heap.size := Nat.le_trans hbw K1.out.2.size
  clear own1 grow1 at1 lt1
  have O2 : Hid (((W1.alloc (.cells #[.int .i64 (-1)] 3)).alloc (.cells #[.slice (some ⟨W1.heap.size, 0, none⟩) 1 1] 53)).ownsRow B 53 1 v17 ps.length xs) := Lib.hid (((own_kc HXO.out K1.out.1 (by decide)).alloc _).alloc _)
  have N2 : Hid (((W1.alloc (.cells #[.int .i64 (-1)] 3)).alloc (.cells #[.slice (some ⟨W1.heap.size, 0, none⟩) 1 1] 53)).heap[W1.heap.size + 1]? = some (.cells #[.slice (some ⟨W1.heap.size, 0, none⟩) 1 1] 53 (0, 0))) := Lib.hid (heap_alloc2 W1 _ _)
  go_wp2_with (at_builtin; refine wpList_append_lies _ rfl (.tmp 136) (.tmp 138) 69 rfl B 53 x0 (.slice none 0 0) 1 24 Tryd.underlying69 hx0 hx1 hx2 hx3 rfl (by omega) v17 ps.length xs rfl O2.out ⟨W1.heap.size + 1, 0, none⟩ 1 1 [.slice (some ⟨W1.heap.size, 0, none⟩) 1 1] rfl rfl (World.news_of_block N2.out) (by simp [Value.oneCell']) (by omega) (by unfold maxLen; omega) (by omega) (by simp; omega) _ rfl ?_)
  intro g2 cp2 W2 own2 grow2 at2 lt2
  have K2 := Lib.hid (kc_app2 (own_kc HXO.out K1.out.1 (by decide)) grow2 hbw1)
  have X2 : Hid (W2.heap[W1.heap.size]? = some (.cells #[.int .i64 (-1)] 3 (0, 0))) := Lib.hid (by
    have h1 : ((W1.alloc (.cells #[.int .i64 (-1)] 3)).alloc (.cells #[.slice (some ⟨W1.heap.size, 0, none⟩) 1 1] 53)).heap[W1.heap.size]? = some (.cells #[.int .i64 (-1)] 3 (0, 0)) := by
      rw [heap_alloc_old _ _ (by simp)]; exact heap_alloc_last W1 _
    exact (grow2.block _ (by simp; omega) (own_typ' O2.out h1 (by decide))).trans h1)
  have O2 := Lib.hid own2
  have hbw2 : B ≤ W2.heap.size := Nat.le_trans hbw1 K2.out.2.size
  clear own2 grow2 at2 lt2
  have O3 : Hid ((W2.alloc (.cells #[.int .i32 (-1)] 21)).ownsRow B 21 1 v18 ps.length (ps.map fun p => .int .i32 p.n)) := Lib.hid ((own_kc (own_kc HR0.out.i K1.out.1 (by decide)) K2.out.1 (by decide)).alloc _)
  have N3 : Hid ((W2.alloc (.cells #[.int .i32 (-1)] 21)).heap[W2.heap.size]? = some (.cells #[.int .i32 (-1)] 21 (0, 0))) := Lib.hid (heap_alloc_last W2 _)
  go_wp2_with (at_builtin; refine wpList_append_lies _ rfl (.tmp 140) (.tmp 141) 70 rfl B 21 i0 (.int .i32 0) 1 4 Tryd.underlying70 hi0 hi1 hi2 hi3 rfl (by omega) v18 ps.length (ps.map fun p => .int .i32 p.n) rfl O3.out ⟨W2.heap.size, 0, none⟩ 1 1 [.int .i32 (-1)] rfl rfl (World.news_of_block N3.out) (by simp [Value.oneCell']) (by omega) (by unfold maxLen; omega) (by omega) (by simp; omega) _ rfl ?_)
  intro g3 cp3 W3 own3 grow3 at3 lt3
  have K3 := Lib.hid (kc_app (own_kc (own_kc HR0.out.i K1.out.1 (by decide)) K2.out.1 (by decide)) grow3 hbw2)
  have O3 := Lib.hid own3
  have hbw3 : B ≤ W3.heap.size := Nat.le_trans hbw2 K3.out.2.size
  clear own3 grow3 at3 lt3
  have O4 : Hid ((W3.alloc (.cells #[.string ⟨#[]⟩] 9)).ownsRow B 9 1 v19 ps.length zs) := Lib.hid ((own_kc (own_kc (own_kc HZO.out K1.out.1 (by decide)) K2.out.1 (by decide)) K3.out.1 (by decide)).alloc _)
  have N4 : Hid ((W3.alloc (.cells #[.string ⟨#[]⟩] 9)).heap[W3.heap.size]? = some (.cells #[.string ⟨#[]⟩] 9 (0, 0))) := Lib.hid (heap_alloc_last W3 _)
  go_wp2_with (at_builtin; refine wpList_append_lies _ rfl (.tmp 143) (.tmp 144) 23 rfl B 9 z0 (.string ⟨#[]⟩) 1 16 Tryd.underlying23 hz0 hz1 hz2 hz3 rfl (by omega) v19 ps.length zs rfl O4.out ⟨W3.heap.size, 0, none⟩ 1 1 [.string ⟨#[]⟩] rfl rfl (World.news_of_block N4.out) (by simp [Value.oneCell']) (by omega) (by unfold maxLen; omega) (by omega) (by simp; omega) _ rfl ?_)
  intro g4 cp4 W4 own4 grow4 at4 lt4
  have K4 := Lib.hid (kc_app (own_kc (own_kc (own_kc HZO.out K1.out.1 (by decide)) K2.out.1 (by decide)) K3.out.1 (by decide)) grow4 hbw3)
  have O4 := Lib.hid own4
  have hbw4 : B ≤ W4.heap.size := Nat.le_trans hbw3 K4.out.2.size
  clear own4 grow4 at4 lt4
  have HF : Hid (RW w0 B W4 (.slice (some ⟨g1, 0, none⟩) (ps.length + 1) cp1) (.slice (some ⟨g2, 0, none⟩) (ps.length + 1) cp2) (.slice (some ⟨g3, 0, none⟩) (ps.length + 1) cp3) (.slice (some ⟨g4, 0, none⟩) (ps.length + 1) cp4) (ps ++ [⟨0, [-1], -1⟩])) := Lib.hid (by
    have hx2 : Xs W2 (xs ++ [.slice (some ⟨W1.heap.size, 0, none⟩) 1 1]) (ps ++ [⟨0, [-1], -1⟩]) := ((HXS.out.kc K1.out.1 (by decide)).kc K2.out.1 (by decide)).snoc ⟨W1.heap.size, 1, #[.int .i64 (-1)], rfl, X2.out, fun j hj => by
      match j, hj with
      | 0, _ => rfl
      | j + 1, hj => exact absurd hj (by simp)⟩
    refine ⟨HR0.out.below.trans (K1.out.2.trans (K2.out.2.trans (K3.out.2.trans K4.out.2))), hbw4, ?_, ⟨xs ++ [.slice (some ⟨W1.heap.size, 0, none⟩) 1 1], ?_, (hx2.kc K3.out.1 (by decide)).kc K4.out.1 (by decide)⟩, ?_, ⟨zs ++ [.string ⟨#[]⟩], ?_⟩⟩
    · have := own_kc (own_kc (own_kc O1.out K2.out.1 (by decide)) K3.out.1 (by decide)) K4.out.1 (by decide)
      simpa using this
    · have := own_kc (own_kc O2.out K3.out.1 (by decide)) K4.out.1 (by decide)
      simpa using this
    · have := own_kc O3.out K4.out.1 (by decide)
      simpa using this
    · have := O4.out
      rw [List.length_append]
      exact this)
  go_wp2_with fail
  exact HQ.out _ W4 (by kernel_rfl) (by unfold KeepU; exact ⟨rfl, rfl, u2.symm, rfl, rfl, rfl, rfl, rfl, rfl, rfl, rfl, rfl, rfl, rfl, rfl, rfl⟩) rfl rfl u81.symm u82.symm rfl HF.out

theorem wild2s (u : Nat → Value) (w0 : World) (B gd c b n np kk pos N ty : Nat) (num : Int) (P : List Nat) (ds : List ByteArray) (t : ByteArray) (ps : List Ph) (W : World) (Q : Exit → Act → World → Prop) (hSur : Sur W) (hS : StrsAt W gd ds) (hR : RW w0 B W (u 16) (u 17) (u 18) (u 19) ps) (hk : ps.length < ds.length) (hl : ds.length < 1000) (ht : ds[ps.length]? = some t) (hC : PhC t (.ok ty [(kk : Int)] num)) (hty3 : ty = 3) (hM : MapAt w0 Tryd.prog 3 (some b) n (gl 0 P)) (hbB : b < B) (hkk : 1 ≤ kk ∧ kk ≤ np) (hnp : np < 1000) (hN : N < 100000) (hP : P[kk - 1]? = some pos)
    (u10 : u 10 = .int .i64 (np : Nat)) (u20 : u 20 = .map (some b)) (u23 : u 23 = .int .i64 (N : Nat)) (u2 : u 2 = .bool true) (u81 : u 102 = .slice (some ⟨gd, 0, none⟩) ds.length c) (u82 : u 103 = .int .i64 (ds.length : Nat)) (u83 : u 104 = .int .i64 (ps.length : Nat))
    (HQ : Hid (∀ a W', a = FrameU (uOf a) → KeepU u (uOf a) → uOf a 20 = u 20 → uOf a 23 = .int .i64 ((N + 1 : Nat) : Int) → uOf a 102 = u 102 → uOf a 103 = u 103 → uOf a 104 = .int .i64 ((ps.length + 1 : Nat) : Int) → RW w0 B W' (uOf a 16) (uOf a 17) (uOf a 18) (uOf a 19) (ps ++ [⟨ty, [(pos : Int)], num⟩]) → Q .normal a W')) :
    Code.wp Tryd.prog (L32 1) Q (FrameU u) W := by
  obtain ⟨y0, hy0, hy1, hy2, hy3⟩ := info_parts info90
  obtain ⟨x0, hx0, hx1, hx2, hx3⟩ := info_parts info53
  obtain ⟨i0, hi0, hi1, hi2, hi3⟩ := info_parts info21
  obtain ⟨z0, hz0, hz1, hz2, hz3⟩ := info_parts info9
  obtain ⟨k0, hk0, hk1, hk2, hk3⟩ := info_parts info3
  have hty : ty ≠ 0 ∧ ty < 100 := by omega
  have ty5 : ((ty : Int) != 3) = false := by rw [hty3]; rfl
  have ty6 : (ty != 3) = false := by rw [hty3]; rfl
  clear hty3
  have d1 : decide ((ps.length : Int) < (ds.length : Int)) = true := decide_eq_true (by omega)
  have d2 : decide (ps.length < ds.length) = true := decide_eq_true hk
  have c0 := hS.2 ps.length hk
  have htt : ds[ps.length] = t := by rw [List.getElem?_eq_getElem hk] at ht; exact Option.some.inj ht
  rw [htt] at c0
  obtain ⟨v16, e16⟩ : ∃ v, u 16 = v := ⟨_, rfl⟩
  obtain ⟨v17, e17⟩ : ∃ v, u 17 = v := ⟨_, rfl⟩
  obtain ⟨v18, e18⟩ : ∃ v, u 18 = v := ⟨_, rfl⟩
  obtain ⟨v19, e19⟩ : ∃ v, u 19 = v := ⟨_, rfl⟩
  rw [e16, e17, e18, e19] at hR
  have HR := Lib.hid hR
  have HSur := Lib.hid hSur
  have HC := Lib.hid (hC W hSur)
  clear hS hR hSur hC ht htt
  unfold FrameU
  conv => arg 2; whnf
  go_wp2_with fail
  refine HC.out.mono ?_
  rintro e Wa ⟨g0, c0', rfl, hI0, hb0⟩
  have HR0a := Lib.hid (HR.out.later hb0)
  have hbwa := HR0a.out.bw
  have HM := Lib.hid (hM.below HR0a.out.below (fun b' e => by cases e; exact hbB))
  have i0c := hI0.2 0 (by simp)
  rw [show ([(kk : Int)] : List Int)[0] = (kk : Int) from rfl] at i0c
  have ty1 : ((ty : Int) == 0) = false := beq_eq_false_iff_ne.2 (by omega)
  have ty2 : (ty == 0) = false := beq_eq_false_iff_ne.2 hty.1
  have ty3 : ((ty : Int) != 0) = true := by simp; omega
  have ty4 : (ty != 0) = true := by simp; exact hty.1
  have k1 : decide ((np : Int) < (kk : Int)) = false := decide_eq_false (by omega)
  have k2 : decide (np < kk) = false := decide_eq_false (by omega)
  have hgl : getL (kk : Int) (gl 0 P) = some (.int .i64 (pos : Nat)) := by
    have := gl_get 0 P (kk - 1) pos hP
    have e : 0 + (kk - 1) + 1 = kk := by omega
    rw [e] at this
    exact this
  have HGL := Lib.hid hgl
  have HTY := Lib.hid hty
  clear hI0 hb0 hgl hM hbB hP hty
  go_wp2_with fail
  refine wp_loop_rounds 2 ?_
  rw [rounds_succ]
  have OS0 : Hid ((Wa.alloc (.cells #[.int .i64 (pos : Nat)] 3)).ownsRow B 3 1 (.slice none 0 0) 0 []) := Lib.hid (World.ownsRow_nil _ _ _ _)
  have NS0 : Hid ((Wa.alloc (.cells #[.int .i64 (pos : Nat)] 3)).heap[Wa.heap.size]? = some (.cells #[.int .i64 (pos : Nat)] 3 (0, 0))) := Lib.hid (heap_alloc_last Wa _)
  go_wp2_with (first
    | (at_lookup; refine wpList_look _ rfl _ _ 89 rfl 3 3 Tryd.underlying3 Tryd.underlying89 (.int .i64 0) (Tryd.zeroValue3 _) (some b) n (gl 0 P) rfl HM.out (kk : Int) rfl (by omega) (by omega) ?_; rw [HGL.out, Option.getD_some])
    | (at_builtin; refine wpList_append_lies _ rfl (.tmp 164) (.tmp 168) 53 rfl B 3 k0 (.int .i64 0) 1 8 Tryd.underlying53 hk0 hk1 hk2 hk3 rfl (by omega) (.slice none 0 0) 0 [] rfl OS0.out ⟨Wa.heap.size, 0, none⟩ 1 1 [.int .i64 (pos : Nat)] rfl rfl (World.news_of_block NS0.out) (by simp [Value.oneCell']) (by omega) (by unfold maxLen; omega) (by omega) (by simp; omega) _ rfl ?_))
  intro gs cps W0 owns grows ats lts
  have hbas : Below Wa.heap.size Wa W0 := ((Below.refl _ Wa).alloc (Nat.le_refl _) _).trans (grown_below grows (fun k hk => by simp [Value.ownBlock] at hk) (by simp))
  have HR0 := Lib.hid (HR0a.out.later hbas)
  have hbw := HR0.out.bw
  obtain ⟨cs0, hcs0, hcs1⟩ : ∃ cs, W0.heap[gs]? = some (.cells cs 3 (0, 0)) ∧ cs[0]? = some (.int .i64 (pos : Nat)) := by
    obtain ⟨_, h | ⟨g, cap, cur, hv, _, hr, _, _, _, htk⟩⟩ := owns
    · exact absurd h.1 (by simp)
    · simp only [Value.slice.injEq, Option.some.injEq, Addr.mk.injEq] at hv
      obtain ⟨⟨rfl, _⟩, _⟩ := hv
      refine ⟨cur, hr, ?_⟩
      have h0 : (cur.toList.take (1 * 1))[0]? = some (.int .i64 (pos : Nat)) := by rw [htk]; rfl
      simpa [List.getElem?_take] using h0
  have HCS := Lib.hid hcs0
  have HCT := Lib.hid hcs1
  obtain ⟨xs, hxs, hXs⟩ := HR0.out.x
  obtain ⟨zs, hzs⟩ := HR0.out.z
  have HXO := Lib.hid hxs
  have HXS := Lib.hid hXs
  have HZO := Lib.hid hzs
  clear hxs hXs hzs owns grows ats lts hbas hcs0 hcs1 i0c
  go_wp2_with fail
  rw [rounds_succ]
  go_wp2_with (at_builtin; refine wpList_append_lies _ rfl (.tmp 171) (.tmp 173) 68 rfl B 90 y0 (.int .i16 0) 1 2 Tryd.underlying68 hy0 hy1 hy2 hy3 rfl (by omega) v16 ps.length (ps.map fun p => .int .i16 p.ty) rfl (HR0.out.y.alloc _) ⟨W0.heap.size, 0, none⟩ 1 1 [.int .i16 (ty : Nat)] rfl rfl (World.news_of_block (cs := #[.int .i16 (ty : Nat)]) (t := 90) (fr := (0, 0)) (heap_alloc_new _ _)) (by simp [Value.oneCell']) (by omega) (by unfold maxLen; omega) (by omega) (by simp; omega) _ rfl ?_)
  intro g1 cp1 W1 own1 grow1 at1 lt1
  have K1 := Lib.hid (kc_app HR0.out.y grow1 hbw)
  have O1 := Lib.hid own1
  have hbw1 : B ≤ W1.heap.size := Nat.le_trans hbw K1.out.2.size
  clear own1 grow1 at1 lt1
  have O2 : Hid ((W1.alloc (.cells #[.slice (some ⟨gs, 0, none⟩) 1 cps] 53)).ownsRow B 53 1 v17 ps.length xs) := Lib.hid ((own_kc HXO.out K1.out.1 (by decide)).alloc _)
  have N2 : Hid ((W1.alloc (.cells #[.slice (some ⟨gs, 0, none⟩) 1 cps] 53)).heap[W1.heap.size]? = some (.cells #[.slice (some ⟨gs, 0, none⟩) 1 cps] 53 (0, 0))) := Lib.hid (heap_alloc_last W1 _)
  go_wp2_with (at_builtin; refine wpList_append_lies _ rfl (.tmp 175) (.tmp 177) 69 rfl B 53 x0 (.slice none 0 0) 1 24 Tryd.underlying69 hx0 hx1 hx2 hx3 rfl (by omega) v17 ps.length xs rfl O2.out ⟨W1.heap.size, 0, none⟩ 1 1 [.slice (some ⟨gs, 0, none⟩) 1 cps] rfl rfl (World.news_of_block N2.out) (by simp [Value.oneCell']) (by omega) (by unfold maxLen; omega) (by omega) (by simp; omega) _ rfl ?_)
  intro g2 cp2 W2 own2 grow2 at2 lt2
  have K2 := Lib.hid (kc_app (own_kc HXO.out K1.out.1 (by decide)) grow2 hbw1)
  have X2 : Hid (W2.heap[gs]? = some (.cells cs0 3 (0, 0))) := Lib.hid (K2.out.1 gs cs0 3 (0, 0) (by decide) (K1.out.1 gs cs0 3 (0, 0) (by decide) HCS.out))
  have O2 := Lib.hid own2
  have hbw2 : B ≤ W2.heap.size := Nat.le_trans hbw1 K2.out.2.size
  clear own2 grow2 at2 lt2
  have O3 : Hid ((W2.alloc (.cells #[.int .i32 num] 21)).ownsRow B 21 1 v18 ps.length (ps.map fun p => .int .i32 p.n)) := Lib.hid ((own_kc (own_kc HR0.out.i K1.out.1 (by decide)) K2.out.1 (by decide)).alloc _)
  have N3 : Hid ((W2.alloc (.cells #[.int .i32 num] 21)).heap[W2.heap.size]? = some (.cells #[.int .i32 num] 21 (0, 0))) := Lib.hid (heap_alloc_last W2 _)
  go_wp2_with (at_builtin; refine wpList_append_lies _ rfl (.tmp 179) (.tmp 181) 70 rfl B 21 i0 (.int .i32 0) 1 4 Tryd.underlying70 hi0 hi1 hi2 hi3 rfl (by omega) v18 ps.length (ps.map fun p => .int .i32 p.n) rfl O3.out ⟨W2.heap.size, 0, none⟩ 1 1 [.int .i32 num] rfl rfl (World.news_of_block N3.out) (by simp [Value.oneCell']) (by omega) (by unfold maxLen; omega) (by omega) (by simp; omega) _ rfl ?_)
  intro g3 cp3 W3 own3 grow3 at3 lt3
  have K3 := Lib.hid (kc_app (own_kc (own_kc HR0.out.i K1.out.1 (by decide)) K2.out.1 (by decide)) grow3 hbw2)
  have O3 := Lib.hid own3
  have hbw3 : B ≤ W3.heap.size := Nat.le_trans hbw2 K3.out.2.size
  clear own3 grow3 at3 lt3
  have O4 : Hid ((W3.alloc (.cells #[.string ⟨#[]⟩] 9)).ownsRow B 9 1 v19 ps.length zs) := Lib.hid ((own_kc (own_kc (own_kc HZO.out K1.out.1 (by decide)) K2.out.1 (by decide)) K3.out.1 (by decide)).alloc _)
  have N4 : Hid ((W3.alloc (.cells #[.string ⟨#[]⟩] 9)).heap[W3.heap.size]? = some (.cells #[.string ⟨#[]⟩] 9 (0, 0))) := Lib.hid (heap_alloc_last W3 _)
  go_wp2_with (at_builtin; refine wpList_append_lies _ rfl (.tmp 183) (.tmp 185) 23 rfl B 9 z0 (.string ⟨#[]⟩) 1 16 Tryd.underlying23 hz0 hz1 hz2 hz3 rfl (by omega) v19 ps.length zs rfl O4.out ⟨W3.heap.size, 0, none⟩ 1 1 [.string ⟨#[]⟩] rfl rfl (World.news_of_block N4.out) (by simp [Value.oneCell']) (by omega) (by unfold maxLen; omega) (by omega) (by simp; omega) _ rfl ?_)
  intro g4 cp4 W4 own4 grow4 at4 lt4
  have K4 := Lib.hid (kc_app (own_kc (own_kc (own_kc HZO.out K1.out.1 (by decide)) K2.out.1 (by decide)) K3.out.1 (by decide)) grow4 hbw3)
  have O4 := Lib.hid own4
  have hbw4 : B ≤ W4.heap.size := Nat.le_trans hbw3 K4.out.2.size
  clear own4 grow4 at4 lt4
  have HF : Hid (RW w0 B W4 (.slice (some ⟨g1, 0, none⟩) (ps.length + 1) cp1) (.slice (some ⟨g2, 0, none⟩) (ps.length + 1) cp2) (.slice (some ⟨g3, 0, none⟩) (ps.length + 1) cp3) (.slice (some ⟨g4, 0, none⟩) (ps.length + 1) cp4) (ps ++ [⟨ty, [(pos : Int)], num⟩])) := Lib.hid (by
    have hx2 : Xs W2 (xs ++ [.slice (some ⟨gs, 0, none⟩) 1 cps]) (ps ++ [⟨ty, [(pos : Int)], num⟩]) := ((HXS.out.kc K1.out.1 (by decide)).kc K2.out.1 (by decide)).snoc ⟨gs, cps, cs0, rfl, X2.out, fun j hj => by
      match j, hj with
      | 0, _ => exact HCT.out
      | j + 1, hj => exact absurd hj (by simp)⟩
    refine ⟨HR0.out.below.trans (K1.out.2.trans (K2.out.2.trans (K3.out.2.trans K4.out.2))), hbw4, ?_, ⟨xs ++ [.slice (some ⟨gs, 0, none⟩) 1 cps], ?_, (hx2.kc K3.out.1 (by decide)).kc K4.out.1 (by decide)⟩, ?_, ⟨zs ++ [.string ⟨#[]⟩], ?_⟩⟩
    · have := own_kc (own_kc (own_kc O1.out K2.out.1 (by decide)) K3.out.1 (by decide)) K4.out.1 (by decide)
      simpa using this
    · have := own_kc (own_kc O2.out K3.out.1 (by decide)) K4.out.1 (by decide)
      simpa using this
    · have := own_kc O3.out K4.out.1 (by decide)
      simpa using this
    · have := O4.out
      rw [List.length_append]
      exact this)
  go_wp2_with fail
  exact HQ.out _ W4 (by kernel_rfl) (by unfold KeepU; exact ⟨rfl, rfl, u2.symm, rfl, rfl, rfl, rfl, rfl, rfl, rfl, u10.symm, rfl, rfl, rfl, rfl, rfl⟩) u20.symm rfl u81.symm u82.symm rfl HF.out
end Go.Proofs.YtpiceaehfpljnaaDoor

namespace Go.Proofs.YtpiceaehfpljnaaDoor
open Go.RowKit Mp Mpm
attribute [local go_sem ↓] Go.wp_at_zero Go.wp_at_succ
set_option linter.unusedVariables false
set_option linter.unusedSimpArgs false
set_option maxRecDepth 1000000
set_option maxHeartbeats 8000000

theorem word4s (u : Nat → Value) (w0 : World) (B gd c : Nat) (ds : List ByteArray) (t : ByteArray) (ps : List Ph) (W : World) (Q : Exit → Act → World → Prop) (hSur : Sur W) (hS : StrsAt W gd ds) (hR : RW w0 B W (u 16) (u 17) (u 18) (u 19) ps) (hk : ps.length < ds.length) (hl : ds.length < 1000) (ht : ds[ps.length]? = some t) (hC : PhC t (.ok 0 [-1] (-1)))
    (u2 : u 2 = .bool true) (u81 : u 199 = .slice (some ⟨gd, 0, none⟩) ds.length c) (u82 : u 200 = .int .i64 (ds.length : Nat)) (u83 : u 201 = .int .i64 (ps.length : Nat))
    (HQ : Hid (∀ a W', a = FrameU (uOf a) → KeepU u (uOf a) → uOf a 20 = u 20 → uOf a 23 = u 23 → uOf a 199 = u 199 → uOf a 200 = u 200 → uOf a 201 = .int .i64 ((ps.length + 1 : Nat) : Int) → RW w0 B W' (uOf a 16) (uOf a 17) (uOf a 18) (uOf a 19) (ps ++ [⟨0, [-1], -1⟩]) → Q .normal a W')) :
    Code.wp Tryd.prog (L32 2) Q (FrameU u) W := by
  obtain ⟨y0, hy0, hy1, hy2, hy3⟩ := info_parts info90
  obtain ⟨x0, hx0, hx1, hx2, hx3⟩ := info_parts info53
  obtain ⟨i0, hi0, hi1, hi2, hi3⟩ := info_parts info21
  obtain ⟨z0, hz0, hz1, hz2, hz3⟩ := info_parts info9
  have d1 : decide ((ps.length : Int) < (ds.length : Int)) = true := decide_eq_true (by omega)
  have d2 : decide (ps.length < ds.length) = true := decide_eq_true hk
  have c0 := hS.2 ps.length hk
  have htt : ds[ps.length] = t := by rw [List.getElem?_eq_getElem hk] at ht; exact Option.some.inj ht
  rw [htt] at c0
  obtain ⟨v16, e16⟩ : ∃ v, u 16 = v := ⟨_, rfl⟩
  obtain ⟨v17, e17⟩ : ∃ v, u 17 = v := ⟨_, rfl⟩
  obtain ⟨v18, e18⟩ : ∃ v, u 18 = v := ⟨_, rfl⟩
  obtain ⟨v19, e19⟩ : ∃ v, u 19 = v := ⟨_, rfl⟩
  rw [e16, e17, e18, e19] at hR
  have HR := Lib.hid hR
  have HSur := Lib.hid hSur
  have HC := Lib.hid (hC W hSur)
  clear hS hR hSur hC ht htt
  unfold FrameU
  conv => arg 2; whnf
  go_wp2_with fail
  refine HC.out.mono ?_
  rintro e W0 ⟨g0, c0', rfl, hI0, hb0⟩
  have HR0 := Lib.hid (HR.out.later hb0)
  clear hI0 hb0
  have hbw := HR0.out.bw
  obtain ⟨xs, hxs, hXs⟩ := HR0.out.x
  obtain ⟨zs, hzs⟩ := HR0.out.z
  have HXO := Lib.hid hxs
  have HXS := Lib.hid hXs
  have HZO := Lib.hid hzs
  clear hxs hXs hzs
  go_wp2_with (at_builtin; refine wpList_append_lies _ rfl (.tmp 218) (.tmp 219) 68 rfl B 90 y0 (.int .i16 0) 1 2 Tryd.underlying68 hy0 hy1 hy2 hy3 rfl (by omega) v16 ps.length (ps.map fun p => .int .i16 p.ty) rfl (HR0.out.y.alloc _) ⟨W0.heap.size, 0, none⟩ 1 1 [.int .i16 0] rfl rfl (World.news_of_block (cs := #[.int .i16 0]) (t := 90) (fr := (0, 0)) (heap_alloc_new _ _)) (by simp [Value.oneCell']) (by omega) (by unfold maxLen; omega) (by omega) (by simp; omega) _ rfl ?_)
  intro g1 cp1 W1 own1 grow1 at1 lt1
  have K1 := Lib.hid (kc_app HR0.out.y grow1 hbw)
  have O1 := Lib.hid own1
  have hbw1 : B ≤ W1.heap.size := Nat.le_trans hbw K1.out.2.size
  clear own1 grow1 at1 lt1
  have O2 : Hid (((W1.alloc (.cells #[.int .i64 (-1)] 3)).alloc (.cells #[.slice (some ⟨W1.heap.size, 0, none⟩) 1 1] 53)).ownsRow B 53 1 v17 ps.length xs) := Lib.hid (((own_kc HXO.out K1.out.1 (by decide)).alloc _).alloc _)
  have N2 : Hid (((W1.alloc (.cells #[.int .i64 (-1)] 3)).alloc (.cells #[.slice (some ⟨W1.heap.size, 0, none⟩) 1 1] 53)).heap[W1.heap.size + 1]? = some (.cells #[.slice (some ⟨W1.heap.size, 0, none⟩) 1 1] 53 (0, 0))) := Lib.hid (heap_alloc2 W1 _ _)
  go_wp2_with (at_builtin; refine wpList_append_lies _ rfl (.tmp 221) (.tmp 223) 69 rfl B 53 x0 (.slice none 0 0) 1 24 Tryd.underlying69 hx0 hx1 hx2 hx3 rfl (by omega) v17 ps.length xs rfl O2.out ⟨W1.heap.size + 1, 0, none⟩ 1 1 [.slice (some ⟨W1.heap.size, 0, none⟩) 1 1] rfl rfl (World.news_of_block N2.out) (by simp [Value.oneCell']) (by omega) (by unfold maxLen; omega) (by omega) (by simp; omega) _ rfl ?_)
  intro g2 cp2 W2 own2 grow2 at2 lt2
  have K2 := Lib.hid (kc_app2 (own_kc HXO.out K1.out.1 (by decide)) grow2 hbw1)
  have X2 : Hid (W2.heap[W1.heap.size]? = some (.cells #[.int .i64 (-1)] 3 (0, 0))) := Lib.hid (by
    have h1 : ((W1.alloc (.cells #[.int .i64 (-1)] 3)).alloc (.cells #[.slice (some ⟨W1.heap.size, 0, none⟩) 1 1] 53)).heap[W1.heap.size]? = some (.cells #[.int .i64 (-1)] 3 (0, 0)) := by
      rw [heap_alloc_old _ _ (by simp)]; exact heap_alloc_last W1 _
    exact (grow2.block _ (by simp; omega) (own_typ' O2.out h1 (by decide))).trans h1)
  have O2 := Lib.hid own2
  have hbw2 : B ≤ W2.heap.size := Nat.le_trans hbw1 K2.out.2.size
  clear own2 grow2 at2 lt2
  have O3 : Hid ((W2.alloc (.cells #[.int .i32 (-1)] 21)).ownsRow B 21 1 v18 ps.length (ps.map fun p => .int .i32 p.n)) := Lib.hid ((own_kc (own_kc HR0.out.i K1.out.1 (by decide)) K2.out.1 (by decide)).alloc _)
  have N3 : Hid ((W2.alloc (.cells #[.int .i32 (-1)] 21)).heap[W2.heap.size]? = some (.cells #[.int .i32 (-1)] 21 (0, 0))) := Lib.hid (heap_alloc_last W2 _)
  go_wp2_with (at_builtin; refine wpList_append_lies _ rfl (.tmp 225) (.tmp 226) 70 rfl B 21 i0 (.int .i32 0) 1 4 Tryd.underlying70 hi0 hi1 hi2 hi3 rfl (by omega) v18 ps.length (ps.map fun p => .int .i32 p.n) rfl O3.out ⟨W2.heap.size, 0, none⟩ 1 1 [.int .i32 (-1)] rfl rfl (World.news_of_block N3.out) (by simp [Value.oneCell']) (by omega) (by unfold maxLen; omega) (by omega) (by simp; omega) _ rfl ?_)
  intro g3 cp3 W3 own3 grow3 at3 lt3
  have K3 := Lib.hid (kc_app (own_kc (own_kc HR0.out.i K1.out.1 (by decide)) K2.out.1 (by decide)) grow3 hbw2)
  have O3 := Lib.hid own3
  have hbw3 : B ≤ W3.heap.size := Nat.le_trans hbw2 K3.out.2.size
  clear own3 grow3 at3 lt3
  have O4 : Hid ((W3.alloc (.cells #[.string ⟨#[]⟩] 9)).ownsRow B 9 1 v19 ps.length zs) := Lib.hid ((own_kc (own_kc (own_kc HZO.out K1.out.1 (by decide)) K2.out.1 (by decide)) K3.out.1 (by decide)).alloc _)
  have N4 : Hid ((W3.alloc (.cells #[.string ⟨#[]⟩] 9)).heap[W3.heap.size]? = some (.cells #[.string ⟨#[]⟩] 9 (0, 0))) := Lib.hid (heap_alloc_last W3 _)
  go_wp2_with (at_builtin; refine wpList_append_lies _ rfl (.tmp 228) (.tmp 229) 23 rfl B 9 z0 (.string ⟨#[]⟩) 1 16 Tryd.underlying23 hz0 hz1 hz2 hz3 rfl (by omega) v19 ps.length zs rfl O4.out ⟨W3.heap.size, 0, none⟩ 1 1 [.string ⟨#[]⟩] rfl rfl (World.news_of_block N4.out) (by simp [Value.oneCell']) (by omega) (by unfold maxLen; omega) (by omega) (by simp; omega) _ rfl ?_)
  intro g4 cp4 W4 own4 grow4 at4 lt4
  have K4 := Lib.hid (kc_app (own_kc (own_kc (own_kc HZO.out K1.out.1 (by decide)) K2.out.1 (by decide)) K3.out.1 (by decide)) grow4 hbw3)
  have O4 := Lib.hid own4
  have hbw4 : B ≤ W4.heap.size := Nat.le_trans hbw3 K4.out.2.size
  clear own4 grow4 at4 lt4
  have HF : Hid (RW w0 B W4 (.slice (some ⟨g1, 0, none⟩) (ps.length + 1) cp1) (.slice (some ⟨g2, 0, none⟩) (ps.length + 1) cp2) (.slice (some ⟨g3, 0, none⟩) (ps.length + 1) cp3) (.slice (some ⟨g4, 0, none⟩) (ps.length + 1) cp4) (ps ++ [⟨0, [-1], -1⟩])) := Lib.hid (by
    have hx2 : Xs W2 (xs ++ [.slice (some ⟨W1.heap.size, 0, none⟩) 1 1]) (ps ++ [⟨0, [-1], -1⟩]) := ((HXS.out.kc K1.out.1 (by decide)).kc K2.out.1 (by decide)).snoc ⟨W1.heap.size, 1, #[.int .i64 (-1)], rfl, X2.out, fun j hj => by
      match j, hj with
      | 0, _ => rfl
      | j + 1, hj => exact absurd hj (by simp)⟩
    refine ⟨HR0.out.below.trans (K1.out.2.trans (K2.out.2.trans (K3.out.2.trans K4.out.2))), hbw4, ?_, ⟨xs ++ [.slice (some ⟨W1.heap.size, 0, none⟩) 1 1], ?_, (hx2.kc K3.out.1 (by decide)).kc K4.out.1 (by decide)⟩, ?_, ⟨zs ++ [.string ⟨#[]⟩], ?_⟩⟩
    · have := own_kc (own_kc (own_kc O1.out K2.out.1 (by decide)) K3.out.1 (by decide)) K4.out.1 (by decide)
      simpa using this
    · have := own_kc (own_kc O2.out K3.out.1 (by decide)) K4.out.1 (by decide)
      simpa using this
    · have := own_kc O3.out K4.out.1 (by decide)
      simpa using this
    · have := O4.out
      rw [List.length_append]
      exact this)
  go_wp2_with fail
  exact HQ.out _ W4 (by kernel_rfl) (by unfold KeepU; exact ⟨rfl, rfl, u2.symm, rfl, rfl, rfl, rfl, rfl, rfl, rfl, rfl, rfl, rfl, rfl, rfl, rfl⟩) rfl rfl u81.symm u82.symm rfl HF.out
structure FixS (src dst : ByteArray) (gs cs ns gd cd nd np : Nat) (u : Nat → Value) : Prop where
  u0 : u 0 = .string src
  u1 : u 1 = .string dst
  u2 : u 2 = .bool true
  u9 : u 9 = .slice (some ⟨gs, 0, none⟩) ns cs
  u10 : u 10 = .int .i64 (np : Nat)
  u13 : u 13 = .slice (some ⟨gd, 0, none⟩) nd cd
theorem FixS.keep {src dst : ByteArray} {gs cs ns gd cd nd np : Nat} {u u' : Nat → Value} (h : FixS src dst gs cs ns gd cd nd np u) (k : KeepU u u') : FixS src dst gs cs ns gd cd nd np u' := by
  obtain ⟨k0, k1, k2, _, _, _, _, _, _, k9, k10, _, _, k13, _⟩ := k
  exact ⟨k0.trans h.u0, k1.trans h.u1, k2.trans h.u2, k9.trans h.u9, k10.trans h.u10, k13.trans h.u13⟩
/-- How a destination's part has been read, strictly. -/
def ResS (wild : Bool) (P : List Nat) (np : Nat) (t : ByteArray) (p : Ph) : Prop :=
  (p = ⟨0, [-1], -1⟩ ∧ PhC t (.ok 0 [-1] (-1))) ∨
  (wild = true ∧ ∃ (kk pos : Nat) (num : Int), p = ⟨3, [(pos : Int)], num⟩ ∧ PhC t (.ok 3 [(kk : Int)] num) ∧ (1 ≤ kk ∧ kk ≤ np) ∧ P[kk - 1]? = some pos)
def nph (ps : List Ph) : Nat := ps.countP (fun p => decide (p.ty = 3))
theorem nph_snoc (ps : List Ph) (p : Ph) : nph (ps ++ [p]) = nph ps + (if p.ty = 3 then 1 else 0) := by
  unfold nph
  rw [List.countP_append]
  congr 1
  simp [List.countP_cons]
theorem nph_le (ps : List Ph) : nph ps ≤ ps.length := List.countP_le_length
theorem new_strict (src dst : ByteArray) (h1 : 0 < src.size ∧ src.size ≤ 1000000) (h2 : 0 < dst.size ∧ dst.size ≤ 1000000) (hV1 : Val (toks src)) (hV2 : Val (toks dst)) (hl : (toks src).length < 1000 ∧ (toks dst).length < 1000)
    (hs0 : stars (toks dst) = 0) (hF : hasF (toks dst) = hasF (toks src)) (ps : List Ph) (hps : ps.length = (toks dst).length)
    (hR : ∀ k (h : k < (toks dst).length) (h' : k < ps.length), ResS (decide (0 < stars (toks src)) || hasF (toks src)) (sposK (toks src) (toks src).length) (stars (toks src)) (toks dst)[k] ps[k]) (hall : stars (toks src) ≤ nph ps) (w : World) (hSur : Sur w) :
    Calls Tryd.prog 32 #[.string src, .string dst, .bool true] w fun e w' => NewP w src dst ps e w' := by
  have f1 : (src.toList == []) = false := by rw [tst]; exact decide_eq_false (fun e => by have := h1.1; rw [e] at this; simp [strOf, ByteArray.size] at this)
  have f2 : (dst.toList == []) = false := by rw [tst]; exact decide_eq_false (fun e => by have := h2.1; rw [e] at this; simp [strOf, ByteArray.size] at this)
  have HV1 := Lib.hid hV1
  have HV2 := Lib.hid hV2
  have HR := Lib.hid hR
  have HALL := Lib.hid hall
  have HSur := Lib.hid hSur
  have HPS := Lib.hid hps
  have HL := Lib.hid hl
  have HF := Lib.hid hF
  have HS0 := Lib.hid hs0
  clear hV1 hV2 hR hSur hps hl hF hs0 hall
  go_enter Tryd.func32, Tryd.ntmps32
  go_wp2_with fail
  refine (info_any src h1.2 h1.1 HV1.out w).mono ?_
  rintro e w1 ⟨v1, rfl, o1, b1⟩
  obtain ⟨gs, cs, rfl, _, _, at1⟩ := o1.at (toks_ne src)
  have HB1 := Lib.hid b1
  have HA1 := Lib.hid at1
  clear o1 b1 at1
  go_wp2_with fail
  refine (info_any dst h2.2 h2.1 HV2.out w1).mono ?_
  rintro e w2 ⟨v2, rfl, o2, b2⟩
  obtain ⟨gd, cd, rfl, _, _, at2⟩ := o2.at (toks_ne dst)
  have HB2 : Hid (Below w.heap.size w w2) := Lib.hid (HB1.out.trans (b2.mono HB1.out.size))
  have HA2 := Lib.hid at2
  have HA1' : Hid (StrsAt w2 gs (toks src)) := Lib.hid (HA1.out.later b2)
  clear o2 b2 at2 HA1
  rw [HS0.out, HF.out]
  have hq : (hasF (toks src) != hasF (toks src)) = false := by simp
  have HW : Hid ((decide (0 < stars (toks src)) || hasF (toks src)) = (decide (0 < stars (toks src)) || hasF (toks src))) := Lib.hid rfl
  generalize hnp : stars (toks src) = np at *
  generalize hff : hasF (toks src) = ff at *
  have hnpl : np < 1000 := by rw [← hnp]; exact Nat.lt_of_le_of_lt (stars_le _) HL.out.1
  have HNP := Lib.hid hnp
  have HFF := Lib.hid hff
  clear hnp hff
  have n0 : ((0 : Nat) : Int) = 0 := rfl
  have w20 : w2.heap.size ≤ w2.heap.size := Nat.le_refl _
  by_cases hwild : 0 < np ∨ ff = true
  · have hcase : (decide ((0 : Int) < (np : Int)) = true ∧ decide (0 < np) = true) ∨ (decide ((0 : Int) < (np : Int)) = false ∧ decide (0 < np) = false ∧ ff = true) := by
      by_cases h : 0 < np
      · exact Or.inl ⟨decide_eq_true (by omega), decide_eq_true h⟩
      · exact Or.inr ⟨decide_eq_false (by omega), decide_eq_false h, hwild.resolve_left h⟩
    have HWL := Lib.hid hwild
    clear hwild
    have hmm := @run_makeMap Tryd.prog
    rcases hcase with ⟨x1, x2⟩ | ⟨x1, x2, rfl⟩ <;> {
      go_wp2_with fail

      refine wp_loop_ghost (c := L32 0) (fun gk a W => ∃ k n, a = FrameU (uOf a) ∧ FixS src dst gs cs (toks src).length gd cd (toks dst).length np (uOf a) ∧ uOf a 16 = .slice none 0 0 ∧ uOf a 17 = .slice none 0 0 ∧ uOf a 18 = .slice none 0 0 ∧ uOf a 19 = .slice none 0 0 ∧ uOf a 20 = .map (some w2.heap.size) ∧ uOf a 81 = .slice (some ⟨gs, 0, none⟩) (toks src).length cs ∧ uOf a 82 = .int .i64 ((toks src).length : Nat) ∧ uOf a 83 = .int .i64 (k : Nat) ∧ gk + k = (toks src).length ∧ n ≤ k ∧ MapAt W Tryd.prog 3 (some w2.heap.size) n (gl 0 (sposK (toks src) k)) ∧ Below w2.heap.size w2 W) (toks src).length ?_ ?_
      · exact ⟨0, 0, by kernel_rfl, ⟨rfl, rfl, rfl, rfl, rfl, rfl⟩, rfl, rfl, rfl, rfl, rfl, rfl, rfl, rfl, rfl, Nat.le_refl _, World.ownsMap_made w2 _ _ _, (Below.refl _ w2).alloc (Nat.le_refl _) _⟩
      rintro gk a W ⟨k, n, hfr, hfix, e16, e17, e18, e19, e20, e81, e82, e83, hgk, hn, hM, hBW⟩
      have hS : StrsAt W gs (toks src) := HA1'.out.later hBW
      rw [hfr]
      by_cases hk : k < (toks src).length
      · refine stiRound (uOf a) w2.heap.size gs cs k n (toks src) W _ hS hM hn hk HL.out.1 (fun t ht => by
          obtain ⟨i, hi, rfl⟩ := List.getElem_of_mem ht
          exact (HV1.out i hi).1) e20 e81 e82 e83 (Lib.hid ?_)
        intro a' W' n' h1 h2 h3 h4 h5 h6 h7 h8 h9 h10 h11 h12 h13
        refine ⟨gk - 1, by omega, k + 1, n', h1, hfix.keep h2, h3.trans e16, h4.trans e17, h5.trans e18, h6.trans e19, h7, h8, h9, h10, by omega, h12, h11, ?_⟩
        rcases h13 with h13 | rfl
        · exact hBW.trans (grown_below (Turn.grown h13) (fun k hk => by cases hk; exact Nat.le_refl _) hBW.size)
        · exact hBW
      have hke : k = (toks src).length := by omega
      rw [hke] at e83 hM
      refine end1 (uOf a) (toks src).length W _ HL.out.1 e82 e83 (Lib.hid ?_)
      intro a2 hfr2 hk2 q16 q17 q18 q19 q20 _
      have hfix2 := hfix.keep hk2
      rw [hfr2]
      have hdS1 : Hid (StrsAt W gd (toks dst)) := Lib.hid (HA2.out.later hBW)
      have hsS1 : Hid (StrsAt W gs (toks src)) := Lib.hid hS
      have HMW := Lib.hid hM
      have HBW2 := Lib.hid hBW
      have HBw : Hid (Below w.heap.size w W) := Lib.hid (HB2.out.trans (hBW.mono HB2.out.size))
      have hbb : w2.heap.size < W.heap.size := MapAt.lt hM rfl
      replace q16 := q16.trans e16
      replace q17 := q17.trans e17
      replace q18 := q18.trans e18
      replace q19 := q19.trans e19
      replace q20 := q20.trans e20
      clear hfr hfix e16 e17 e18 e19 e20 e81 e82 e83 hM hBW hS hk2 hfr2
      generalize uOf a2 = u2 at *
      obtain ⟨y0, y1, y2, y9, y10, y13⟩ := hfix2
      have HFX : Hid (FixS src dst gs cs (toks src).length gd cd (toks dst).length np u2) := Lib.hid ⟨y0, y1, y2, y9, y10, y13⟩
      unfold FrameU
      simp only [Exit.then, Exit.inBlock, if_true]
      go_wp2_with fail
      refine wp_loop_ghost (c := L32 1) (fun gk a W' => ∃ m N : Nat, a = FrameU (uOf a) ∧ FixS src dst gs cs (toks src).length gd cd (toks dst).length np (uOf a) ∧ uOf a 20 = .map (some w2.heap.size) ∧ uOf a 23 = .int .i64 (N : Nat) ∧ uOf a 102 = .slice (some ⟨gd, 0, none⟩) (toks dst).length cd ∧ uOf a 103 = .int .i64 ((toks dst).length : Nat) ∧ uOf a 104 = .int .i64 (m : Nat) ∧ gk + m = (toks dst).length ∧ N = nph (ps.take m) ∧ RW W W.heap.size W' (uOf a 16) (uOf a 17) (uOf a 18) (uOf a 19) (ps.take m)) (toks dst).length ?_ ?_
      · refine ⟨0, 0, by kernel_rfl, ⟨y0, y1, y2, y9, y10, y13⟩, q20, rfl, y13, rfl, rfl, rfl, rfl, ?_⟩
        have hrw0 : RW W W.heap.size W (u2 16) (u2 17) (u2 18) (u2 19) [] := by
          rw [q16, q17, q18, q19]
          exact ⟨Below.refl _ _, Nat.le_refl _, World.ownsRow_nil _ _ _ _, ⟨[], World.ownsRow_nil _ _ _ _, rfl, fun i x p h => by simp at h⟩, World.ownsRow_nil _ _ _ _, ⟨[], World.ownsRow_nil _ _ _ _⟩⟩
        exact hrw0
      rintro gk3 a3 W3 ⟨m, N, hfr3, hfix3, e20, e23, e102, e103, e104, hgm, hNm, hRW⟩
      rw [hfr3]
      have hsur3 : Sur W3 := (HSur.out.later HBw.out).later hRW.below
      have hdS3 : StrsAt W3 gd (toks dst) := hdS1.out.later hRW.below
      have hsS3 : StrsAt W3 gs (toks src) := hsS1.out.later hRW.below
      by_cases hm : m < (toks dst).length
      · have hmp : m < ps.length := by rw [HPS.out]; exact hm
        have hres := HR.out m hm hmp
        have htl : (ps.take m).length = m := by rw [List.length_take]; omega
        have hts : ps.take (m + 1) = ps.take m ++ [ps[m]] := by rw [List.take_add_one]; simp [hmp]
        rcases hres with ⟨r1, r2⟩ | ⟨_, kk, pos, num, r1, r2, r4, r5⟩
        · refine word2s (uOf a3) W W.heap.size gd cd (toks dst) (toks dst)[m] (ps.take m) W3 _ hsur3 hdS3 hRW (by rw [htl]; exact hm) HL.out.2 (by rw [htl]; exact List.getElem?_eq_getElem hm) r2 hfix3.u2 e102 e103 (by rw [htl]; exact e104) (Lib.hid ?_)
          intro a' W' h1 h2 h3 h4 h5 h6 h7 h8
          rw [htl] at h7
          refine ⟨gk3 - 1, by omega, m + 1, N, h1, hfix3.keep h2, h3.trans e20, h4.trans e23, h5.trans e102, h6.trans e103, h7, by omega, by rw [hts, nph_snoc, r1, if_neg (by decide)]; exact hNm, ?_⟩
          rw [hts, r1]
          exact h8
        · refine wild2s (uOf a3) W W.heap.size gd cd w2.heap.size _ np kk pos N 3 num (sposK (toks src) (toks src).length) (toks dst) (toks dst)[m] (ps.take m) W3 _ hsur3 hdS3 hRW (by rw [htl]; exact hm) HL.out.2 (by rw [htl]; exact List.getElem?_eq_getElem hm) r2 rfl HMW.out hbb r4 hnpl (by have := HL.out.2; have := nph_le (ps.take m); omega) r5 hfix3.u10 e20 e23 hfix3.u2 e102 e103 (by rw [htl]; exact e104) (Lib.hid ?_)
          intro a' W' h1 h2 h3 h4 h5 h6 h7 h8
          rw [htl] at h7
          refine ⟨gk3 - 1, by omega, m + 1, N + 1, h1, hfix3.keep h2, h3.trans e20, h4, h5.trans e102, h6.trans e103, h7, by omega, by rw [hts, nph_snoc, r1, if_pos rfl, hNm], ?_⟩
          rw [hts, r1]
          exact h8
      · have hme : m = (toks dst).length := by omega
        rw [hme] at e104
        have hRW : Hid (RW W W.heap.size W3 (uOf a3 16) (uOf a3 17) (uOf a3 18) (uOf a3 19) ps) := Lib.hid (by rw [hme, List.take_of_length_le (by rw [HPS.out]; exact Nat.le_refl _)] at hRW; exact hRW)
        have hne : 0 < ps.length := by rw [HPS.out]; exact List.length_pos_iff.2 (toks_ne dst)
        refine end2 (uOf a3) (toks dst).length W3 _ HL.out.2 e103 e104 (Lib.hid ?_)
        intro a3' hfr4 hk4 q16 q17 q18 q19 _ q23
        have y23 := q23.trans e23
        have hNN : np ≤ N := by rw [hNm, hme, List.take_of_length_le (by rw [HPS.out]; exact Nat.le_refl _)]; exact HALL.out
        have hN5 : N < 100000 := by have h9 := nph_le (ps.take m); rw [List.length_take] at h9; have := HL.out.2; have := HPS.out; omega
        have dN : decide ((N : Int) < (np : Int)) = false := decide_eq_false (by omega)
        have dN2 : decide (N < np) = false := decide_eq_false (by omega)
        clear q23 hNm
        have hfix4 := hfix3.keep hk4
        rw [← q16, ← q17, ← q18, ← q19] at hRW
        rw [hfr4]
        have hdS := Lib.hid hdS3
        have hsS := Lib.hid hsS3
        clear hdS3 hsS3 hfr3 hfix3 e20 e23 e102 e103 e104 hsur3 hfr4 hk4
        skip
        have hfix3 := hfix4
        clear hfix4

        have hx := tr_of hRW.out hne gd cd gs cs src dst (toks dst) (toks src) hdS.out hsS.out
        obtain ⟨gy, cy, gx, cx, gi, ci, gz, cz, e16, e17, e18, e19, hTr⟩ := hx
        have HX := Lib.hid hTr
        have HBX : Hid (Below w.heap.size w W3) := Lib.hid (HBw.out.trans (hRW.out.below.mono HBw.out.size))
        have hw3 : w.heap.size ≤ W3.heap.size := HBX.out.size
        clear hTr hRW q16 q17 q18 q19
        generalize uOf a3' = u3 at *
        obtain ⟨y0, y1, y2, y9, y10, y13⟩ := hfix3
        unfold FrameU
        simp only [Exit.then, Exit.inBlock, if_true]
        go_wp2_with fail
        go_ret2
        exact ⟨_, gd, cd, gs, cs, gy, cy, gx, cx, gi, ci, rfl, HX.out, HBX.out.alloc hw3 _⟩
      }
  · have hnp0 : np = 0 := by omega
    have hff : ff = false := by
      cases ff with
      | false => rfl
      | true => exact absurd (Or.inr rfl) hwild
    subst hff
    subst hnp0
    have HW0 : Hid ((decide (0 < 0) || false) = false) := Lib.hid rfl
    clear hwild
    go_wp2_with fail
    refine wp_loop_ghost (c := L32 2) (fun gk a W' => ∃ m : Nat, a = FrameU (uOf a) ∧ FixS src dst gs cs (toks src).length gd cd (toks dst).length 0 (uOf a) ∧ uOf a 199 = .slice (some ⟨gd, 0, none⟩) (toks dst).length cd ∧ uOf a 200 = .int .i64 ((toks dst).length : Nat) ∧ uOf a 201 = .int .i64 (m : Nat) ∧ gk + m = (toks dst).length ∧ RW w2 w2.heap.size W' (uOf a 16) (uOf a 17) (uOf a 18) (uOf a 19) (ps.take m)) (toks dst).length ?_ ?_
    · exact ⟨0, by kernel_rfl, ⟨rfl, rfl, rfl, rfl, rfl, rfl⟩, rfl, rfl, rfl, rfl, ⟨Below.refl _ _, Nat.le_refl _, World.ownsRow_nil _ _ _ _, ⟨[], World.ownsRow_nil _ _ _ _, rfl, fun i x p h => by simp at h⟩, World.ownsRow_nil _ _ _ _, ⟨[], World.ownsRow_nil _ _ _ _⟩⟩⟩
    rintro gk3 a3 W3 ⟨m, hfr3, hfix3, e102, e103, e104, hgm, hRW⟩
    rw [hfr3]
    have hsur3 : Sur W3 := (HSur.out.later HB2.out).later hRW.below
    have hdS3 : StrsAt W3 gd (toks dst) := HA2.out.later hRW.below
    have hsS3 : StrsAt W3 gs (toks src) := HA1'.out.later hRW.below
    by_cases hm : m < (toks dst).length
    · have hmp : m < ps.length := by rw [HPS.out]; exact hm
      have hres := HR.out m hm hmp
      have htl : (ps.take m).length = m := by rw [List.length_take]; omega
      have hts : ps.take (m + 1) = ps.take m ++ [ps[m]] := by rw [List.take_add_one]; simp [hmp]
      rcases hres with ⟨r1, r2⟩ | ⟨r0, _⟩
      · refine word4s (uOf a3) w2 w2.heap.size gd cd (toks dst) (toks dst)[m] (ps.take m) W3 _ hsur3 hdS3 hRW (by rw [htl]; exact hm) HL.out.2 (by rw [htl]; exact List.getElem?_eq_getElem hm) r2 hfix3.u2 e102 e103 (by rw [htl]; exact e104) (Lib.hid ?_)
        intro a' W' h1 h2 h3 h4 h5 h6 h7 h8
        rw [htl] at h7
        refine ⟨gk3 - 1, by omega, m + 1, h1, hfix3.keep h2, h5.trans e102, h6.trans e103, h7, by omega, ?_⟩
        rw [hts, r1]
        exact h8
      · exact absurd r0 (by simp [HW0.out])
    · have hme : m = (toks dst).length := by omega
      rw [hme] at e104
      have hRW : Hid (RW w2 w2.heap.size W3 (uOf a3 16) (uOf a3 17) (uOf a3 18) (uOf a3 19) ps) := Lib.hid (by rw [hme, List.take_of_length_le (by rw [HPS.out]; exact Nat.le_refl _)] at hRW; exact hRW)
      have hne : 0 < ps.length := by rw [HPS.out]; exact List.length_pos_iff.2 (toks_ne dst)
      refine end4 (uOf a3) (toks dst).length W3 _ HL.out.2 e103 e104 (Lib.hid ?_)
      intro a3' hfr4 hk4 q16 q17 q18 q19 _ _
      have hfix4 := hfix3.keep hk4
      rw [← q16, ← q17, ← q18, ← q19] at hRW
      rw [hfr4]
      have hdS := Lib.hid hdS3
      have hsS := Lib.hid hsS3
      clear hdS3 hsS3 hfr3 hfix3 e102 e103 e104 hsur3 hfr4 hk4
      skip
      have hfix3 := hfix4
      clear hfix4

      have hx := tr_of hRW.out hne gd cd gs cs src dst (toks dst) (toks src) hdS.out hsS.out
      obtain ⟨gy, cy, gx, cx, gi, ci, gz, cz, e16, e17, e18, e19, hTr⟩ := hx
      have HX := Lib.hid hTr
      have HBX : Hid (Below w.heap.size w W3) := Lib.hid (HB2.out.trans (hRW.out.below.mono HB2.out.size))
      have hw3 : w.heap.size ≤ W3.heap.size := HBX.out.size
      clear hTr hRW q16 q17 q18 q19
      generalize uOf a3' = u3 at *
      obtain ⟨y0, y1, y2, y9, y10, y13⟩ := hfix3
      unfold FrameU
      simp only [Exit.then, Exit.inBlock, if_true]
      go_wp2_with fail
      go_ret2
      exact ⟨_, gd, cd, gs, cs, gy, cy, gx, cx, gi, ci, rfl, HX.out, HBX.out.alloc hw3 _⟩
end Go.Proofs.YtpiceaehfpljnaaDoor
