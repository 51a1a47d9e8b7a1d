/- The walk of NewSubjectTransformWithStrict: the rounds over a destination. -/
import Derived.Test.YtpiceaehfpljnaaDoorMpP
namespace Go.Proofs.YtpiceaehfpljnaaDoor
open Go.RowKit Mp Mpm
attribute [local go_sem ↓] Go.wp_at_zero Go.wp_at_succ
set_option linter.unusedVariables false
set_option linter.unusedSimpArgs false
set_option maxRecDepth 1000000
set_option maxHeartbeats 8000000

theorem info90 : (Tryd.prog.info? 90).map (fun i => (i.zero, i.size, i.bytes)) = some (some (.int .i16 0), 1, 2) := by kernel_rfl
theorem info53 : (Tryd.prog.info? 53).map (fun i => (i.zero, i.size, i.bytes)) = some (some (.slice none 0 0), 1, 24) := by kernel_rfl
theorem info21 : (Tryd.prog.info? 21).map (fun i => (i.zero, i.size, i.bytes)) = some (some (.int .i32 0), 1, 4) := by kernel_rfl
theorem info3 : (Tryd.prog.info? 3).map (fun i => (i.zero, i.size, i.bytes)) = some (some (.int .i64 0), 1, 8) := by kernel_rfl
theorem heap_alloc2 (w : World) (o o2 : Obj) : ((w.alloc o).alloc o2).heap[w.heap.size + 1]? = some o2 := by
  rw [show w.heap.size + 1 = (w.alloc o).heap.size by simp]
  exact heap_alloc_last _ _
/-- Blocks of cells of other types than E stay. -/
def KC (E : TypeId) (w w' : World) : Prop := ∀ (k : Nat) (cs : Array Value) (t : TypeId) (fr : Nat × Nat), t ≠ E → w.heap[k]? = some (Obj.cells cs t fr) → w'.heap[k]? = some (Obj.cells cs t fr)
theorem own_typ' {w : World} {B E n : Nat} {v : Value} {xs : List Value} (h : w.ownsRow B E 1 v n xs) {k : Nat} {cs : Array Value} {t : TypeId} {fr : Nat × Nat} (hk : w.heap[k]? = some (.cells cs t fr)) (ht : t ≠ E) : some k ≠ v.ownBlock := by
  obtain ⟨_, h | ⟨g, cap, cur, rfl, _, hb, _⟩⟩ := h
  · obtain ⟨rfl, _⟩ := h; simp [Value.ownBlock]
  · simp [Value.ownBlock]
    rintro rfl
    rw [hb] at hk
    injection hk with hk
    injection hk with _ hk
    exact ht hk.symm
theorem kc_app {B E n : Nat} {w w' : World} {v : Value} {xs : List Value} {o : Obj} (h : w.ownsRow B E 1 v n xs) (hg : (w.alloc o).grownBy w' v.ownBlock) (hB : B ≤ w.heap.size) : KC E w w' ∧ Below B w w' := by
  refine ⟨fun k cs t fr ht hk => ?_, ((Below.refl B w).alloc hB _).trans (grown_below hg (own_from h) (by simp; omega))⟩
  have hlt := Lib.lt_of_heap hk
  have ha : (w.alloc o).heap[k]? = some (.cells cs t fr) := by rw [heap_alloc_old w o hlt]; exact hk
  exact (hg.block k (by simp; omega) (own_typ' h hk ht)).trans ha
theorem kc_app2 {B E n : Nat} {w w' : World} {v : Value} {xs : List Value} {o o2 : Obj} (h : w.ownsRow B E 1 v n xs) (hg : ((w.alloc o).alloc o2).grownBy w' v.ownBlock) (hB : B ≤ w.heap.size) : KC E w w' ∧ Below B w w' := by
  refine ⟨fun k cs t fr ht hk => ?_, (((Below.refl B w).alloc hB _).alloc (by simp; omega) _).trans (grown_below hg (own_from h) (by simp; omega))⟩
  have hlt := Lib.lt_of_heap hk
  have ha : ((w.alloc o).alloc o2).heap[k]? = some (.cells cs t fr) := by rw [heap_alloc_old _ o2 (by simp; omega), heap_alloc_old w o hlt]; exact hk
  exact (hg.block k (by simp; omega) (own_typ' h hk ht)).trans ha
theorem own_kc {B E E' n : Nat} {w w' : World} {v : Value} {xs : List Value} (h : w.ownsRow B E 1 v n xs) (hk : KC E' w w') (hE : E ≠ E') : w'.ownsRow B E 1 v n xs := by
  obtain ⟨h1, h2 | ⟨g, cap, cur, hv, hbg, hc, hr⟩⟩ := h
  · exact ⟨h1, .inl h2⟩
  · exact ⟨h1, .inr ⟨g, cap, cur, hv, hbg, hk g cur E (0, 0) hE hc, hr⟩⟩
theorem kc_later {w w' : World} {E : TypeId} (hb : Below w.heap.size w w') : KC E w w' := fun k cs t fr _ hk => (hb.block k (Lib.lt_of_heap hk)).trans hk
theorem own_later {B E n : Nat} {w w' : World} {v : Value} {xs : List Value} (h : w.ownsRow B E 1 v n xs) (hb : Below w.heap.size w w') : w'.ownsRow B E 1 v n xs := own_kc h (kc_later (E := E + 1) hb) (by omega)
/-- Lists of numbers, laid out. -/
def Xs (w : World) (xs : List Value) (ps : List Ph) : Prop := xs.length = ps.length ∧ ∀ (i : Nat) x p, xs[i]? = some x → ps[i]? = some p → ∃ g c cs, x = .slice (some ⟨g, 0, none⟩) p.ix.length c ∧ w.heap[g]? = some (.cells cs 3 (0, 0)) ∧ ∀ j (h : j < p.ix.length), cs[j]? = some (.int .i64 p.ix[j])
theorem Xs.kc {w w' : World} {E : TypeId} {xs : List Value} {ps : List Ph} (h : Xs w xs ps) (hk : KC E w w') (hE : E ≠ 3) : Xs w' xs ps :=
  ⟨h.1, fun i x p h1 h2 => by obtain ⟨g, c, cs, a1, a2, a3⟩ := h.2 i x p h1 h2; exact ⟨g, c, cs, a1, hk g cs 3 (0, 0) (Ne.symm hE) a2, a3⟩⟩
theorem Xs.later {w w' : World} {xs : List Value} {ps : List Ph} (h : Xs w xs ps) (hb : Below w.heap.size w w') : Xs w' xs ps := h.kc (kc_later (E := 4) hb) (by decide)
theorem Xs.snoc {w : World} {xs : List Value} {ps : List Ph} (h : Xs w xs ps) {x : Value} {p : Ph} (hx : ∃ g c cs, x = .slice (some ⟨g, 0, none⟩) p.ix.length c ∧ w.heap[g]? = some (.cells cs 3 (0, 0)) ∧ ∀ j (h : j < p.ix.length), cs[j]? = some (.int .i64 p.ix[j])) : Xs w (xs ++ [x]) (ps ++ [p]) := by
  refine ⟨by simp [h.1], fun i y q h1 h2 => ?_⟩
  by_cases hi : i < xs.length
  · rw [List.getElem?_append_left hi] at h1
    rw [List.getElem?_append_left (by have := h.1; omega)] at h2
    exact h.2 i y q h1 h2
  · have h3 := (List.getElem?_eq_some_iff.1 h1).1
    simp at h3
    obtain rfl : i = xs.length := by omega
    rw [List.getElem?_append_right (Nat.le_refl _)] at h1
    rw [List.getElem?_append_right (by have := h.1; omega)] at h2
    have := h.1
    simp [this] at h1 h2
    subst h1; subst h2
    exact hx
/-- The four rows. -/
structure RW (w0 : World) (B : Nat) (W : World) (v16 v17 v18 v19 : Value) (ps : List Ph) : Prop where
  below : Below B w0 W
  bw : B ≤ W.heap.size
  y : W.ownsRow B 90 1 v16 ps.length (ps.map fun p => .int .i16 p.ty)
  x : ∃ xs, W.ownsRow B 53 1 v17 ps.length xs ∧ Xs W xs ps
  i : W.ownsRow B 21 1 v18 ps.length (ps.map fun p => .int .i32 p.n)
  z : ∃ zs, W.ownsRow B 9 1 v19 ps.length zs
theorem RW.later {w0 W W' : World} {B : Nat} {v16 v17 v18 v19 : Value} {ps : List Ph} (h : RW w0 B W v16 v17 v18 v19 ps) (hb : Below W.heap.size W W') : RW w0 B W' v16 v17 v18 v19 ps := by
  obtain ⟨xs, h1, h2⟩ := h.x
  obtain ⟨zs, h3⟩ := h.z
  exact ⟨h.below.trans (hb.mono h.bw), by have := hb.size; have := h.bw; omega, own_later h.y hb, ⟨xs, own_later h1 hb, h2.later hb⟩, own_later h.i hb, ⟨zs, own_later h3 hb⟩⟩

theorem word2 (u : Nat → Value) (w0 : World) (B gd c : Nat) (ds : List ByteArray) (t : ByteArray) (ps : List Ph) (W : World) (Q : Exit → Act → World → Prop) (hSur : Sur W) (hS : StrsAt W gd ds) (hR : RW w0 B W (u 16) (u 17) (u 18) (u 19) ps) (hk : ps.length < ds.length) (hl : ds.length < 1000) (ht : ds[ps.length]? = some t) (hC : PhC t (.ok 0 [-1] (-1)))
    (u2 : u 2 = .bool false) (u81 : u 102 = .slice (some ⟨gd, 0, none⟩) ds.length c) (u82 : u 103 = .int .i64 (ds.length : Nat)) (u83 : u 104 = .int .i64 (ps.length : Nat))
    (HQ : Hid (∀ a W', a = FrameU (uOf a) → KeepU u (uOf a) → uOf a 20 = u 20 → uOf a 23 = u 23 → uOf a 102 = u 102 → uOf a 103 = u 103 → uOf a 104 = .int .i64 ((ps.length + 1 : Nat) : Int) → RW w0 B W' (uOf a 16) (uOf a 17) (uOf a 18) (uOf a 19) (ps ++ [⟨0, [-1], -1⟩]) → Q .normal a W')) :
    Code.wp Tryd.prog (L32 1) Q (FrameU u) W := by
  obtain ⟨y0, hy0, hy1, hy2, hy3⟩ := info_parts info90
  obtain ⟨x0, hx0, hx1, hx2, hx3⟩ := info_parts info53
  obtain ⟨i0, hi0, hi1, hi2, hi3⟩ := info_parts info21
  obtain ⟨z0, hz0, hz1, hz2, hz3⟩ := info_parts info9
  have d1 : decide ((ps.length : Int) < (ds.length : Int)) = true := decide_eq_true (by omega)
  have d2 : decide (ps.length < ds.length) = true := decide_eq_true hk
  have c0 := hS.2 ps.length hk
  have htt : ds[ps.length] = t := by rw [List.getElem?_eq_getElem hk] at ht; exact Option.some.inj ht
  rw [htt] at c0
  obtain ⟨v16, e16⟩ : ∃ v, u 16 = v := ⟨_, rfl⟩
  obtain ⟨v17, e17⟩ : ∃ v, u 17 = v := ⟨_, rfl⟩
  obtain ⟨v18, e18⟩ : ∃ v, u 18 = v := ⟨_, rfl⟩
  obtain ⟨v19, e19⟩ : ∃ v, u 19 = v := ⟨_, rfl⟩
  rw [e16, e17, e18, e19] at hR
  have HR := Lib.hid hR
  have HSur := Lib.hid hSur
  have HC := Lib.hid (hC W hSur)
  clear hS hR hSur hC ht htt
  unfold FrameU
  conv => arg 2; whnf
  go_wp2_with fail
  refine HC.out.mono ?_
  rintro e W0 ⟨g0, c0', rfl, hI0, hb0⟩
  have HR0 := Lib.hid (HR.out.later hb0)
  clear hI0 hb0
  have hbw := HR0.out.bw
  obtain ⟨xs, hxs, hXs⟩ := HR0.out.x
  obtain ⟨zs, hzs⟩ := HR0.out.z
  have HXO := Lib.hid hxs
  have HXS := Lib.hid hXs
  have HZO := Lib.hid hzs
  clear hxs hXs hzs
  go_wp2_with (at_builtin; refine wpList_append_lies _ rfl (.tmp 133) (.tmp 134) 68 rfl B 90 y0 (.int .i16 0) 1 2 Tryd.underlying68 hy0 hy1 hy2 hy3 rfl (by omega) v16 ps.length (ps.map fun p => .int .i16 p.ty) rfl (HR0.out.y.alloc _) ⟨W0.heap.size, 0, none⟩ 1 1 [.int .i16 0] rfl rfl (World.news_of_block (cs := #[.int .i16 0]) (t := 90) (fr := (0, 0)) (heap_alloc_new _ _)) (by simp [Value.oneCell']) (by omega) (by unfold maxLen; omega) (by omega) (by simp; omega) _ rfl ?_)
  intro g1 cp1 W1 own1 grow1 at1 lt1
  have K1 := Lib.hid (kc_app HR0.out.y grow1 hbw)
  have O1 := Lib.hid own1
  have hbw1 : B ≤ W1.heap.size := Nat.le_trans hbw K1.out.2.size
  clear own1 grow1 at1 lt1
  have O2 : Hid (((W1.alloc (.cells #[.int .i64 (-1)] 3)).alloc (.cells #[.slice (some ⟨W1.heap.size, 0, none⟩) 1 1] 53)).ownsRow B 53 1 v17 ps.length xs) := Lib.hid (((own_kc HXO.out K1.out.1 (by decide)).alloc _).alloc _)
  have N2 : Hid (((W1.alloc (.cells #[.int .i64 (-1)] 3)).alloc (.cells #[.slice (some ⟨W1.heap.size, 0, none⟩) 1 1] 53)).heap[W1.heap.size + 1]? = some (.cells #[.slice (some ⟨W1.heap.size, 0, none⟩) 1 1] 53 (0, 0))) := Lib.hid (heap_alloc2 W1 _ _)
  go_wp2_with (at_builtin; refine wpList_append_lies _ rfl (.tmp 136) (.tmp 138) 69 rfl B 53 x0 (.slice none 0 0) 1 24 Tryd.underlying69 hx0 hx1 hx2 hx3 rfl (by omega) v17 ps.length xs rfl O2.out ⟨W1.heap.size + 1, 0, none⟩ 1 1 [.slice (some ⟨W1.heap.size, 0, none⟩) 1 1] rfl rfl (World.news_of_block N2.out) (by simp [Value.oneCell']) (by omega) (by unfold maxLen; omega) (by omega) (by simp; omega) _ rfl ?_)
  intro g2 cp2 W2 own2 grow2 at2 lt2
  have K2 := Lib.hid (kc_app2 (own_kc HXO.out K1.out.1 (by decide)) grow2 hbw1)
  have X2 : Hid (W2.heap[W1.heap.size]? = some (.cells #[.int .i64 (-1)] 3 (0, 0))) := Lib.hid (by
    have h1 : ((W1.alloc (.cells #[.int .i64 (-1)] 3)).alloc (.cells #[.slice (some ⟨W1.heap.size, 0, none⟩) 1 1] 53)).heap[W1.heap.size]? = some (.cells #[.int .i64 (-1)] 3 (0, 0)) := by
      rw [heap_alloc_old _ _ (by simp)]; exact heap_alloc_last W1 _
    exact (grow2.block _ (by simp; omega) (own_typ' O2.out h1 (by decide))).trans h1)
  have O2 := Lib.hid own2
  have hbw2 : B ≤ W2.heap.size := Nat.le_trans hbw1 K2.out.2.size
  clear own2 grow2 at2 lt2
  have O3 : Hid ((W2.alloc (.cells #[.int .i32 (-1)] 21)).ownsRow B 21 1 v18 ps.length (ps.map fun p => .int .i32 p.n)) := Lib.hid ((own_kc (own_kc HR0.out.i K1.out.1 (by decide)) K2.out.1 (by decide)).alloc _)
  have N3 : Hid ((W2.alloc (.cells #[.int .i32 (-1)] 21)).heap[W2.heap.size]? = some (.cells #[.int .i32 (-1)] 21 (0, 0))) := Lib.hid (heap_alloc_last W2 _)
  go_wp2_with (at_builtin; refine wpList_append_lies _ rfl (.tmp 140) (.tmp 141) 70 rfl B 21 i0 (.int .i32 0) 1 4 Tryd.underlying70 hi0 hi1 hi2 hi3 rfl (by omega) v18 ps.length (ps.map fun p => .int .i32 p.n) rfl O3.out ⟨W2.heap.size, 0, none⟩ 1 1 [.int .i32 (-1)] rfl rfl (World.news_of_block N3.out) (by simp [Value.oneCell']) (by omega) (by unfold maxLen; omega) (by omega) (by simp; omega) _ rfl ?_)
  intro g3 cp3 W3 own3 grow3 at3 lt3
  have K3 := Lib.hid (kc_app (own_kc (own_kc HR0.out.i K1.out.1 (by decide)) K2.out.1 (by decide)) grow3 hbw2)
  have O3 := Lib.hid own3
  have hbw3 : B ≤ W3.heap.size := Nat.le_trans hbw2 K3.out.2.size
  clear own3 grow3 at3 lt3
  have O4 : Hid ((W3.alloc (.cells #[.string ⟨#[]⟩] 9)).ownsRow B 9 1 v19 ps.length zs) := Lib.hid ((own_kc (own_kc (own_kc HZO.out K1.out.1 (by decide)) K2.out.1 (by decide)) K3.out.1 (by decide)).alloc _)
  have N4 : Hid ((W3.alloc (.cells #[.string ⟨#[]⟩] 9)).heap[W3.heap.size]? = some (.cells #[.string ⟨#[]⟩] 9 (0, 0))) := Lib.hid (heap_alloc_last W3 _)
  go_wp2_with (at_builtin; refine wpList_append_lies _ rfl (.tmp 143) (.tmp 144) 23 rfl B 9 z0 (.string ⟨#[]⟩) 1 16 Tryd.underlying23 hz0 hz1 hz2 hz3 rfl (by omega) v19 ps.length zs rfl O4.out ⟨W3.heap.size, 0, none⟩ 1 1 [.string ⟨#[]⟩] rfl rfl (World.news_of_block N4.out) (by simp [Value.oneCell']) (by omega) (by unfold maxLen; omega) (by omega) (by simp; omega) _ rfl ?_)
  intro g4 cp4 W4 own4 grow4 at4 lt4
  have K4 := Lib.hid (kc_app (own_kc (own_kc (own_kc HZO.out K1.out.1 (by decide)) K2.out.1 (by decide)) K3.out.1 (by decide)) grow4 hbw3)
  have O4 := Lib.hid own4
  have hbw4 : B ≤ W4.heap.size := Nat.le_trans hbw3 K4.out.2.size
  clear own4 grow4 at4 lt4
  have HF : Hid (RW w0 B W4 (.slice (some ⟨g1, 0, none⟩) (ps.length + 1) cp1) (.slice (some ⟨g2, 0, none⟩) (ps.length + 1) cp2) (.slice (some ⟨g3, 0, none⟩) (ps.length + 1) cp3) (.slice (some ⟨g4, 0, none⟩) (ps.length + 1) cp4) (ps ++ [⟨0, [-1], -1⟩])) := Lib.hid (by
    have hx2 : Xs W2 (xs ++ [.slice (some ⟨W1.heap.size, 0, none⟩) 1 1]) (ps ++ [⟨0, [-1], -1⟩]) := ((HXS.out.kc K1.out.1 (by decide)).kc K2.out.1 (by decide)).snoc ⟨W1.heap.size, 1, #[.int .i64 (-1)], rfl, X2.out, fun j hj => by
      match j, hj with
      | 0, _ => rfl
      | j + 1, hj => exact absurd hj (by simp)⟩
    refine ⟨HR0.out.below.trans (K1.out.2.trans (K2.out.2.trans (K3.out.2.trans K4.out.2))), hbw4, ?_, ⟨xs ++ [.slice (some ⟨W1.heap.size, 0, none⟩) 1 1], ?_, (hx2.kc K3.out.1 (by decide)).kc K4.out.1 (by decide)⟩, ?_, ⟨zs ++ [.string ⟨#[]⟩], ?_⟩⟩
    · have := own_kc (own_kc (own_kc O1.out K2.out.1 (by decide)) K3.out.1 (by decide)) K4.out.1 (by decide)
      simpa using this
    · have := own_kc (own_kc O2.out K3.out.1 (by decide)) K4.out.1 (by decide)
      simpa using this
    · have := own_kc O3.out K4.out.1 (by decide)
      simpa using this
    · have := O4.out
      rw [List.length_append]
      exact this)
  go_wp2_with fail
  exact HQ.out _ W4 (by kernel_rfl) (by unfold KeepU; exact ⟨rfl, rfl, u2.symm, rfl, rfl, rfl, rfl, rfl, rfl, rfl, rfl, rfl, rfl, rfl, rfl, rfl⟩) rfl rfl u81.symm u82.symm rfl HF.out

end Go.Proofs.YtpiceaehfpljnaaDoor
