/- The walk of TransformTokenizedSubject: a round at a partition. -/
import Derived.Test.YtpiceaehfpljnaaDoorMpQQ
import Derived.Test.YtpiceaehfpljnaaDoorMpJ
namespace Go.Proofs.YtpiceaehfpljnaaDoor
open Go.RowKit Mp
attribute [local go_sem ↓] Go.wp_at_zero Go.wp_at_succ
set_option linter.unusedVariables false
set_option linter.unusedSimpArgs false
set_option maxRecDepth 1000000
set_option maxHeartbeats 8000000

theorem op_app45 {ops : Array Oper} {rest : List Oper} {o : Oper} {a : Act} {w : World} {Q : Exit → Act → World → Prop} (hg : o.guard = none) (s x : Operand) (ho : o.op = .call { callee := .builtin .append, args := #[s, x], argTypes := #[45, 45] })
    (b n cap : Nat) (hs : a.eval s = .slice (some ⟨b, 0, none⟩) n cap) (ad : Addr) (m c : Nat) (news : List Value) (hx : a.eval x = .slice (some ad) m c) (hl : news.length = m) (hnews : ∀ j u, news[j]? = some u → w.cell? (ad.add j) = some u) (h1 : ∀ u ∈ news, u.oneCell' = true)
    (hroom : n + m ≤ cap) (hc : ∀ j, j < news.length → (w.cell? ⟨b, 0 + n * 1 + j, none⟩).isSome = true) (hf : ∀ j, j < news.length → w.frozen? ⟨b, 0 + n * 1 + j, none⟩ = false)
    (h : wpList Tryd.prog ops Q rest (a.put o.dst (.slice (some ⟨b, 0, none⟩) (n + m) cap)) (w.setCells b (0 + n * 1) news)) : wpList Tryd.prog ops Q (o :: rest) a w := by
  obtain ⟨i, hi, hz⟩ : ∃ i, Tryd.prog.info? 5 = some i ∧ i.size = 1 := ⟨_, rfl, rfl⟩
  refine wpList_plain hg fun K hK => ?_
  have hrun := run_append_room_cells (P := Tryd.prog) w 45 o.type 5 i Tryd.underlying45 hi b 0 n cap ad m c news (by rw [hz, Nat.mul_one]; exact hl) hnews h1 hroom (by rw [hz]; exact hc) (by rw [hz]; exact hf)
  rw [hz] at hrun
  unfold Oper.wp
  simp [execOp, ho, resolve, invoke, builtin, hs, hx, hrun, Result.andThen]
  exact hK _ _ (by simpa using h)
theorem Bdr.later {B b : Nat} {l : List UInt8} {w w' : World} (h : Bdr B b l w) (hb : Below w.heap.size w w') : Bdr B b l w' := by
  rcases h with ⟨h1, v, h2, h3, h4⟩ | ⟨h1, v, h2, h3, h4⟩
  · exact Or.inl ⟨h1, v, (hb.block b (Lib.lt_of_heap h2)).trans h2, own_later h3 hb, h4⟩
  · exact Or.inr ⟨h1, v, (hb.block b (Lib.lt_of_heap h2)).trans h2, own_later h3 hb, h4⟩
theorem below_sc {B : Nat} {a : World} (b : Nat) (hb : B ≤ b) : ∀ (vs : List Value) (o : Nat) (w : World), Below B a w → Below B a (w.setCells b o vs)
  | [], _, _, h => h
  | v :: r, o, w, h => below_sc b hb r (o + 1) _ (h.setCell (p := ⟨b, o, none⟩) hb v)
def newsOf (t : ByteArray) : List Value := t.data.toList.map fun c => .int .u8 ((c.toNat : Nat) : Int)
/-- A partition's text. -/
def partT (t : ByteArray) (m : Nat) : ByteArray := strOf (dig (partOf t.data.toList m))
theorem key_at (W1 W2 : World) (b1 g2 : Nat) (t : ByteArray) (hg : g2 = W1.heap.size) (ht : t.size ≤ 64) (hz : W1.heap[b1]? = some (.cells z64 101 (0, 0))) (hW : W2 = Lib.bytesWorld W1 5 t) :
    (∀ j u, (newsOf t)[j]? = some u → W2.cell? ((⟨g2, 0, none⟩ : Addr).add j) = some u) ∧ (∀ u ∈ newsOf t, u.oneCell' = true) ∧ (newsOf t).length = t.size ∧
    (∀ j, j < (newsOf t).length → (W2.cell? ⟨b1, 0 + 0 * 1 + j, none⟩).isSome = true) ∧ (∀ j, j < (newsOf t).length → W2.frozen? ⟨b1, 0 + 0 * 1 + j, none⟩ = false) ∧
    Below W1.heap.size W1 W2 ∧ KeyAt (W2.setCells b1 (0 + 0 * 1) (newsOf t)) (some ⟨b1, 0, none⟩) t.data.toList := by
  have hl : (newsOf t).length = t.size := by unfold newsOf; rw [List.length_map]; rfl
  have hB : Below W1.heap.size W1 W2 := by rw [hW]; exact Joins.below_bytesWorld W1.heap.size W1 5 t (Nat.le_refl _)
  have hz2 : W2.heap[b1]? = some (.cells z64 101 (0, 0)) := (hB.block b1 (Lib.lt_of_heap hz)).trans hz
  have hc : ∀ j, j < (newsOf t).length → (W2.cell? ⟨b1, 0 + 0 * 1 + j, none⟩).isSome = true := fun j hj => by
    rw [Lib.cell_of_heap hz2, show 0 + 0 * 1 + j = j by omega]
    have := z64_size
    simp [this]
    omega
  refine ⟨fun j u hu => ?_, fun u hu => ?_, hl, hc, fun j hj => Lib.frozen_of_heap hz2 _, hB, fun j hj => ⟨_, rfl, ?_⟩⟩
  · have hj : j < t.size := by rw [← hl]; exact (List.getElem?_eq_some_iff.1 hu).1
    have ha : (⟨g2, 0, none⟩ : Addr).add j = ⟨g2, j, none⟩ := by unfold Addr.add; split <;> simp_all
    rw [ha, hW, hg, bw_cell W1 t j hj, ← hu]
    unfold newsOf
    rw [List.getElem?_map, List.getElem?_eq_getElem (by rw [size_list]; exact hj), get_b8 t j hj]
    rfl
  · unfold newsOf at hu
    obtain ⟨_, _, rfl⟩ := List.mem_map.1 hu
    rfl
  · have hj2 : j < (newsOf t).length := by rw [hl]; exact hj
    have ha : (⟨b1, 0, none⟩ : Addr).add j = ⟨b1, 0 + 0 * 1 + j, none⟩ := by unfold Addr.add; split <;> simp_all
    rw [ha, World.cell?_setCells_in b1 (newsOf t) (0 + 0 * 1) W2 hc j hj2]
    simp [newsOf]

theorem roundPart (F : FT) (k : Nat) (u : Nat → Value) (w wr : World) (B : Nat) (out : List UInt8) (gd cd gs cs cy gx cx gi ci : Nat) (src dst : ByteArray) (ds ss ts : List ByteArray) (ps : List Ph) (Q : Exit → Act → World → Prop)
    (hF : F.pn = ps.length ∧ F.li = ((ps.length - 1 : Nat) : Int) ∧ F.cy = cy ∧ F.tn = ts.length) (hT : TrAt w F.p gd cd gs cs F.gy cy gx cx gi ci src dst ds ss ps) (hS : StrsAt w F.gt ts) (hB : B = w.heap.size) (hI : TI w B F.b out wr) (hk : k < ps.length)
    (t : ByteArray) (j m : Nat) (ht : ts[j]? = some t) (ht64 : t.size ≤ 64) (hm : 1 ≤ m ∧ m ≤ 1000) (hty : ps[k].ty = 2) (hix : ps[k].ix = [(j : Int)]) (hpn : ps[k].n = (m : Int)) (hlen : out.length + (partT t m).size + 1 ≤ 140737488355328) (hpl : ps.length < 1000000)
    (HQ : Hid (∀ a w', FrameTs F (k + 1) a → TI w B F.b (out ++ (partT t m).data.toList ++ (if k + 1 < ps.length then [46] else [])) w' → Q .normal a w')) :
    Code.wp Tryd.prog L37 Q (FrameT F k u) wr := by
  obtain ⟨F1, F2, F3, F4⟩ := hF
  have hT' := hT.later (by rw [← hB]; exact hI.below)
  have hS' := hS.later (by rw [← hB]; exact hI.below)
  have y0 := hT'.y k hk
  rw [hty] at y0
  have hb1 := (Below.refl wr.heap.size wr).alloc (Nat.le_refl _) (.cells z64 101)
  have hT1 := hT'.later hb1
  have hS1 := hS'.later hb1
  have c5 := hT1.c5
  obtain ⟨g, c, x1, x2, x3⟩ := hT1.x k hk
  rw [hix] at x1
  have x4 : (wr.alloc (.cells z64 101)).cell? ⟨g, 0, none⟩ = some (.int .i64 (j : Int)) := by
    have := x3 0 (by rw [hix]; exact Nat.zero_lt_one)
    rw [this]
    simp [hix]
  rw [show ([(j : Int)] : List Int).length = 1 from rfl] at x1
  have hj : j < ts.length := (List.getElem?_eq_some_iff.1 ht).1
  have d0 := hS1.2 j hj
  have hdt : ts[j] = t := by rw [List.getElem?_eq_getElem hj] at ht; exact Option.some.inj ht
  rw [hdt] at d0
  obtain ⟨W1, hW1⟩ : ∃ W1, W1 = wr.alloc (.cells z64 101) := ⟨_, rfl⟩
  obtain ⟨b1, hbb⟩ : ∃ b1, b1 = wr.heap.size := ⟨_, rfl⟩
  have hz1 : W1.heap[b1]? = some (.cells z64 101 (0, 0)) := by rw [hW1, hbb]; exact heap_alloc_last wr _
  obtain ⟨W2, hW2⟩ : ∃ W2, W2 = Lib.bytesWorld W1 5 t := ⟨_, rfl⟩
  obtain ⟨g2, hg2⟩ : ∃ g2, g2 = W1.heap.size := ⟨_, rfl⟩
  have hcv := conv945 W1 t
  rw [← hW2, ← hg2] at hcv
  obtain ⟨cp, hcp⟩ : ∃ cp, grownCap W1 t.size 0 5 = cp := ⟨_, rfl⟩
  rw [hcp] at hcv
  obtain ⟨n1, n2, n3, n4, n5, hB2, hK⟩ := key_at W1 W2 b1 g2 t hg2 ht64 hz1 hW2
  have N1 := Lib.hid n1
  have N2 := Lib.hid n2
  have N3 := Lib.hid n3
  have N4 := Lib.hid n4
  have N5 := Lib.hid n5
  have hB1w : Below wr.heap.size wr W1 := by rw [hW1]; exact hb1
  have hB2w : Below wr.heap.size wr W2 := hB1w.trans (hB2.mono hB1w.size)
  obtain ⟨W3, hW3⟩ : ∃ W3, W3 = W2.setCells b1 (0 + 0 * 1) (newsOf t) := ⟨_, rfl⟩
  have hB3w : Below wr.heap.size wr W3 := by rw [hW3]; exact below_sc b1 (by omega) _ _ _ hB2w
  rw [← hW3] at hK
  have hb1l : b1 < W3.heap.size := by
    have h2 := Lib.lt_of_heap hz1
    have h3 := hB2.size
    have h4 : W2.heap.size ≤ (W2.setCells b1 (0 + 0 * 1) (newsOf t)).heap.size := (below_sc (B := 0) (a := W2) b1 (Nat.zero_le _) (newsOf t) (0 + 0 * 1) W2 (Below.refl 0 W2)).size
    rw [hW3]
    omega
  have hT3 := hT'.later hB3w
  have c6 := hT3.c6
  have i0 := hT3.i k hk
  rw [hpn] at i0
  have HH := Lib.hid (hash_any (.pointer (some ⟨F.p, 0, none⟩)) t.data.toList (by rw [size_list]; omega) (some ⟨b1, 0, none⟩) 64 m hm W3 hK (fun b hb => by injection hb with hb; rw [← hb]; exact hb1l))
  rw [size_list] at HH
  have HB3 := Lib.hid hB3w
  have HI := Lib.hid hI
  have hBw : B ≤ wr.heap.size := by rw [hB]; have := hI.below.size; omega
  have hpz := strOf_size (dig (partOf t.data.toList m))
  obtain ⟨S, hSS⟩ : ∃ S, S = strOf (dig (partOf t.data.toList m)) := ⟨_, rfl⟩
  rw [show partT t m = strOf (dig (partOf t.data.toList m)) from rfl] at hlen HQ
  rw [← hSS] at hlen HQ HH
  have wm : IntKind.i32.wrap (m : Int) = (m : Int) := IntWalk.i32_in _ ⟨by omega, by omega⟩
  have wm2 : IntKind.i64.wrap (m : Int) = (m : Int) := IntWalk.i64_in _ ⟨by omega, by omega⟩
  rw [← hW1] at c5 x1 x4 d0
  have HW1 := Lib.hid hW1
  have HBB := Lib.hid hbb
  have HW3 := Lib.hid hW3
  have HBW := Lib.hid hBw
  clear hT hT' hT1 hS1 hT3 hS hS' hI ht hdt hB x3 hix hb1 hz1 hW2 hg2 hcp n1 n2 n3 n4 n5 hB2 hK hB1w hB2w hB3w hpn hpz hSS hty hb1l hW1 hbb hW3 hBw
  obtain ⟨p, gt, tn, tc, b, li, gy, pn, cy'⟩ := F
  dsimp only at F1 F2 F3 F4 y0 c5 d0 c6 i0 HI HH ⊢
  subst F1 F2 F3 F4
  have d1 : decide ((k : Int) < (ps.length : Int)) = true := decide_eq_true (by omega)
  have d2 : decide (k < ps.length) = true := decide_eq_true (by omega)
  unfold FrameT
  conv => arg 2; whnf
  go_wp2_with (first | (refine op_alloc101 rfl rfl ?_; rw [← HW1.out, ← HBB.out]))
  refine wp_loop_rounds 2 ?_
  rw [rounds_succ]
  go_wp2_with (at_builtin; refine op_app45 rfl (.tmp 121) (.tmp 126) rfl b1 0 64 rfl ⟨g2, 0, none⟩ t.size cp (newsOf t) rfl N3.out N1.out N2.out (by omega) N4.out N5.out ?_; rw [← HW3.out, Nat.zero_add])
  rw [rounds_succ]
  go_wp2_with fail
  refine HH.out.mono ?_
  rintro e W4 ⟨rfl, hb4⟩
  have HB4 := Lib.hid (HB3.out.trans (hb4.mono HB3.out.size))
  clear hb4
  have hBw4 : B ≤ W4.heap.size := by have := HB4.out.size; have := HBW.out; omega
  go_wp2_with fail
  refine (wstr B b out S W4 (HI.out.bdr.later HB4.out) (by omega) hBw4).mono ?_
  rintro e w1 ⟨rfl, hb1, hl1⟩
  have HB1 := Lib.hid hb1
  have HL1 : Hid (Below B wr w1) := Lib.hid ((HB4.out.mono HBW.out).trans hl1)
  have hBw1 : B ≤ w1.heap.size := by have := hl1.size; omega
  clear hb1 hl1
  by_cases hk2 : k + 1 < ps.length
  · have g1 : decide ((k : Int) < ((ps.length - 1 : Nat) : Int)) = true := decide_eq_true (by omega)
    have g2 : decide (k < ps.length - 1) = true := decide_eq_true (by omega)
    have HK2 := Lib.hid hk2
    clear hk2
    go_wp2_with fail
    refine (wbyt B b (out ++ S.data.toList) 46 w1 HB1.out (by rw [List.length_append, size_list]; omega) hBw1).mono ?_
    rintro e w2 ⟨rfl, hb2, hl2⟩
    have HB2 := Lib.hid hb2
    have HL2 := Lib.hid hl2
    clear hb2 hl2
    go_wp2_with fail
    refine HQ.out _ _ (FrameTs.mk' _ (by kernel_rfl)) ⟨HI.out.below.trans (HL1.out.trans HL2.out), ?_⟩
    rw [if_pos HK2.out]
    exact HB2.out
  · have g1 : decide ((k : Int) < ((ps.length - 1 : Nat) : Int)) = false := decide_eq_false (by omega)
    have g2 : decide (k < ps.length - 1) = false := decide_eq_false (by omega)
    have HK2 := Lib.hid hk2
    clear hk2
    go_wp2_with fail
    refine HQ.out _ _ (FrameTs.mk' _ (by kernel_rfl)) ⟨HI.out.below.trans HL1.out, ?_⟩
    rw [if_neg HK2.out, List.append_nil]
    exact HB1.out
end Go.Proofs.YtpiceaehfpljnaaDoor
