/- The walk of Mapped. -/
import Derived.Test.YtpiceaehfpljnaaDoorMqL
import Derived.Deep.Upon
namespace Go.Proofs.YtpiceaehfpljnaaDoor
open Go.RowKit Mp Mpm
attribute [local go_sem ↓] Go.wp_at_zero Go.wp_at_succ
set_option linter.unusedVariables false
set_option linter.unusedSimpArgs false
set_option maxRecDepth 1000000
set_option maxHeartbeats 8000000

theorem joinB_snoc (ts : List ByteArray) (t : ByteArray) (h : ts ≠ []) : joinB (ts ++ [t]) = joinB ts ++ ⟨#[46]⟩ ++ t := by
  unfold joinB
  rw [joinL_snoc _ _ h]
  apply ByteArray.ext
  simp [strOf, ByteArray.data_append]
theorem joinB_one (t : ByteArray) : joinB [t] = t := by unfold joinB joinL; rfl
theorem joinB_nil : joinB [] = ⟨#[]⟩ := rfl
theorem joinB_size (ts : List ByteArray) (m : Nat) (h : ∀ t ∈ ts, t.size ≤ m) : (joinB ts).size ≤ ts.length * (m + 2) := by
  unfold joinB
  rw [strOf_size]
  exact joinL_len ts (m + 1) (fun o ho => by have := h o ho; omega)
theorem joinB_pos (ts : List ByteArray) (hne : ts ≠ []) (h : ∀ t ∈ ts, 0 < t.size) : 0 < (joinB ts).size := by
  cases ts with
  | nil => exact absurd rfl hne
  | cons t r =>
    have h0 := h t (by simp)
    unfold joinB
    rw [strOf_size]
    cases r with
    | nil => rw [joinL, size_list]; exact h0
    | cons u us => rw [joinL, List.length_append, size_list]; omega
theorem sf_star (t : ByteArray) (h : t.size = 0 ∨ WordOk t) : sf t = starS ↔ t.size = 0 := by
  unfold sf
  by_cases h0 : t.size = 0
  · simp [h0]
  · rw [if_neg h0]
    have hw := h.resolve_left h0
    have hb := hw.2 0 hw.1
    refine ⟨fun e => ?_, fun e => absurd e h0⟩
    rw [e] at hb
    exact absurd hb (by unfold okc; decide)
/-- What the reference builds. -/
structure MappedQ (l : List ByteArray) (rest : Bool) (ds : List Pc) (ss ts : List ByteArray) (src dst sub out : ByteArray) : Prop where
  sr : SrcR l rest src (cnt l : Int)
  n : ss.length = cnt l
  r : rest = decide (0 < ts.length)
  dne : ds ≠ []
  sw : ∀ t ∈ ss, WordOk t
  tw : ∀ t ∈ ts, WordOk t
  sb : sub = joinB (subs (l.map sf) ss ++ ts)
  right : ∀ p ∈ ds, RightP ss.length p
  parts : ∃ T O : List ByteArray, T.length = ds.length ∧ O.length = ds.length ∧ (∀ i (h : i < ds.length) (h1 : i < T.length), WrP ds[i] T[i]) ∧ (∀ i (h : i < ds.length) (h1 : i < O.length), PutP ds[i] ss O[i]) ∧ dst = joinB (T ++ gtL rest) ∧ out = joinB (O ++ ts)
def MappedR (l : List ByteArray) (rest : Bool) (ds : List Pc) (ss ts : List ByteArray) (w : World) (e : Ending) (w' : World) : Prop :=
  (∃ (src dst sub out : ByteArray) (ok : Bool), e = .returned (.tuple #[.string src, .string dst, .string sub, .string out, .int .i64 0, .bool ok]) ∧ (ok = true → MappedQ l rest ds ss ts src dst sub out)) ∧ Below w.heap.size w w'
theorem results_tmp6 {fn : Func} {t u v x y z : Tmp} (h : fn.results = #[.tmp t, .tmp u, .tmp v, .tmp x, .tmp y, .tmp z]) (tmps : Array Value) (P : Program) (w : World) :
    (results fn tmps).run P w = .ok (.tuple #[tmps.getD t undef, tmps.getD u undef, tmps.getD v undef, tmps.getD x undef, tmps.getD y undef, tmps.getD z undef]) w := by
  simp [results, h]
theorem cnt_cons (t : ByteArray) (l : List ByteArray) : cnt (t :: l) = cnt l + (if t.size = 0 then 1 else 0) := by
  unfold cnt
  rw [List.countP_cons]
  simp
/-- The subject's words so far. -/
structure SubI (l ss : List ByteArray) (k at_ : Nat) (X : ByteArray) (dn : List ByteArray) : Prop where
  x : X = joinB dn
  ln : dn.length = k
  eq : dn ++ subs ((l.drop k).map sf) (ss.drop at_) = subs (l.map sf) ss
  c : cnt (l.drop k) + at_ = ss.length
  sz : ∀ t ∈ dn, 0 < t.size ∧ t.size ≤ 20
/-- The destination so far. -/
structure DstI (ds : List Pc) (ss : List ByteArray) (k : Nat) (X Y : ByteArray) (T O : List ByteArray) : Prop where
  x : X = joinB T
  y : Y = joinB O
  tl : T.length = k
  ol : O.length = k
  t : ∀ i (h : i < ds.length) (h1 : i < T.length), WrP ds[i] T[i]
  o : ∀ i (h : i < ds.length) (h1 : i < O.length), PutP ds[i] ss O[i]
  r : ∀ i (h : i < ds.length), i < k → RightP ss.length ds[i]
  ts : ∀ t ∈ T, t.size ≤ 300
  os : ∀ t ∈ O, t.size ≤ 100
theorem sep_str (X : ByteArray) (dn : List ByteArray) (k : Nat) (hX : X = joinB dn) (hl : dn.length = k) : ∃ Y : ByteArray, Y.size ≤ X.size + 1 ∧ (∀ t, Y ++ t = joinB (dn ++ [t])) ∧ ((Y = X ∧ k = 0) ∨ (Y = X ++ ⟨#[46]⟩ ∧ 0 < k)) := by
  by_cases h0 : 0 < k
  · have hne : dn ≠ [] := by intro e; rw [e] at hl; simp at hl; omega
    exact ⟨X ++ ⟨#[46]⟩, by rw [ByteArray.size_append]; exact Nat.le_refl _, fun t => by rw [joinB_snoc _ _ hne, hX], Or.inr ⟨rfl, h0⟩⟩
  · have hn : dn = [] := List.eq_nil_of_length_eq_zero (by omega)
    refine ⟨X, by omega, fun t => ?_, Or.inl ⟨rfl, by omega⟩⟩
    rw [hn, List.nil_append, joinB_one, hX, hn, joinB_nil]
    apply ByteArray.ext
    simp [ByteArray.data_append]
theorem wpList_append_texts {ops : Array Oper} {rest : List Oper} {o : Oper} {a : Act} {w : World} {Q : Exit → Act → World → Prop} (hgd : o.guard = none) (s x : Operand)
    (ho : o.op = .call { callee := .builtin .append, args := #[s, x], argTypes := #[23, 23] }) (B : Nat) (v : Value) (l : List ByteArray) (hs : a.eval s = v) (hv : Strs w B v l) (A : Option Addr) (c : Nat) (m : List ByteArray) (hx : a.eval x = .slice A m.length c) (hm : WsA w A m) (hl : l.length + m.length ≤ 1000) (hB : B ≤ w.heap.size)
    (h : ∀ v' w', Strs w' B v' (l ++ m) → Below B w w' → wpList Tryd.prog ops Q rest (a.put o.dst v') w') : wpList Tryd.prog ops Q (o :: rest) a w := by
  obtain ⟨i0, hi0, hz0, hz1, hz2⟩ := info_parts info9
  refine wpList_plain hgd fun K hK => ?_
  by_cases h0 : m = []
  · subst h0
    obtain ⟨base, n, cap, rfl, hnc⟩ : ∃ base n cap, v = .slice base n cap ∧ n ≤ cap := by
      obtain ⟨_, h2 | ⟨g, cap, cur, hv', _, _, hk, _⟩⟩ := hv
      · exact ⟨none, 0, 0, h2.1, Nat.le_refl _⟩
      · exact ⟨_, _, cap, hv', hk⟩
    have hsrc : Src Tryd.prog i0.size 23 (.slice A 0 c) 0 [] w := by
      cases A with
      | none => exact ⟨Or.inl ⟨9, Tryd.underlying23⟩, fun w' => by simp [Builtin.lenOf], by simp [Builtin.firstCells], by simp [Builtin.firstCells], by simp, by simp⟩
      | some ad => exact Src.ofSlice w Tryd.underlying23 ad 0 c [] (by simp) (by simp) (by simp)
    have hr := run_append_nothing (P := Tryd.prog) w 23 23 o.type 9 i0 Tryd.underlying23 hi0 base n cap hnc (.slice A 0 c) hsrc
    unfold Oper.wp execOp
    have hx' : a.eval x = .slice A 0 c := hx
    simp only [ho, resolve, invoke, builtin, Sem.run_bind, Sem.run_pure, Result.andThen_ok, List.map_toArray, List.map_cons, List.map_nil, hs, hx', hr]
    exact hK _ _ (h _ _ (by rw [List.append_nil]; exact hv) (Below.refl _ _))
  · have hpos : 0 < m.length := List.length_pos_iff.2 h0
    obtain ⟨ad, rfl, _⟩ := hm.2 0 hpos
    refine wp_append_lies w s x 23 ho B 9 i0 (.string ⟨#[]⟩) 1 16 Tryd.underlying23 hi0 hz0 hz1 hz2 rfl (by omega) v l.length (l.map Value.string) hs hv ad m.length c (m.map Value.string) hx (by simp) (fun j u hu => ?_) (fun u hu => ?_) hpos (by unfold maxLen; omega) (by omega) hB _ rfl (fun g cap w' h1 h2 h3 h4 => hK _ _ (h _ _ ?_ (grown_below h2 (own_from hv) hB)))
    · rw [List.getElem?_map] at hu
      obtain ⟨t, ht, rfl⟩ := Option.map_eq_some_iff.1 hu
      obtain ⟨hj, rfl⟩ := List.getElem?_eq_some_iff.1 ht
      obtain ⟨b, e, hb⟩ := hm.2 j hj
      cases e
      exact hb
    · obtain ⟨t, _, rfl⟩ := List.mem_map.1 hu
      simp [Value.oneCell']
    · unfold Strs
      rw [List.length_append, List.map_append]
      exact h1
theorem mapped_any (A B C D : Option Addr) (c c1 c2 c3 : Nat) (l ss ts : List ByteArray) (ds : List Pc) (rest : Bool) (w : World) (hL : WsA w A l) (hD : DsA w B ds) (hS : WsA w C ss) (hT : WsA w D ts) (hm : SmallP l ds ss ts) :
    Calls Tryd.prog 17 #[.slice A l.length c, .bool rest, .slice B ds.length c1, .slice C ss.length c2, .slice D ts.length c3, .int .i64 (-1)] w fun e w' => MappedR l rest ds ss ts w e w' := by
  obtain ⟨i0, hi0, hz0, hz1, hz2⟩ := info_parts info9
  have HL := Lib.hid hL
  have HS := Lib.hid hS
  have HT := Lib.hid hT
  have HD := Lib.hid hD
  have HSRC := Lib.hid (srcR_any rest A c l w hL hm.1)
  obtain ⟨⟨ml, ml20⟩, ⟨md, mds⟩, ⟨ms, ms20⟩, ⟨mt, mt20⟩, mt4⟩ := hm
  have HL20 := Lib.hid ml20
  have HS20 := Lib.hid ms20
  have HT20 := Lib.hid mt20
  have HDS := Lib.hid mds
  clear hL hS hT hD ml20 ms20 mt20 mds
  have HBW : Hid (Below w.heap.size w w) := Lib.hid (Below.refl _ _)
  go_enter Tryd.func17, Tryd.ntmps17
  go_wp2_with fail
  refine HSRC.out.mono ?_
  rintro e w1 ⟨⟨src, n, ok, rfl, hok⟩, hw⟩
  have hw := hw.symm
  subst hw
  have HOK := Lib.hid hok
  clear hok HSRC
  cases ok with
  | false =>
    go_wp2_with fail
    refine bodyPost_ret (results_tmp6 rfl _ _ _) rfl ?_
    exact ⟨⟨_, _, _, _, false, rfl, fun h => by cases h⟩, HBW.out⟩
  | true =>
  have hsq := HOK.out rfl
  obtain ⟨hs1, hs2, hs3, hs4⟩ := hsq
  subst hs4
  have HSR : Hid (SrcR l rest src (cnt l : Int)) := Lib.hid ⟨hs1, hs2, hs3, rfl⟩
  have HWL := Lib.hid hs2
  clear hs1 hs2 hs3 HOK
  have a1 : decide ((30 : Int) < (ds.length : Int)) = false := nd (by omega)
  have a2 : decide (30 < ds.length) = false := nd (by omega)
  have a3 : decide ((30 : Int) < (ts.length : Int)) = false := nd (by omega)
  have a4 : decide (30 < ts.length) = false := nd (by omega)
  by_cases hc : ss.length = cnt l
  rotate_left
  · have y1 : ((ss.length : Int) == (cnt l : Int)) = false := bn _ _ (by omega)
    have y2 : (ss.length == cnt l) = false := beq_eq_false_iff_ne.2 hc
    have y3 : ((ss.length : Int) != (cnt l : Int)) = true := by rw [bne, y1]; rfl
    have y4 : (ss.length != cnt l) = true := by rw [bne, y2]; rfl
    clear hc
    go_wp2_with fail
    refine bodyPost_ret (results_tmp6 rfl _ _ _) rfl ?_
    exact ⟨⟨_, _, _, _, false, rfl, fun h => by cases h⟩, HBW.out⟩
  have y1 : ((ss.length : Int) == (cnt l : Int)) = true := be _ _ (by omega)
  have y2 : (ss.length == cnt l) = true := beq_iff_eq.2 hc
  have y3 : ((ss.length : Int) != (cnt l : Int)) = false := by rw [bne, y1]; rfl
  have y4 : (ss.length != cnt l) = false := by rw [bne, y2]; rfl
  have HCC := Lib.hid hc
  clear hc
  by_cases hr : rest = decide (0 < ts.length)
  rotate_left
  · have hb : (rest = true ∧ decide (0 < ts.length) = false ∧ decide ((0 : Int) < (ts.length : Int)) = false) ∨ (rest = false ∧ decide (0 < ts.length) = true ∧ decide ((0 : Int) < (ts.length : Int)) = true) := by
      by_cases h : 0 < ts.length
      · rw [decide_eq_true h] at hr
        exact Or.inr ⟨by cases rest <;> simp_all, decide_eq_true h, decide_eq_true (by omega)⟩
      · rw [decide_eq_false h] at hr
        exact Or.inl ⟨by cases rest <;> simp_all, decide_eq_false h, decide_eq_false (by omega)⟩
    clear hr
    rcases hb with ⟨rfl, b1, b2⟩ | ⟨rfl, b1, b2⟩
    · go_wp2_with fail
      refine bodyPost_ret (results_tmp6 rfl _ _ _) rfl ?_
      exact ⟨⟨_, _, _, _, false, rfl, fun h => by cases h⟩, HBW.out⟩
    · go_wp2_with fail
      refine bodyPost_ret (results_tmp6 rfl _ _ _) rfl ?_
      exact ⟨⟨_, _, _, _, false, rfl, fun h => by cases h⟩, HBW.out⟩
  by_cases hd0 : ds.length = 0
  · have b1 : ((ds.length : Int) == 0) = true := be _ _ (by omega)
    have b2 : (ds.length == 0) = true := beq_iff_eq.2 hd0
    clear hd0
    have hb : (rest = true ∧ decide (0 < ts.length) = true ∧ decide ((0 : Int) < (ts.length : Int)) = true) ∨ (rest = false ∧ decide (0 < ts.length) = false ∧ decide ((0 : Int) < (ts.length : Int)) = false) := by
      by_cases h : 0 < ts.length
      · exact Or.inl ⟨by rw [hr]; exact decide_eq_true h, decide_eq_true h, decide_eq_true (by omega)⟩
      · exact Or.inr ⟨by rw [hr]; exact decide_eq_false h, decide_eq_false h, decide_eq_false (by omega)⟩
    clear hr
    rcases hb with ⟨rfl, b3, b4⟩ | ⟨rfl, b3, b4⟩
    · go_wp2_with fail
      refine bodyPost_ret (results_tmp6 rfl _ _ _) rfl ?_
      exact ⟨⟨_, _, _, _, false, rfl, fun h => by cases h⟩, HBW.out⟩
    · go_wp2_with fail
      refine bodyPost_ret (results_tmp6 rfl _ _ _) rfl ?_
      exact ⟨⟨_, _, _, _, false, rfl, fun h => by cases h⟩, HBW.out⟩
  have b1 : ((ds.length : Int) == 0) = false := bn _ _ (by omega)
  have b2 : (ds.length == 0) = false := beq_eq_false_iff_ne.2 hd0
  have hd1 : 0 < ds.length := by omega
  have hbr : (rest = true ∧ decide (0 < ts.length) = true ∧ decide ((0 : Int) < (ts.length : Int)) = true ∧ ts ≠ []) ∨ (rest = false ∧ decide (0 < ts.length) = false ∧ decide ((0 : Int) < (ts.length : Int)) = false ∧ ts = []) := by
    by_cases h : 0 < ts.length
    · exact Or.inl ⟨by rw [hr]; exact decide_eq_true h, decide_eq_true h, decide_eq_true (by omega), by intro e; rw [e] at h; exact absurd h (by decide)⟩
    · exact Or.inr ⟨by rw [hr]; exact decide_eq_false h, decide_eq_false h, decide_eq_false (by omega), List.eq_nil_of_length_eq_zero (by omega)⟩
  have HRR := Lib.hid hr
  have b5 : (rest != decide (0 < ts.length)) = false := by rw [hr]; cases decide (0 < ts.length) <;> rfl
  have b6 : (rest != decide ((0 : Int) < (ts.length : Int))) = false := by
    have e : decide ((0 : Int) < (ts.length : Int)) = decide (0 < ts.length) := by simp
    rw [e]; exact b5
  have b7 : (rest == decide (0 < ts.length)) = true := by rw [hr]; cases decide (0 < ts.length) <;> rfl
  have b8 : (rest = decide (0 < ts.length)) = True := eq_true hr
  have HBR := Lib.hid hbr
  clear hbr
  have OO : Hid (Strs w w.heap.size (.slice none 0 0) []) := Lib.hid (World.ownsRow_nil _ _ _ _)
  have hlen : ss.length + ts.length ≤ 100 := by omega
  clear hr
  go_wp2_with (at_builtin; refine wpList_append_texts rfl (.const (.slice none 0 0)) (.tmp 69) rfl w.heap.size (.slice none 0 0) [] rfl OO.out C c2 ss rfl HS.out (by simp; omega) (Nat.le_refl _) ?_)
  intro v1 w1 hv1 hb1
  have HV1 := Lib.hid hv1
  have HB1 := Lib.hid hb1
  have HT1 : Hid (WsA w1 D ts) := Lib.hid (HT.out.later hb1)
  have hbw1 : w.heap.size ≤ w1.heap.size := hb1.size
  clear hv1 hb1
  go_wp2_with (at_builtin; refine wpList_append_texts rfl (.tmp 70) (.tmp 71) rfl w.heap.size v1 ss rfl HV1.out D c3 ts rfl HT1.out (by omega) hbw1 ?_)
  intro v2 w2 hv2 hb2
  have HB2 : Hid (Below w.heap.size w w2) := Lib.hid (HB1.out.trans hb2)
  obtain ⟨A2, q2, rfl, _, hx2⟩ := hv2.pv
  obtain ⟨L, hL⟩ : ∃ L, ss ++ ts = L := ⟨_, rfl⟩
  rw [hL] at hx2 ⊢
  have hLl : L.length ≤ 100 := by rw [← hL, List.length_append]; exact hlen
  have HX2 := Lib.hid hx2
  have HLL := Lib.hid hL
  have HL20' : Hid (∀ t ∈ L, t.size ≤ 20) := Lib.hid (fun t ht => by
    rw [← hL] at ht
    rcases List.mem_append.1 ht with h | h
    · exact HS20.out t h
    · exact HT20.out t h)
  clear hv2 hb2 hx2 hL HV1 HB1 HT1 hbw1
  have HL2 : Hid (WsA w2 A l) := Lib.hid (HL.out.later HB2.out)
  have HS2 : Hid (WsA w2 C ss) := Lib.hid (HS.out.later HB2.out)
  have HT2 : Hid (WsA w2 D ts) := Lib.hid (HT.out.later HB2.out)
  have HD2 : Hid (DsA w2 B ds) := Lib.hid (HD.out.later HB2.out)
  go_wp2_with fail
  go_loopg [12, 13, 14, 15, 16, 17, 74] L.length (fun gk v12 v13 v14 v15 v16 v17 v74 w' => ∃ k : Nat, v12 = .string src ∧ v13 = .string ⟨#[]⟩ ∧ v14 = .string ⟨#[]⟩ ∧ v15 = .string ⟨#[]⟩ ∧ v16 = .int .i64 0 ∧ v17 = .bool true ∧ v74 = .int .i64 (k : Nat) ∧ gk + k = L.length ∧ w2 = w' ∧ Hid (∀ i (h : i < L.length), i < k → WordOk L[i]))
  case atStart => exact ⟨0, rfl, rfl, rfl, rfl, rfl, rfl, rfl, rfl, rfl, Lib.hid (fun i _ h => absurd h (Nat.not_lt_zero _))⟩
  case round =>
    obtain ⟨k, rfl, rfl, rfl, rfl, rfl, rfl, rfl, hgk, rfl, hOk⟩ := hrel
    by_cases hk : k < L.length
    · have e1 : decide ((k : Int) < (L.length : Int)) = true := bd (by omega)
      have e2 : decide (k < L.length) = true := bd hk
      obtain ⟨g, j, rfl, _, c0⟩ := HX2.out k hk
      have ht20 := HL20'.out L[k] (List.getElem_mem _)
      obtain ⟨t, ht⟩ : ∃ t, L[k] = t := ⟨_, rfl⟩
      rw [ht] at c0 ht20
      have HTT := Lib.hid ht
      clear ht
      have c0' : w2.cell? ((⟨g, j, none⟩ : Addr).add k) = some (.string t) := by
        unfold Addr.add
        split
        · rename_i h0; rw [h0, Nat.add_zero] at c0; exact c0
        · exact c0
      have HWD := Lib.hid (fun W => word_any t (by omega) W)
      go_wp2_with fail
      refine (HWD.out _).mono ?_
      rintro e w3 ⟨⟨b, rfl, hb⟩, rfl⟩
      have HBB := Lib.hid hb
      clear hb
      cases b with
      | false =>
        go_wp2_with fail
        refine bodyPost_ret (results_tmp6 rfl _ _ _) rfl ?_
        exact ⟨⟨_, _, _, _, false, rfl, fun h => by cases h⟩, HB2.out⟩

      | true =>
        have H4 : Hid (∀ i (h : i < L.length), i < k + 1 → WordOk L[i]) := Lib.hid (fun i h hi => if e : i = k then by subst e; rw [HTT.out]; exact HBB.out rfl else hOk.out i h (by omega))
        go_wp2_with fail
        go_roundg (gk - 1)
        case measure => omega
        case rel => exact ⟨k + 1, rfl, rfl, rfl, rfl, rfl, rfl, by simp, by omega, rfl, H4⟩
    have e1 : decide ((k : Int) < (L.length : Int)) = false := nd (by omega)
    have e2 : decide (k < L.length) = false := nd (by omega)
    obtain rfl : k = L.length := by omega
    have HWS : Hid (∀ t ∈ ss ++ ts, WordOk t) := Lib.hid (fun t ht => by
      rw [HLL.out] at ht
      obtain ⟨i, hi, rfl⟩ := List.getElem_of_mem ht
      exact hOk.out i hi hi)
    clear hOk hk hgk e1 e2 HX2 HLL HL20' hLl
    go_wp2_with fail
    go_loopg [14, 16, 21, 84] l.length (fun gk v14 v16 v21 v84 w' => ∃ (k at_ : Nat) (X : ByteArray) (dn : List ByteArray), v14 = .string X ∧ v16 = .int .i64 0 ∧ v21 = .int .i64 (at_ : Nat) ∧ v84 = .int .i64 (k : Nat) ∧ gk + k = l.length ∧ w2 = w' ∧ Hid (SubI l ss k at_ X dn) ∧ X.size ≤ 176)
    case atStart => exact ⟨0, 0, _, [], rfl, rfl, rfl, rfl, rfl, rfl, Lib.hid ⟨rfl, rfl, by simp, by rw [HCC.out]; simp, fun t h => by simp at h⟩, by show 0 ≤ 176; omega⟩
    case round =>
      obtain ⟨k, at_, X, dn, rfl, rfl, rfl, rfl, hgk, rfl, hI, hX176⟩ := hrel
      by_cases hk : k < l.length
      · have e1 : decide ((k : Int) < (l.length : Int)) = true := bd (by omega)
        have e2 : decide (k < l.length) = true := bd hk
        obtain ⟨bA, rfl, c0⟩ := HL2.out.2 k hk
        have ht20 := HL20.out l[k] (List.getElem_mem _)
        have htw := HWL.out l[k] (List.getElem_mem _)
        have hdr : l.drop k = l[k] :: l.drop (k + 1) := List.drop_eq_getElem_cons hk
        have heq := hI.out.eq
        have hcn := hI.out.c
        rw [hdr] at heq hcn
        rw [List.map_cons] at heq
        rw [cnt_cons] at hcn
        obtain ⟨t, ht⟩ : ∃ t, l[k] = t := ⟨_, rfl⟩
        rw [ht] at c0 ht20 htw heq hcn
        clear ht hdr
        have hm1 : ((k : Int) == -1) = false := bn _ _ (by omega)
        obtain ⟨Y, hYs, hYt, hcase⟩ := sep_str X dn k hI.out.x hI.out.ln
        have HYT := Lib.hid hYt
        have hlenk := hI.out.ln
        have hcase2 : (Y = X ∧ decide ((0 : Int) < (k : Int)) = false ∧ decide (0 < k) = false) ∨ (Y = X ++ ⟨#[46]⟩ ∧ decide ((0 : Int) < (k : Int)) = true ∧ decide (0 < k) = true) := by
          rcases hcase with ⟨h1, h2⟩ | ⟨h1, h2⟩
          · exact Or.inl ⟨h1, nd (by omega), nd (by omega)⟩
          · exact Or.inr ⟨h1, bd (by omega), bd h2⟩
        clear hYt hcase
        by_cases h0 : 0 < t.size
        · have q := empty_beq t h0
          have hne : sf t ≠ starS := fun e => by have := (sf_star t htw).1 e; omega
          rw [subs_word hne] at heq
          have hsft : sf t = t := by unfold sf; rw [if_neg (by omega)]
          rw [hsft] at heq
          rw [if_neg (by omega)] at hcn
          have H4 : Hid (SubI l ss (k + 1) at_ (Y ++ t) (dn ++ [t])) := Lib.hid ⟨HYT.out t, by rw [List.length_append, hlenk]; rfl, by rw [List.append_assoc]; exact heq, by simpa using hcn, fun x hx => by
            rcases List.mem_append.1 hx with h | h
            · exact hI.out.sz x h
            · have e : x = t := by simpa using h
              rw [e]; exact ⟨h0, ht20⟩⟩
          have hYs2 : (Y ++ t).size ≤ 176 := by
            have h5 := joinB_size (dn ++ [t]) 20 (fun x hx => (H4.out.sz x hx).2)
            rw [← H4.out.x, List.length_append, hlenk] at h5
            have h6 : k + ([t] : List ByteArray).length ≤ 8 := by show k + 1 ≤ 8; omega
            exact Nat.le_trans h5 (Nat.mul_le_mul_right 22 h6)
          clear heq hcn hne hsft htw
          have z12 : X.size + 1 ≤ 9223372036854775807 := by omega
          have z12a := eq_true z12
          have z12b : decide (X.size + 1 ≤ 9223372036854775807) = true := decide_eq_true z12
          have z12c : (9223372036854775807 < X.size + 1) = False := eq_false (Nat.not_lt.2 z12)
          have z13 : Y.size + t.size ≤ 9223372036854775807 := by omega
          have z13a := eq_true z13
          have z13b : decide (Y.size + t.size ≤ 9223372036854775807) = true := decide_eq_true z13
          have z13c : (9223372036854775807 < Y.size + t.size) = False := eq_false (Nat.not_lt.2 z13)
          rcases hcase2 with ⟨hY, g1, g2⟩ | ⟨hY, g1, g2⟩
          all_goals
            subst hY
            go_wp2_with fail
            go_roundg (gk - 1)
            case measure => omega
            case rel => exact ⟨k + 1, at_, _, _, rfl, rfl, rfl, by simp, by omega, rfl, H4, hYs2⟩
        · have q := empty_beq' t h0
          have hst : sf t = starS := (sf_star t htw).2 (by omega)
          rw [if_pos (by omega)] at hcn
          have hat : at_ < ss.length := by omega
          obtain ⟨bC, rfl, c1⟩ := HS2.out.2 at_ hat
          have hs20 := HS20.out ss[at_] (List.getElem_mem _)
          have hsw := HWS.out ss[at_] (List.mem_append_left _ (List.getElem_mem _))
          have hsd : ss.drop at_ = ss[at_] :: ss.drop (at_ + 1) := List.drop_eq_getElem_cons hat
          rw [hsd, subs_star hst] at heq
          obtain ⟨s, hs⟩ : ∃ s, ss[at_] = s := ⟨_, rfl⟩
          rw [hs] at c1 hs20 hsw heq
          clear hs hsd hst
          have e3 : decide ((at_ : Int) < (ss.length : Int)) = true := bd (by omega)
          have e4 : decide (at_ < ss.length) = true := bd hat
          have H4 : Hid (SubI l ss (k + 1) (at_ + 1) (Y ++ s) (dn ++ [s])) := Lib.hid ⟨HYT.out s, by rw [List.length_append, hlenk]; rfl, by rw [List.append_assoc]; exact heq, by omega, fun x hx => by
            rcases List.mem_append.1 hx with h | h
            · exact hI.out.sz x h
            · have e : x = s := by simpa using h
              rw [e]; exact ⟨hsw.1, hs20⟩⟩
          have hYs2 : (Y ++ s).size ≤ 176 := by
            have h5 := joinB_size (dn ++ [s]) 20 (fun x hx => (H4.out.sz x hx).2)
            rw [← H4.out.x, List.length_append, hlenk] at h5
            have h6 : k + ([s] : List ByteArray).length ≤ 8 := by show k + 1 ≤ 8; omega
            exact Nat.le_trans h5 (Nat.mul_le_mul_right 22 h6)
          clear heq hcn hsw
          have z14 : X.size + 1 ≤ 9223372036854775807 := by omega
          have z14a := eq_true z14
          have z14b : decide (X.size + 1 ≤ 9223372036854775807) = true := decide_eq_true z14
          have z14c : (9223372036854775807 < X.size + 1) = False := eq_false (Nat.not_lt.2 z14)
          have z15 : Y.size + s.size ≤ 9223372036854775807 := by omega
          have z15a := eq_true z15
          have z15b : decide (Y.size + s.size ≤ 9223372036854775807) = true := decide_eq_true z15
          have z15c : (9223372036854775807 < Y.size + s.size) = False := eq_false (Nat.not_lt.2 z15)
          rcases hcase2 with ⟨hY, g1, g2⟩ | ⟨hY, g1, g2⟩
          all_goals
            subst hY
            go_wp2_with fail
            go_roundg (gk - 1)
            case measure => omega
            case rel => exact ⟨k + 1, at_ + 1, _, _, rfl, rfl, by simp, by simp, by omega, rfl, H4, hYs2⟩
      have e1 : decide ((k : Int) < (l.length : Int)) = false := nd (by omega)
      have e2 : decide (k < l.length) = false := nd (by omega)
      obtain rfl : k = l.length := by omega
      have heq := hI.out.eq
      rw [List.drop_length] at heq
      simp only [List.map_nil, subs, List.append_nil] at heq
      have HSZ := Lib.hid hI.out.sz
      have HXE : Hid (X = joinB (subs (l.map sf) ss)) := Lib.hid (by rw [hI.out.x, heq])
      rw [heq] at HSZ
      have hsl : (subs (l.map sf) ss).length = l.length := by rw [← heq]; exact hI.out.ln
      clear hI heq hk hgk e1 e2
      have HP0 : Hid ((∀ t ∈ ts, WordOk t) ∧ ∀ t ∈ ss, WordOk t) := Lib.hid ⟨fun t ht => HWS.out t (List.mem_append_right _ ht), fun t ht => HWS.out t (List.mem_append_left _ ht)⟩
      go_wp2_with fail
      go_loopg [14, 112] ts.length (fun gk v14 v112 w' => ∃ (j : Nat) (X : ByteArray) (dn : List ByteArray), v14 = .string X ∧ v112 = .int .i64 (j : Nat) ∧ gk + j = ts.length ∧ w2 = w' ∧ Hid (X = joinB dn ∧ dn = subs (l.map sf) ss ++ ts.take j ∧ ∀ t ∈ dn, 0 < t.size ∧ t.size ≤ 20) ∧ X.size ≤ 264)
      case atStart => exact ⟨0, _, _, rfl, rfl, rfl, rfl, Lib.hid ⟨HXE.out, by simp, HSZ.out⟩, by omega⟩
      case round =>
        obtain ⟨j, X, dn, rfl, rfl, hgj, rfl, hI, hXs⟩ := hrel
        by_cases hj : j < ts.length
        · have e1 : decide ((j : Int) < (ts.length : Int)) = true := bd (by omega)
          have e2 : decide (j < ts.length) = true := bd hj
          obtain ⟨bD, rfl, c0⟩ := HT2.out.2 j hj
          have ht20 := HT20.out ts[j] (List.getElem_mem _)
          have htw := HP0.out.1 ts[j] (List.getElem_mem _)
          have htk : ts.take (j + 1) = ts.take j ++ [ts[j]] := by rw [List.take_add_one]; simp [hj]
          obtain ⟨t, ht⟩ : ∃ t, ts[j] = t := ⟨_, rfl⟩
          rw [ht] at c0 ht20 htw htk
          clear ht
          obtain ⟨Y, hYs, hYt, hcase⟩ := sep_str X dn dn.length hI.out.1 rfl
          have hdl : dn.length = l.length + j := by rw [hI.out.2.1, List.length_append, hsl, List.length_take]; omega
          have hcase2 : (Y = X ∧ (X.toList == []) = true) ∨ (Y = X ++ ⟨#[46]⟩ ∧ (X.toList == []) = false) := by
            rcases hcase with ⟨h1, h2⟩ | ⟨h1, h2⟩
            · refine Or.inl ⟨h1, empty_beq' X ?_⟩
              rw [hI.out.1, List.eq_nil_of_length_eq_zero h2]
              decide
            · refine Or.inr ⟨h1, empty_beq X ?_⟩
              rw [hI.out.1]
              exact joinB_pos dn (List.length_pos_iff.1 h2) (fun t ht => (hI.out.2.2 t ht).1)
          have H4 : Hid ((Y ++ t) = joinB (dn ++ [t]) ∧ dn ++ [t] = subs (l.map sf) ss ++ ts.take (j + 1) ∧ ∀ x ∈ dn ++ [t], 0 < x.size ∧ x.size ≤ 20) := Lib.hid ⟨hYt t, by rw [htk, ← List.append_assoc, ← hI.out.2.1], fun x hx => by
            rcases List.mem_append.1 hx with h | h
            · exact hI.out.2.2 x h
            · have e : x = t := by simpa using h
              rw [e]; exact ⟨htw.1, ht20⟩⟩
          have hYs2 : (Y ++ t).size ≤ 264 := by
            have h5 := joinB_size (dn ++ [t]) 20 (fun x hx => (H4.out.2.2 x hx).2)
            rw [← H4.out.1, List.length_append, hdl] at h5
            have h6 : l.length + j + ([t] : List ByteArray).length ≤ 12 := by show l.length + j + 1 ≤ 12; omega
            exact Nat.le_trans h5 (Nat.mul_le_mul_right 22 h6)
          clear hYt hcase htk htw
          have z10 : X.size + 1 ≤ 9223372036854775807 := by omega
          have z10a := eq_true z10
          have z10b : decide (X.size + 1 ≤ 9223372036854775807) = true := decide_eq_true z10
          have z10c : (9223372036854775807 < X.size + 1) = False := eq_false (Nat.not_lt.2 z10)
          have z11 : Y.size + t.size ≤ 9223372036854775807 := by omega
          have z11a := eq_true z11
          have z11b : decide (Y.size + t.size ≤ 9223372036854775807) = true := decide_eq_true z11
          have z11c : (9223372036854775807 < Y.size + t.size) = False := eq_false (Nat.not_lt.2 z11)
          rcases hcase2 with ⟨hY, g1⟩ | ⟨hY, g1⟩
          all_goals
            subst hY
            go_wp2_with fail
            go_roundg (gk - 1)
            case measure => omega
            case rel => exact ⟨j + 1, _, _, rfl, by simp, by omega, rfl, H4, hYs2⟩
        have e1 : decide ((j : Int) < (ts.length : Int)) = false := nd (by omega)
        have e2 : decide (j < ts.length) = false := nd (by omega)
        obtain rfl : j = ts.length := by omega
        have HSUB : Hid (X = joinB (subs (l.map sf) ss ++ ts)) := Lib.hid (by rw [hI.out.1, hI.out.2.1, List.take_length])
        clear hI hj hgj e1 e2 HXE
        obtain ⟨sub, hsub⟩ : ∃ sub, X = sub := ⟨_, rfl⟩
        rw [hsub] at HSUB ⊢
        clear hsub
        go_wp2_with fail
        go_loopg [12, 13, 14, 15, 16, 17, 126] ds.length (fun gk v12 v13 v14 v15 v16 v17 v126 w' => ∃ (k : Nat) (TX OX : ByteArray) (T O : List ByteArray), v12 = .string src ∧ v13 = .string TX ∧ v14 = .string sub ∧ v15 = .string OX ∧ v16 = .int .i64 0 ∧ v17 = .bool true ∧ v126 = .int .i64 (k : Nat) ∧ gk + k = ds.length ∧ Hid (DstI ds ss k TX OX T O) ∧ TX.size ≤ 2416 ∧ OX.size ≤ 816 ∧ Hid (Below w2.heap.size w2 w'))
        case atStart => exact ⟨0, _, _, [], [], rfl, rfl, rfl, rfl, rfl, rfl, rfl, rfl, Lib.hid ⟨rfl, rfl, rfl, rfl, fun i _ h => absurd h (Nat.not_lt_zero _), fun i _ h => absurd h (Nat.not_lt_zero _), fun i _ h => absurd h (Nat.not_lt_zero _), fun t h => by simp at h, fun t h => by simp at h⟩, by show 0 ≤ 2416; omega, by show 0 ≤ 816; omega, Lib.hid (Below.refl _ _)⟩
        case round =>
          obtain ⟨k, TX, OX, T, O, rfl, rfl, rfl, rfl, rfl, rfl, rfl, hgk, hI, hTs, hOs, hB4⟩ := hrel
          have hbw4 : w2.heap.size ≤ wr.heap.size := hB4.out.size
          have HBB : Hid (Below w.heap.size w wr) := Lib.hid (HB2.out.trans (hB4.out.mono HB2.out.size))
          by_cases hk : k < ds.length
          · have e1 : decide ((k : Int) < (ds.length : Int)) = true := bd (by omega)
            have e2 : decide (k < ds.length) = true := bd hk
            obtain ⟨ad, A4, c4, rfl, hI4, x0, x1, x2, x3, x4⟩ := (HD2.out.later hB4.out).at_ k hk
            have hal := HD2.out.all ds[k] (List.getElem_mem _)
            have hds := HDS.out ds[k] (List.getElem_mem _)
            obtain ⟨p, hp⟩ : ∃ p, ds[k] = p := ⟨_, rfl⟩
            rw [hp] at x0 x1 x2 x3 x4 hal hds hI4
            have HPP := Lib.hid hp
            clear hp
            have hb5 : Below wr.heap.size wr (wr.alloc (.cells #[.int .i64 p.fn, .int .i64 p.at_, .int .i64 p.n, .string p.word, .slice A4 p.all.length c4] 55)) := (Below.refl _ _).alloc (Nat.le_refl _) _
            have HBX : Hid (BoxAt wr.heap.size (.cells #[.int .i64 p.fn, .int .i64 p.at_, .int .i64 p.n, .string p.word, .slice A4 p.all.length c4] 55) (wr.alloc (.cells #[.int .i64 p.fn, .int .i64 p.at_, .int .i64 p.n, .string p.word, .slice A4 p.all.length c4] 55))) := Lib.hid (heap_alloc_last wr _)
            have HB5 : Hid (Below wr.heap.size wr (wr.alloc (.cells #[.int .i64 p.fn, .int .i64 p.at_, .int .i64 p.n, .string p.word, .slice A4 p.all.length c4] 55))) := Lib.hid hb5
            have HI4 := Lib.hid hI4
            have HR := Lib.hid (fun W (hI : IsA W A4 p.all) => right_any (cnt l) p A4 c4 W hI hds (by have := HCC.out; omega))
            have HPU := Lib.hid (fun W (hI : IsA W A4 p.all) (hC : WsA W C ss) (hR : RightP ss.length p) => put_any p A4 C c4 c2 ss W hI hC hds hR HS20.out ms)
            have HWR := Lib.hid (fun W (hI : IsA W A4 p.all) (hR : RightP ss.length p) => wr_any p A4 c4 W hI hds ⟨hal.1, hal.2.1⟩ (fun h3 k hk => by
              rcases hR with h | h | h
              · exact absurd (h.1.symm.trans h3) (by decide)
              · have := h.2.1 k hk; omega
              · exact absurd h3 h.2.1))
            unfold pcV at HR HPU HWR
            clear hI4 hb5 hds hal
            go_wp2_with fail
            refine (HR.out _ (HI4.out.later HB5.out)).mono ?_
            rintro e W3 ⟨⟨b, rfl, hb⟩, hb3⟩
            have HBR3 := Lib.hid hb
            have HW3 : Hid (Below wr.heap.size wr W3) := Lib.hid (HB5.out.trans (hb3.mono (by simp)))
            have HBXW3 : Hid (BoxAt wr.heap.size (.cells #[.int .i64 p.fn, .int .i64 p.at_, .int .i64 p.n, .string p.word, .slice A4 p.all.length c4] 55) W3) := Lib.hid (HBX.out.later hb3)
            have HBN3 : Hid (Below w.heap.size w W3) := Lib.hid (HBB.out.trans (HW3.out.mono HBB.out.size))
            clear hb hb3
            have kk0W3 : W3.cell? ⟨wr.heap.size, 0, none⟩ = some (.int .i64 p.fn) := by rw [Lib.cell_of_heap HBXW3.out]; rfl
            have kk1W3 : W3.cell? ⟨wr.heap.size, 1, none⟩ = some (.int .i64 p.at_) := by rw [Lib.cell_of_heap HBXW3.out]; rfl
            have kk2W3 : W3.cell? ⟨wr.heap.size, 2, none⟩ = some (.int .i64 p.n) := by rw [Lib.cell_of_heap HBXW3.out]; rfl
            have kk3W3 : W3.cell? ⟨wr.heap.size, 3, none⟩ = some (.string p.word) := by rw [Lib.cell_of_heap HBXW3.out]; rfl
            have kk4W3 : W3.cell? ⟨wr.heap.size, 4, none⟩ = some (.slice A4 p.all.length c4) := by rw [Lib.cell_of_heap HBXW3.out]; rfl
            cases b with
            | false =>
              go_wp2_with fail
              refine bodyPost_ret (results_tmp6 rfl _ _ _) rfl ?_
              exact ⟨⟨_, _, _, _, false, rfl, fun h => by cases h⟩, HBN3.out⟩

            | true =>
            have HRP : Hid (RightP ss.length p) := Lib.hid (by rw [HCC.out]; exact HBR3.out rfl)
            clear HBR3 HR
            go_wp2_with fail
            refine (HPU.out W3 (HI4.out.later HW3.out) ((HS2.out.later hB4.out).later HW3.out) HRP.out).mono ?_
            rintro e W4 ⟨⟨s, kn, rfl, hs⟩, hb4⟩
            have HSP := Lib.hid hs
            have HW4 : Hid (Below wr.heap.size wr W4) := Lib.hid (HW3.out.trans (hb4.mono HW3.out.size))
            have HBXW4 : Hid (BoxAt wr.heap.size (.cells #[.int .i64 p.fn, .int .i64 p.at_, .int .i64 p.n, .string p.word, .slice A4 p.all.length c4] 55) W4) := Lib.hid (HBXW3.out.later hb4)
            have HBN4 : Hid (Below w.heap.size w W4) := Lib.hid (HBB.out.trans (HW4.out.mono HBB.out.size))
            have hs100 : s.size ≤ 100 := hs.1
            clear hs hb4 HPU
            have kk0W4 : W4.cell? ⟨wr.heap.size, 0, none⟩ = some (.int .i64 p.fn) := by rw [Lib.cell_of_heap HBXW4.out]; rfl
            have kk1W4 : W4.cell? ⟨wr.heap.size, 1, none⟩ = some (.int .i64 p.at_) := by rw [Lib.cell_of_heap HBXW4.out]; rfl
            have kk2W4 : W4.cell? ⟨wr.heap.size, 2, none⟩ = some (.int .i64 p.n) := by rw [Lib.cell_of_heap HBXW4.out]; rfl
            have kk3W4 : W4.cell? ⟨wr.heap.size, 3, none⟩ = some (.string p.word) := by rw [Lib.cell_of_heap HBXW4.out]; rfl
            have kk4W4 : W4.cell? ⟨wr.heap.size, 4, none⟩ = some (.slice A4 p.all.length c4) := by rw [Lib.cell_of_heap HBXW4.out]; rfl
            cases kn with
            | false =>
              go_wp2_with fail
              refine bodyPost_ret (results_tmp6 rfl _ _ _) rfl ?_
              exact ⟨⟨_, _, _, _, false, rfl, fun h => by cases h⟩, HBN4.out⟩

            | true =>
            have hwr := (HWR.out W4 (HI4.out.later HW4.out) HRP.out)
            have HWC := Lib.hid hwr
            clear hwr HWR
            have hlt := hI.out.tl
            have hlo := hI.out.ol
            have hcase2 : ((∃ YT YO : ByteArray, YT.size ≤ TX.size + 1 ∧ YO.size ≤ OX.size + 1 ∧ (∀ t, YT ++ t = joinB (T ++ [t])) ∧ (∀ t, YO ++ t = joinB (O ++ [t])) ∧ YT = TX ∧ YO = OX) ∧ decide ((0 : Int) < (k : Int)) = false ∧ decide (0 < k) = false) ∨ ((∃ YT YO : ByteArray, YT.size ≤ TX.size + 1 ∧ YO.size ≤ OX.size + 1 ∧ (∀ t, YT ++ t = joinB (T ++ [t])) ∧ (∀ t, YO ++ t = joinB (O ++ [t])) ∧ YT = TX ++ ⟨#[46]⟩ ∧ YO = OX ++ ⟨#[46]⟩) ∧ decide ((0 : Int) < (k : Int)) = true ∧ decide (0 < k) = true) := by
              obtain ⟨YT, t1, t2, t3⟩ := sep_str TX T k hI.out.x hlt
              obtain ⟨YO, o1, o2, o3⟩ := sep_str OX O k hI.out.y hlo
              rcases t3 with ⟨h1, h2⟩ | ⟨h1, h2⟩
              · rcases o3 with ⟨h3, h4⟩ | ⟨h3, h4⟩
                · exact Or.inl ⟨⟨YT, YO, t1, o1, t2, o2, h1, h3⟩, nd (by omega), nd (by omega)⟩
                · omega
              · rcases o3 with ⟨h3, h4⟩ | ⟨h3, h4⟩
                · omega
                · exact Or.inr ⟨⟨YT, YO, t1, o1, t2, o2, h1, h3⟩, bd (by omega), bd h2⟩
            rcases hcase2 with ⟨⟨YT, YO, yt1, yo1, yt2, yo2, hYT, hYO⟩, g1, g2⟩ | ⟨⟨YT, YO, yt1, yo1, yt2, yo2, hYT, hYO⟩, g1, g2⟩
            · have HYT := Lib.hid yt2
              have HYO := Lib.hid yo2
              clear yt2 yo2
              rw [hYT] at HYT
              rw [hYO] at HYO
              clear hYT hYO yt1 yo1
              go_wp2_with fail
              refine HWC.out.mono ?_
              rintro e W5 ⟨⟨x, rfl, hx⟩, hb5⟩
              have HXW := Lib.hid hx
              have hx300 : x.size ≤ 300 := hx.1
              have HB6 : Hid (Below w2.heap.size w2 W5) := Lib.hid (hB4.out.trans ((HW4.out.mono hB4.out.size).trans (hb5.mono (by have := HW4.out.size; omega))))
              clear hx hb5
              have z6 : TX.size + x.size ≤ 9223372036854775807 := by omega
              have z6a := eq_true z6
              have z6b : decide (TX.size + x.size ≤ 9223372036854775807) = true := decide_eq_true z6
              have z6c : (9223372036854775807 < TX.size + x.size) = False := eq_false (Nat.not_lt.2 z6)
              have z7 : OX.size + s.size ≤ 9223372036854775807 := by omega
              have z7a := eq_true z7
              have z7b : decide (OX.size + s.size ≤ 9223372036854775807) = true := decide_eq_true z7
              have z7c : (9223372036854775807 < OX.size + s.size) = False := eq_false (Nat.not_lt.2 z7)
              have H4 : Hid (DstI ds ss (k + 1) (TX ++ x) (OX ++ s) (T ++ [x]) (O ++ [s])) := Lib.hid ⟨HYT.out x, HYO.out s, by rw [List.length_append, hlt]; rfl, by rw [List.length_append, hlo]; rfl, fun i h h1 => by
                by_cases e : i < T.length
                · rw [List.getElem_append_left e]; exact hI.out.t i h e
                · have e2 : i = k := by rw [List.length_append, hlt] at h1; simp at h1; omega
                  subst e2
                  rw [List.getElem_append_right (by omega), HPP.out]
                  simpa using HXW.out, fun i h h1 => by
                by_cases e : i < O.length
                · rw [List.getElem_append_left e]; exact hI.out.o i h e
                · have e2 : i = k := by rw [List.length_append, hlo] at h1; simp at h1; omega
                  subst e2
                  rw [List.getElem_append_right (by omega), HPP.out]
                  simpa using HSP.out, fun i h hi => by
                by_cases e : i = k
                · subst e; rw [HPP.out]; exact HRP.out
                · exact hI.out.r i h (by omega), fun y hy => by
                rcases List.mem_append.1 hy with h | h
                · exact hI.out.ts y h
                · have e : y = x := by simpa using h
                  rw [e]; exact hx300, fun y hy => by
                rcases List.mem_append.1 hy with h | h
                · exact hI.out.os y h
                · have e : y = s := by simpa using h
                  rw [e]; exact hs100⟩
              have hq1 : (TX ++ x).size ≤ 2416 := by
                have h5 := joinB_size (T ++ [x]) 300 H4.out.ts
                rw [← H4.out.x, List.length_append, hlt] at h5
                have h6 : k + ([x] : List ByteArray).length ≤ 8 := by show k + 1 ≤ 8; omega
                exact Nat.le_trans h5 (Nat.mul_le_mul_right 302 h6)
              have hq2 : (OX ++ s).size ≤ 816 := by
                have h5 := joinB_size (O ++ [s]) 100 H4.out.os
                rw [← H4.out.y, List.length_append, hlo] at h5
                have h6 : k + ([s] : List ByteArray).length ≤ 8 := by show k + 1 ≤ 8; omega
                exact Nat.le_trans h5 (Nat.mul_le_mul_right 102 h6)
              go_wp2_with fail
              go_roundg (ds.length - (k + 1))
              case measure => omega
              case rel => exact ⟨k + 1, _, _, _, _, rfl, rfl, rfl, rfl, rfl, rfl, by simp, by omega, H4, hq1, hq2, HB6⟩
            · have HYT := Lib.hid yt2
              have HYO := Lib.hid yo2
              clear yt2 yo2
              have z4 : TX.size + 1 ≤ 9223372036854775807 := by omega
              have z4a := eq_true z4
              have z4b : decide (TX.size + 1 ≤ 9223372036854775807) = true := decide_eq_true z4
              have z4c : (9223372036854775807 < TX.size + 1) = False := eq_false (Nat.not_lt.2 z4)
              have z5 : OX.size + 1 ≤ 9223372036854775807 := by omega
              have z5a := eq_true z5
              have z5b : decide (OX.size + 1 ≤ 9223372036854775807) = true := decide_eq_true z5
              have z5c : (9223372036854775807 < OX.size + 1) = False := eq_false (Nat.not_lt.2 z5)
              subst hYT
              subst hYO
              go_wp2_with fail
              refine HWC.out.mono ?_
              rintro e W5 ⟨⟨x, rfl, hx⟩, hb5⟩
              have HXW := Lib.hid hx
              have hx300 : x.size ≤ 300 := hx.1
              have HB6 : Hid (Below w2.heap.size w2 W5) := Lib.hid (hB4.out.trans ((HW4.out.mono hB4.out.size).trans (hb5.mono (by have := HW4.out.size; omega))))
              clear hx hb5
              have z8 : (TX ++ (⟨#[46]⟩ : ByteArray)).size + x.size ≤ 9223372036854775807 := by rw [ByteArray.size_append]; show _ + 1 + _ ≤ _; omega
              have z8a := eq_true z8
              have z8b : decide ((TX ++ (⟨#[46]⟩ : ByteArray)).size + x.size ≤ 9223372036854775807) = true := decide_eq_true z8
              have z8c : (9223372036854775807 < (TX ++ (⟨#[46]⟩ : ByteArray)).size + x.size) = False := eq_false (Nat.not_lt.2 z8)
              have z9 : (OX ++ (⟨#[46]⟩ : ByteArray)).size + s.size ≤ 9223372036854775807 := by rw [ByteArray.size_append]; show _ + 1 + _ ≤ _; omega
              have z9a := eq_true z9
              have z9b : decide ((OX ++ (⟨#[46]⟩ : ByteArray)).size + s.size ≤ 9223372036854775807) = true := decide_eq_true z9
              have z9c : (9223372036854775807 < (OX ++ (⟨#[46]⟩ : ByteArray)).size + s.size) = False := eq_false (Nat.not_lt.2 z9)
              have H4 : Hid (DstI ds ss (k + 1) ((TX ++ ⟨#[46]⟩) ++ x) ((OX ++ ⟨#[46]⟩) ++ s) (T ++ [x]) (O ++ [s])) := Lib.hid ⟨HYT.out x, HYO.out s, by rw [List.length_append, hlt]; rfl, by rw [List.length_append, hlo]; rfl, fun i h h1 => by
                by_cases e : i < T.length
                · rw [List.getElem_append_left e]; exact hI.out.t i h e
                · have e2 : i = k := by rw [List.length_append, hlt] at h1; simp at h1; omega
                  subst e2
                  rw [List.getElem_append_right (by omega), HPP.out]
                  simpa using HXW.out, fun i h h1 => by
                by_cases e : i < O.length
                · rw [List.getElem_append_left e]; exact hI.out.o i h e
                · have e2 : i = k := by rw [List.length_append, hlo] at h1; simp at h1; omega
                  subst e2
                  rw [List.getElem_append_right (by omega), HPP.out]
                  simpa using HSP.out, fun i h hi => by
                by_cases e : i = k
                · subst e; rw [HPP.out]; exact HRP.out
                · exact hI.out.r i h (by omega), fun y hy => by
                rcases List.mem_append.1 hy with h | h
                · exact hI.out.ts y h
                · have e : y = x := by simpa using h
                  rw [e]; exact hx300, fun y hy => by
                rcases List.mem_append.1 hy with h | h
                · exact hI.out.os y h
                · have e : y = s := by simpa using h
                  rw [e]; exact hs100⟩
              have hq1 : ((TX ++ ⟨#[46]⟩) ++ x).size ≤ 2416 := by
                have h5 := joinB_size (T ++ [x]) 300 H4.out.ts
                rw [← H4.out.x, List.length_append, hlt] at h5
                have h6 : k + ([x] : List ByteArray).length ≤ 8 := by show k + 1 ≤ 8; omega
                exact Nat.le_trans h5 (Nat.mul_le_mul_right 302 h6)
              have hq2 : ((OX ++ ⟨#[46]⟩) ++ s).size ≤ 816 := by
                have h5 := joinB_size (O ++ [s]) 100 H4.out.os
                rw [← H4.out.y, List.length_append, hlo] at h5
                have h6 : k + ([s] : List ByteArray).length ≤ 8 := by show k + 1 ≤ 8; omega
                exact Nat.le_trans h5 (Nat.mul_le_mul_right 102 h6)
              go_wp2_with fail
              go_roundg (ds.length - (k + 1))
              case measure => omega
              case rel => exact ⟨k + 1, _, _, _, _, rfl, rfl, rfl, rfl, rfl, rfl, by simp, by omega, H4, hq1, hq2, HB6⟩
          have e1 : decide ((k : Int) < (ds.length : Int)) = false := nd (by omega)
          have e2 : decide (k < ds.length) = false := nd (by omega)
          obtain rfl : k = ds.length := by omega
          have hOl := hI.out.ol
          have hTl := hI.out.tl
          have HQ : Hid (∀ dst out, dst = joinB (T ++ gtL rest) → out = joinB (O ++ ts) → MappedQ l rest ds ss ts src dst sub out) := Lib.hid (fun dst out h1 h2 => ⟨HSR.out, HCC.out, HRR.out, by intro e; rw [e] at hd1; exact absurd hd1 (by decide), HP0.out.2, HP0.out.1, HSUB.out, fun p hp => by
            obtain ⟨i, hi, rfl⟩ := List.getElem_of_mem hp
            exact hI.out.r i hi hi, T, O, hTl, hOl, hI.out.t, hI.out.o, h1, h2⟩)
          have hTne : T ≠ [] := by intro e; rw [e] at hTl; simp at hTl; omega
          have hOne : O ≠ [] := by intro e; rw [e] at hOl; simp at hOl; omega
          have HTX := Lib.hid hI.out.x
          have HOX := Lib.hid hI.out.y
          have HOS := Lib.hid hI.out.os
          have HTN := Lib.hid hTne
          have HON := Lib.hid hOne
          clear hI hk hgk e1 e2 hTne hOne
          have HBB2 := Lib.hid HBB.out
          clear b5 b6 b7 b8
          rcases HBR.out with ⟨hr1, _, _, htn⟩ | ⟨hr1, _, _, htn⟩
          · subst hr1
            have HTNE := Lib.hid htn
            clear htn
            have z1 : TX.size + 2 ≤ 9223372036854775807 := by omega
            have z1a := eq_true z1
            have z1b : decide (TX.size + 2 ≤ 9223372036854775807) = true := decide_eq_true z1
            have z1c : (9223372036854775807 < TX.size + 2) = False := eq_false (Nat.not_lt.2 z1)
            go_wp2_with fail
            go_loopg [15, 166] ts.length (fun gk v15 v166 w' => ∃ (j : Nat) (X : ByteArray), v15 = .string X ∧ v166 = .int .i64 (j : Nat) ∧ gk + j = ts.length ∧ wr = w' ∧ Hid (X = joinB (O ++ ts.take j)) ∧ X.size ≤ 1300)
            case atStart => exact ⟨0, _, rfl, rfl, rfl, rfl, Lib.hid (by rw [HOX.out]; simp), by omega⟩
            case round =>
              obtain ⟨j, X, rfl, rfl, hgj, rfl, hX, hXs⟩ := hrel
              by_cases hj : j < ts.length
              · have e1 : decide ((j : Int) < (ts.length : Int)) = true := bd (by omega)
                have e2 : decide (j < ts.length) = true := bd hj
                obtain ⟨bD, rfl, c0⟩ := (HT2.out.later hB4.out).2 j hj
                have ht20 := HT20.out ts[j] (List.getElem_mem _)
                have htk : ts.take (j + 1) = ts.take j ++ [ts[j]] := by rw [List.take_add_one]; simp [hj]
                obtain ⟨t, ht⟩ : ∃ t, ts[j] = t := ⟨_, rfl⟩
                rw [ht] at c0 ht20 htk
                clear ht
                have H4 : Hid (X ++ ((⟨#[46]⟩ : ByteArray) ++ t) = joinB (O ++ ts.take (j + 1))) := Lib.hid (by
                  rw [htk, ← List.append_assoc, joinB_snoc _ _ (by intro e; exact HON.out (List.append_eq_nil_iff.1 e).1), hX.out]
                  apply ByteArray.ext
                  simp [ByteArray.data_append])
                have hYs2 : (X ++ ((⟨#[46]⟩ : ByteArray) ++ t)).size ≤ 1300 := by
                  rw [H4.out]
                  have h5 := joinB_size (O ++ ts.take (j + 1)) 100 (fun x hx => by
                    rcases List.mem_append.1 hx with h | h
                    · exact HOS.out x h
                    · have := HT20.out x (List.mem_of_mem_take h); omega)
                  rw [List.length_append, hOl, List.length_take] at h5
                  have h6 : ds.length + min (j + 1) ts.length ≤ 12 := by omega
                  have h7 := Nat.mul_le_mul_right 102 h6
                  omega
                clear htk
                have z2 : 1 + t.size ≤ 9223372036854775807 := by omega
                have z2a := eq_true z2
                have z2b : decide (1 + t.size ≤ 9223372036854775807) = true := decide_eq_true z2
                have z2c : (9223372036854775807 < 1 + t.size) = False := eq_false (Nat.not_lt.2 z2)
                have z3 : X.size + ((⟨#[46]⟩ : ByteArray) ++ t).size ≤ 9223372036854775807 := by rw [ByteArray.size_append]; show _ + (1 + _) ≤ _; omega
                have z3a := eq_true z3
                have z3b : decide (X.size + ((⟨#[46]⟩ : ByteArray) ++ t).size ≤ 9223372036854775807) = true := decide_eq_true z3
                have z3c : (9223372036854775807 < X.size + ((⟨#[46]⟩ : ByteArray) ++ t).size) = False := eq_false (Nat.not_lt.2 z3)
                go_wp2_with fail
                go_roundg (gk - 1)
                case measure => omega
                case rel => exact ⟨j + 1, _, rfl, by simp, by omega, rfl, H4, hYs2⟩
              have e1 : decide ((j : Int) < (ts.length : Int)) = false := nd (by omega)
              have e2 : decide (j < ts.length) = false := nd (by omega)
              obtain rfl : j = ts.length := by omega
              have H5 : Hid (X = joinB (O ++ ts)) := Lib.hid (by rw [hX.out, List.take_length])
              clear hX
              go_wp2_with fail
              refine bodyPost_ret (results_tmp6 rfl _ _ _) rfl ?_
              exact ⟨⟨_, _, _, _, true, rfl, fun _ => HQ.out _ _ (by
                rw [HTX.out, gtL, if_pos rfl, joinB_snoc _ _ HTN.out, ByteArray.append_assoc]
                rfl) H5.out⟩, HBB2.out⟩
          · subst hr1
            have HTNE := Lib.hid htn
            clear htn
            go_wp2_with fail
            refine bodyPost_ret (results_tmp6 rfl _ _ _) rfl ?_
            exact ⟨⟨_, _, _, _, true, rfl, fun _ => HQ.out _ _ (by rw [HTX.out]; simp [gtL]) (by rw [HOX.out, HTNE.out]; simp)⟩, HBB2.out⟩
end Go.Proofs.YtpiceaehfpljnaaDoor
