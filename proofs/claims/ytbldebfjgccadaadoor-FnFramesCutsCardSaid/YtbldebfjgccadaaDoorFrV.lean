/- The walk of impl.Frames. -/
import Derived.Test.YtbldebfjgccadaaDoorFrT
import Derived.Test.YtbldebfjgccadaaDoorFrU
namespace Go.Proofs.YtbldebfjgccadaaDoor
open Go.RowKit
attribute [local go_sem ↓] Go.wp_at_zero Go.wp_at_succ
set_option linter.unusedVariables false
set_option linter.unusedSimpArgs false
set_option maxHeartbeats 8000000
set_option maxRecDepth 100000

/-- Bytes as a text. -/
def textOf (xs : List Nat) : ByteArray := strOfNums (xs.map fun x : Nat => (x : Int))
theorem natsOf_text (xs : List Nat) (h : ∀ x ∈ xs, x < 256) : natsOf (textOf xs) = xs := by
  unfold natsOf textOf
  rw [strOfNums_data, List.map_map, List.map_map]
  refine (List.map_congr_left (fun x hx => ?_)).trans (List.map_id _)
  have := h x hx
  simp
  omega
theorem pc_text {w : World} {x : Pc} (h : Lie w x.g x.o x.xs) : (convert 52 9 x.val).run Tryd.prog w = .ok (.string (textOf x.xs)) w :=
  run_convert_bytes_arg w 52 5 under52 under5 x.g x.o x.xs.length x.c (x.xs.map fun x : Nat => (x : Int)) (by simp) (fun i hi => by
    rw [(h i hi).1]
    simp [List.getD, hi]) 9 under9
theorem own_weak {w : World} {B B' E size n : Nat} {v : Value} {xs : List Value} (h : w.ownsRow B E size v n xs) (hb : B' ≤ B) : w.ownsRow B' E size v n xs := by
  refine ⟨h.1, ?_⟩
  rcases h.2 with hn | ⟨g, cap, cur, rfl, hb2, rest⟩
  · exact .inl hn
  · exact .inr ⟨g, cap, cur, rfl, by omega, rest⟩
theorem info9 : (Tryd.prog.info? 9).map (fun i => (i.zero, i.size, i.bytes)) = some (some (.string ⟨#[]⟩), 1, 16) := by kernel_rfl

/-- There are not many pieces of data. -/
theorem run_count {v : List Nat → Bool} {m : Frm.Mode} {c : List Nat} {r : List (List Nat)} {res : Frm.Res} (h : Frm.Run v m c r res) : res.1.length ≤ 2 * (c ++ r.flatten).length + m.mass := by
  induction h with
  | done m => simp
  | next m p r res _ ih => simpa using ih
  | bad ff x c r e => simp
  | closed ff x c r n e => simp
  | ctrl ff x c r c' r' res e _ ih =>
    have hw := Frm.head1_within v ff x c r
    rw [e] at hw
    have := hw.1
    simp only [List.cons_append, List.length_cons, Frm.Mode.mass] at ih ⊢
    omega
  | data ff x c r ff' rem key c' r' res e _ ih =>
    have hw := Frm.head1_within v ff x c r
    rw [e] at hw
    have := hw.1
    simp only [List.cons_append, List.length_cons, Frm.Mode.mass] at ih ⊢
    omega
  | body ff rem key pos x c r out n ok _ ih =>
    simp only [List.cons_append, List.length_cons, List.length_append, Frm.Mode.mass] at ih ⊢
    by_cases hr : rem ≤ c.length + 1
    · rw [if_pos hr] at ih
      simp only [List.length_drop, List.length_cons] at ih
      omega
    · rw [if_neg hr] at ih
      simp only [List.length_drop, List.length_cons] at ih
      omega
theorem flat_le (ss : List ByteArray) (h : ∀ s ∈ ss, s.size ≤ 5000) : (ss.map natsOf).flatten.length ≤ ss.length * 5000 := by
  induction ss with
  | nil => simp
  | cons s l ih =>
    have h1 := h s (by simp)
    have h2 := ih (fun x hx => h x (by simp [hx]))
    simp only [List.map_cons, List.flatten_cons, List.length_append, natsOf_length, List.length_cons]
    omega

/-- What impl.Frames tells. -/
def ImplPost (ss : List ByteArray) (w : World) (e : Ending) (w' : World) : Prop :=
  ∃ (v : Value) (data : List ByteArray) (st : Nat) (ok : Bool), e = .returned (.tuple #[v, .int .i64 st, .bool ok]) ∧ w'.ownsRow w.heap.size 9 1 v data.length (data.map Value.string) ∧ Frm.Run vld (.head true) [] (ss.map natsOf) (data.map natsOf, st, ok) ∧ Below w.heap.size w w'
theorem implFrames_any (ad : Addr) (c : Nat) (ss : List ByteArray) (w : World) (qe : Addr) (hc : ∀ i (h : i < ss.length), w.cell? (ad.add i) = some (.string ss[i])) (h0 : 0 < ss.length) (hn : ss.length < 14) (hs : ∀ s ∈ ss, s.size ≤ 5000) (hE : w.cell? ⟨1, 0, none⟩ = some (errV qe)) (hT : Lib.Utf8Tabs 2 3 w) (h4 : 4 ≤ w.heap.size) :
    Calls Tryd.prog 11 #[.slice (some ad) ss.length c] w fun e w' => ImplPost ss w e w' := by
  obtain ⟨i0, hi0, hz0, hz1, hz2⟩ := info_parts info9
  have HC := Lib.hid hc
  have HS := Lib.hid hs
  have HE := Lib.hid hE
  have HT := Lib.hid hT
  clear hc hs hE hT
  go_enter Tryd.func11, Tryd.ntmps11
  go_wp2_with fail
  refine (bytesOf_any ad c ss w HC.out (by omega)).mono ?_
  rintro e w1 ⟨v, l, rfl, hB⟩
  obtain ⟨hb1, ho1, hl1, hlies, hnd, hread⟩ := hB
  obtain ⟨A, cap, hv, hAB, hrow⟩ : ∃ A cap, v = .slice (some ⟨A, 0, none⟩) ss.length cap ∧ w.heap.size ≤ A ∧ ∃ cs, w1.heap[A]? = some (.cells cs 52 (0, 0)) := by
    obtain ⟨_, h | ⟨g, cap, cur, rfl, h2, h3, _⟩⟩ := ho1
    · omega
    · exact ⟨g, cap, rfl, h2, cur, h3⟩
  subst hv
  have hframes := frames_any A ss.length cap l w1 qe w.heap.size h4 hAB (by rw [hb1.cell (p := ⟨1, 0, none⟩) (by show 1 < w.heap.size; omega)]; exact HE.out) (HT.out.later h4 hb1) (by obtain ⟨cs, h⟩ := hrow; exact ⟨cs, 52, h⟩) hl1 hn (fun i hi => by
      have hx := hlies l[i] (List.getElem_mem hi)
      refine ⟨?_, hx.1, hx.2.1⟩
      have := ho1.cellAt i (by omega)
      rw [this]
      simp [hi]) (fun q hq => by
      obtain ⟨h1, h2, h3, cs, fr, h5⟩ := hlies q hq
      refine ⟨h3, Lib.lt_of_heap h5, fun e => own_no5 ho1 h5 (by decide) (by rw [e]; rfl), ?_⟩
      have : q.xs ∈ l.map (·.xs) := List.mem_map_of_mem hq
      rw [hread, List.take_length] at this
      obtain ⟨s, hs, e⟩ := List.mem_map.1 this
      rw [← e, natsOf_length]; exact HS.out s hs) hnd
  have HF := Lib.hid hframes
  have HB1 := Lib.hid hb1
  have HRD : Hid (l.map (·.xs) = ss.map natsOf) := Lib.hid (by rw [hread, List.take_length])
  clear hframes hb1 ho1 hl1 hlies hnd hread hrow
  go_wp2_with fail
  refine HF.out.mono ?_
  rintro e w2 ⟨BO, v2, kv, ev, st, outs, ok, rfl, hb2, ho2, hl2, hrun, hev⟩
  rw [HRD.out] at hrun
  have hB2 : Below w.heap.size w w2 := HB1.out.trans hb2
  have hcnt : outs.length ≤ 200000 := by
    have h1 := run_count hrun
    have h2 := flat_le ss HS.out
    simp [Frm.Mode.mass] at h1 h2
    omega
  have HO2 := Lib.hid ho2
  have HL2 := Lib.hid hl2
  have HRUN := Lib.hid hrun
  have HB2 := Lib.hid hB2
  obtain ⟨A2, c2, hv2⟩ : ∃ A2 c2, v2 = .slice A2 outs.length c2 := by
    obtain ⟨_, h | ⟨g, cap, cur, rfl, _⟩⟩ := ho2
    · obtain ⟨rfl, h⟩ := h
      exact ⟨none, 0, by rw [h]⟩
    · exact ⟨_, _, rfl⟩
  subst hv2
  have HEV := Lib.hid hev
  clear hb2 ho2 hl2 hrun hB2 HF hev
  go_wp2_with fail
  go_loopg [2, 9] outs.length (fun gk v2' v9 w' => ∃ (dv : Value) (k : Nat), dv = v2' ∧ v9 = .int .i64 k ∧ gk + k = outs.length ∧ Hid (w'.ownsRow w2.heap.size 9 1 dv k ((outs.map fun x => Value.string (textOf x.xs)).take k)) ∧ Hid (Below w2.heap.size w2 w'))
  case atStart => exact ⟨_, 0, rfl, rfl, by omega, World.ownsRow_nil _ _ _ _, Below.refl _ _⟩
  case round =>
    obtain ⟨dv, k, rfl, rfl, hgk, hO, hW⟩ := hrel
    by_cases hlt : k < outs.length
    · have d1 : decide ((k : Int) < (outs.length : Int)) = true := decide_eq_true (by omega)
      have d2 : decide (k < outs.length) = true := decide_eq_true hlt
      have hA2 : ∃ G, A2 = some ⟨G, 0, none⟩ ∧ w2.cell? ⟨G, k, none⟩ = some (.slice (some ⟨outs[k].g, outs[k].o, none⟩) outs[k].xs.length outs[k].c) ∧ G < w2.heap.size := by
        have h1 := HO2.out
        obtain ⟨_, h | ⟨g, cap, cur, h, _⟩⟩ := h1
        · omega
        · have e : A2 = some ⟨g, 0, none⟩ := by injection h
          refine ⟨g, e, ?_, ?_⟩
          · subst e
            have := HO2.out.cellAt k (by simpa using hlt)
            have h3 : ((outs.map Pc.val)[k]? : Option Value) = some outs[k].val := by simp [hlt]
            simpa [h3] using this
          · subst e
            exact (HO2.out.lt g rfl).2
      obtain ⟨G, rfl, hG, hGl⟩ := hA2
      obtain ⟨x, hx⟩ : ∃ x, outs[k] = x := ⟨_, rfl⟩
      rw [hx] at hG
      have hLx : Lie w2 x.g x.o x.xs := by rw [← hx]; exact HL2.out _ (List.getElem_mem hlt)
      have c0 : wr.cell? ⟨G, k, none⟩ = some (.slice (some ⟨x.g, x.o, none⟩) x.xs.length x.c) := by rw [hW.out.cell (p := ⟨G, k, none⟩) hGl]; exact hG
      have cv : (convert 52 9 (.slice (some ⟨x.g, x.o, none⟩) x.xs.length x.c)).run Tryd.prog wr = .ok (.string (textOf x.xs)) wr := pc_text (hLx.bent (fun hl => hW.out.block _ hl))
      have HXX := Lib.hid hx
      have hwl : w2.heap.size ≤ wr.heap.size := hW.out.size
      clear hG hx hLx
      go_wp2_with (at_builtin; refine wpList_append_lies _ rfl (.tmp 24) (.tmp 30) 30 rfl w2.heap.size 9 i0 (.string ⟨#[]⟩) 1 16 Tryd.underlying30 hi0 hz0 hz1 hz2 rfl (by omega) dv k ((outs.map fun x => Value.string (textOf x.xs)).take k) rfl (hO.out.alloc _) ⟨wr.heap.size, 0, none⟩ 1 1 [.string (textOf x.xs)] rfl rfl (World.news_of_block (cs := #[.string (textOf x.xs)]) (t := 9) (fr := (0, 0)) (heap_alloc_new wr _)) (by simp [Value.oneCell']) (by omega) (by unfold maxLen; omega) (by omega) (by simp; omega) _ rfl ?_)
      intro gg gcap w4 hown4 hgrow hat hlt4
      have H4 : Hid (w4.ownsRow w2.heap.size 9 1 (.slice (some ⟨gg, 0, none⟩) (k + 1) gcap) (k + 1) ((outs.map fun x => Value.string (textOf x.xs)).take (k + 1))) := Lib.hid (by
        rw [List.take_succ_eq_append_getElem (by simpa using hlt)]
        simp only [List.getElem_map, HXX.out]
        exact hown4)
      have W4 : Hid (Below w2.heap.size w2 w4) := Lib.hid (below_mv' hW.out (((Mv.refl _ wr).alloc _).transNew (Mv.grown (X := fun k => dv.ownBlock = some k) hgrow (fun k _ e => e)) (fun k _ e => e)) (fun k e => (hO.out.lt _ e).1))
      clear hown4 hgrow hat
      go_wp2_with fail
      go_roundg (gk - 1)
      case measure => omega
      case rel => exact ⟨_, k + 1, rfl, by simp, by omega, H4, W4⟩
    · have d1 : decide ((k : Int) < (outs.length : Int)) = false := decide_eq_false (by omega)
      have d2 : decide (k < outs.length) = false := decide_eq_false (by omega)
      obtain rfl : k = outs.length := by omega
      have HOF : Hid (wr.ownsRow w.heap.size 9 1 dv outs.length ((outs.map fun x => textOf x.xs).map Value.string)) := Lib.hid (by
        have h := own_weak hO.out HB2.out.size
        rw [List.take_of_length_le (by simp)] at h
        rw [List.map_map]; exact h)
      have HRF : Hid (Frm.Run vld (.head true) [] (ss.map natsOf) ((outs.map fun x => textOf x.xs).map natsOf, st, ok)) := Lib.hid (by
        have e : (outs.map fun x => textOf x.xs).map natsOf = outs.map (·.xs) := by
          rw [List.map_map]
          refine List.map_congr_left (fun x hx => ?_)
          refine natsOf_text x.xs (fun y hy => ?_)
          obtain ⟨i, hi, rfl⟩ := List.mem_iff_getElem.1 hy
          exact (HL2.out x hx i hi).2.1
        rw [e]; exact HRUN.out)
      have HWF : Hid (Below w.heap.size w wr) := Lib.hid (HB2.out.trans (hW.out.mono HB2.out.size))
      rcases HEV.out with ⟨rfl, rfl, rfl⟩ | ⟨a, rfl, hok⟩
      · go_wp2_with fail
        go_ret3
        exact ⟨dv, outs.map fun x => textOf x.xs, 0, true, rfl, by rw [List.length_map]; exact HOF.out, HRF.out, HWF.out⟩
      · by_cases hst : st = 0
        · have e1 : ((st : Int) != 0) = false := by simp [hst]
          have e2 : ((st : Int) == 0) = true := by simp [hst]
          have HST := Lib.hid hst
          have HOK := Lib.hid hok
          clear hst hok
          go_wp2_with fail
          go_ret3
          exact ⟨dv, outs.map fun x => textOf x.xs, st, false, rfl, by rw [List.length_map]; exact HOF.out, by have h := HRF.out; rw [HOK.out, HST.out] at h; rw [HST.out]; simpa using h, HWF.out⟩
        · have e1 : ((st : Int) != 0) = true := by simp; omega
          have e2 : ((st : Int) == 0) = false := by simp; omega
          have HST := Lib.hid hst
          have HOK := Lib.hid hok
          clear hst hok
          go_wp2_with fail
          go_ret3
          exact ⟨dv, outs.map fun x => textOf x.xs, st, true, rfl, by rw [List.length_map]; exact HOF.out, by have h := HRF.out; rw [HOK.out, decide_eq_true HST.out] at h; exact h, HWF.out⟩
end Go.Proofs.YtbldebfjgccadaaDoor
