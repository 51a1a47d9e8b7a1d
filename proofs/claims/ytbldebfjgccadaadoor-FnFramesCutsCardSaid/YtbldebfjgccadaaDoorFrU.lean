/- The walk of bytesOf: texts as pieces of bytes. -/
import Derived.Test.YtbldebfjgccadaaDoorFrG
namespace Go.Proofs.YtbldebfjgccadaaDoor
open Go.RowKit
attribute [local go_sem ↓] Go.wp_at_zero Go.wp_at_succ
set_option linter.unusedVariables false
set_option linter.unusedSimpArgs false

/-- A text's bytes. -/
def natsOf (s : ByteArray) : List Nat := s.data.toList.map UInt8.toNat
theorem natsOf_length (s : ByteArray) : (natsOf s).length = s.size := by simp [natsOf]
theorem conv_lie (w : World) (s : ByteArray) : Lie (Lib.bytesWorld w 5 s) w.heap.size 0 (natsOf s) := by
  intro i hi
  have hi2 : i < s.size := by rw [natsOf_length] at hi; exact hi
  refine ⟨?_, ?_, ?_⟩
  · rw [Nat.zero_add, Lib.bytesWorld_cell w 5 s i hi2]
    simp [natsOf, List.getD, hi2]
  · simp [natsOf]
    exact UInt8.toNat_lt _
  · have hb := Lib.bytesWorld_at_new w 5 s
    simp only [World.frozen?, hb]
    have : s.size ≤ (Lib.bytesCells w 5 s).size := by simp [Lib.bytesCells]
    simp
    omega
/-- The pieces so far. -/
structure Bo (w : World) (ss : List ByteArray) (wr : World) (v : Value) (l : List Pc) (k : Nat) : Prop where
  below : Below w.heap.size w wr
  own : wr.ownsRow w.heap.size 52 1 v k (l.map Pc.val)
  len : l.length = k
  lies : ∀ x ∈ l, Lie wr x.g x.o x.xs ∧ x.xs.length ≤ x.c ∧ w.heap.size ≤ x.g ∧ ∃ cs fr, wr.heap[x.g]? = some (.cells cs 5 fr)
  nodup : (l.map (·.g)).Nodup
  read : l.map (·.xs) = (ss.take k).map natsOf

theorem below_mv' {X : Nat → Prop} {w0 w w' : World} (h : Below w0.heap.size w0 w) (m : Mv X w w') (hX : ∀ k, X k → w0.heap.size ≤ k) : Below w0.heap.size w0 w' :=
  h.trans ⟨m.os, m.tape, m.output, m.size, fun k hk => m.block k (by have := h.size; omega) (fun x => by have := hX _ x; omega)⟩
theorem own_no5 {w : World} {B E n k : Nat} {v : Value} {xs : List Value} {cs : Array Value} {fr : Nat × Nat} (h : w.ownsRow B E 1 v n xs) (hk : w.heap[k]? = some (.cells cs 5 fr)) (hE : E ≠ 5) : v.ownBlock ≠ some k := by
  obtain ⟨_, h | ⟨g, cap, cur, rfl, _, hb, _⟩⟩ := h
  · obtain ⟨rfl, _⟩ := h; simp [Value.ownBlock]
  · simp [Value.ownBlock]
    rintro rfl
    rw [hb] at hk
    injection hk with hk
    injection hk with _ hk
    exact hE hk
theorem Bo.step {w wr w4 : World} {ss : List ByteArray} {lv : Value} {l : List Pc} {k gg gcap : Nat} {s : ByteArray} (h : Bo w ss wr lv l k) (hk : k < ss.length) (hs : ss[k] = s) {o : Obj}
    (hown : w4.ownsRow w.heap.size 52 1 (.slice (some ⟨gg, 0, none⟩) (k + 1) gcap) (k + 1) (l.map Pc.val ++ [.slice (some ⟨wr.heap.size, 0, none⟩) s.size (grownCap wr s.size 0 5)]))
    (hgrow : ((Lib.bytesWorld wr 5 s).alloc o).grownBy w4 lv.ownBlock) : Bo w ss w4 (.slice (some ⟨gg, 0, none⟩) (k + 1) gcap) (l ++ [⟨wr.heap.size, 0, grownCap wr s.size 0 5, natsOf s⟩]) (k + 1) := by
  have B1 : Below wr.heap.size wr ((Lib.bytesWorld wr 5 s).alloc o) := (Joins.below_bytesWorld wr.heap.size wr 5 s (Nat.le_refl _)).alloc (by rw [Lib.bytesWorld_size]; omega) _
  have M : Mv (fun k => lv.ownBlock = some k) wr w4 := (Mv.below B1).transNew (Mv.grown (X := fun k => lv.ownBlock = some k) hgrow (fun k _ e => e)) (fun k _ e => e)
  have hsz := h.below.size
  have hnew : w4.heap[wr.heap.size]? = (Lib.bytesWorld wr 5 s).heap[wr.heap.size]? := by
    have e1 : ((Lib.bytesWorld wr 5 s).alloc o).heap[wr.heap.size]? = (Lib.bytesWorld wr 5 s).heap[wr.heap.size]? := Below.heap_alloc _ _ _ (by rw [Lib.bytesWorld_size]; omega)
    rw [← e1]
    refine hgrow.block _ (by simp [Lib.bytesWorld_size]; omega) (fun e => ?_)
    have := (h.own.lt _ e.symm).2
    omega
  refine ⟨below_mv' h.below M (fun k e => (h.own.lt _ e).1), ?_, by simp [h.len], fun x hx => ?_, ?_, ?_⟩
  · rw [List.map_append]
    have e : Pc.val ⟨wr.heap.size, 0, grownCap wr s.size 0 5, natsOf s⟩ = .slice (some ⟨wr.heap.size, 0, none⟩) s.size (grownCap wr s.size 0 5) := by unfold Pc.val; rw [natsOf_length]
    simp only [List.map_cons, List.map_nil, e]
    exact hown
  · rcases List.mem_append.1 hx with hx | hx
    · obtain ⟨h1, h2, h3, cs, fr, h4⟩ := h.lies x hx
      have hn := own_no5 h.own h4 (by decide)
      exact ⟨h1.bent (fun hl => M.block _ hl (fun e => hn e)), h2, h3, cs, fr, M.same (fun e => hn e) h4⟩
    · obtain rfl : x = _ := by simpa using hx
      refine ⟨(conv_lie wr s).bent (fun _ => hnew), ?_, hsz, _, _, hnew.trans (Lib.bytesWorld_at_new wr 5 s)⟩
      rw [natsOf_length]
      exact grownCap_ge _ _ _ _
  · rw [List.map_append, List.nodup_append]
    refine ⟨h.nodup, by simp, fun a ha b hb e => ?_⟩
    obtain ⟨x, hx, rfl⟩ := List.mem_map.1 ha
    obtain rfl : b = wr.heap.size := by simpa using hb
    obtain ⟨_, _, _, cs, fr, h4⟩ := h.lies x hx
    have := Lib.lt_of_heap h4
    omega
  · rw [List.map_append, h.read, List.take_succ_eq_append_getElem hk, List.map_append]
    simp [hs]

set_option maxHeartbeats 8000000 in
set_option maxRecDepth 100000 in
theorem bytesOf_any (ad : Addr) (c : Nat) (ss : List ByteArray) (w : World) (hc : ∀ i (h : i < ss.length), w.cell? (ad.add i) = some (.string ss[i])) (hn : ss.length < 1000) :
    Calls Tryd.prog 19 #[.slice (some ad) ss.length c] w fun e w' => ∃ v l, e = .returned v ∧ Bo w ss w' v l ss.length := by
  obtain ⟨i0, hi0, hz0, hz1, hz2⟩ := info_parts info52
  have HC := Lib.hid hc
  clear hc
  go_enter Tryd.func19, Tryd.ntmps19
  go_wp2_with fail
  go_loopg [3, 4] ss.length (fun gk v3 v4 w' => ∃ (lv : Value) (l : List Pc) (k : Nat), lv = v3 ∧ v4 = .int .i64 k ∧ gk + k = ss.length ∧ Hid (Bo w ss w' lv l k))
  case atStart => exact ⟨_, [], 0, rfl, rfl, by omega, Lib.hid ⟨Below.refl _ _, World.ownsRow_nil _ _ _ _, rfl, by simp, by simp, by simp⟩⟩
  case round =>
    obtain ⟨lv, l, k, rfl, rfl, hgk, hB⟩ := hrel
    by_cases hlt : k < ss.length
    · have d1 : decide ((k : Int) < (ss.length : Int)) = true := decide_eq_true (by omega)
      have d2 : decide (k < ss.length) = true := decide_eq_true hlt
      have h0 := HC.out k hlt
      have c0 : wr.cell? (ad.add k) = some (.string ss[k]) := by rw [hB.out.below.cell (World.block_lt_of_cell? w _ h0)]; exact h0
      obtain ⟨s, hs⟩ : ∃ s, ss[k] = s := ⟨_, rfl⟩
      rw [hs] at c0
      have HSS := Lib.hid hs
      have cv := conv_str
      clear h0 hs
      go_wp2_with (at_builtin; refine wpList_append_lies _ rfl (.tmp 11) (.tmp 17) 45 rfl w.heap.size 52 i0 (.slice none 0 0) 1 24 Tryd.underlying45 hi0 hz0 hz1 hz2 rfl (by omega) lv k (l.map Pc.val) rfl ((own_mv hB.out.own (Mv.below (Joins.below_bytesWorld wr.heap.size wr 5 s (Nat.le_refl _))) (fun _ _ h => h)).alloc _) ⟨(Lib.bytesWorld wr 5 s).heap.size, 0, none⟩ 1 1 [.slice (some ⟨wr.heap.size, 0, none⟩) s.size (grownCap wr s.size 0 5)] rfl rfl (World.news_of_block (cs := #[.slice (some ⟨wr.heap.size, 0, none⟩) s.size (grownCap wr s.size 0 5)]) (t := 52) (fr := (0, 0)) (heap_alloc_new _ _)) (by simp [Value.oneCell']) (by omega) (by unfold maxLen; omega) (by omega) (by have := hB.out.below.size; simp [Lib.bytesWorld_size]; omega) _ rfl ?_)
      intro gg gcap w4 hown4 hgrow hat hlt4
      have H4 := Lib.hid (hB.out.step hlt HSS.out hown4 hgrow)
      clear hown4 hgrow hat
      go_wp2_with fail
      go_roundg (gk - 1)
      case measure => omega
      case rel => exact ⟨_, _, k + 1, rfl, by simp, by omega, H4⟩
    · have d1 : decide ((k : Int) < (ss.length : Int)) = false := decide_eq_false (by omega)
      have d2 : decide (k < ss.length) = false := decide_eq_false (by omega)
      obtain rfl : k = ss.length := by omega
      go_wp2_with fail
      go_ret
      exact ⟨_, l, rfl, hB.out⟩
end Go.Proofs.YtbldebfjgccadaaDoor
