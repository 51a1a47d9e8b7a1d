/- The two orders of keep's sorts; sort.Slice at this program's dump. -/
import Derived.Test.YtpbhblppehkifaaDoorStoF
import Derived.Test.YtpbhblppehkifaaDoorShelf
import Derived.Deep.QuietTactic
import Derived.Shelf.GgSortFunc.Tiny
import Derived.Laws.OwnMore
import Derived.BigRegion
import Derived.Deep.AppendLies
namespace Go.Proofs.YtpbhblppehkifaaDoor
open Go Go.RowKit Go.Shelf Go.Lib Go.Sort Con

noncomputable def Tryd.tW : TypeInfo := (Tryd.prog.info? 32).get (by kernel_rfl)
noncomputable def Tryd.eW : TypeInfo := (Tryd.prog.info? 49).get (by kernel_rfl)
def encW (x : Int × Int × Int) : List Value := [.int .u64 x.1, .int .u64 x.2.1, .int .i64 x.2.2]
def ltW (x y : Int × Int × Int) : Bool := decide (x.1 < y.1)
theorem swoW : SWO ltW := ⟨fun x => by simp [ltW], fun x y z h1 h2 => by simp [ltW] at *; omega, fun x y z h1 h2 => by simp [ltW] at *; omega⟩
theorem Tryd.kW (n : Nat) (h2 : 2 ≤ n) : Lib.swapperK n Tryd.eW 25 = 9 := by
  have a : Tryd.eW.hasPointers = false := by kernel_rfl
  have b : Tryd.eW.bytes = 24 := by kernel_rfl
  have c : (n == 0) = false := by simp; omega
  have d : (n == 1) = false := by simp; omega
  simp [Lib.swapperK, a, b, c, d]

set_option maxHeartbeats 2000000 in
theorem lessW (blk off c Bs size : Nat) (W : World) (G : Nat → Int) (hs : W.cell? ⟨Bs, 4, none⟩ = some (.slice (some ⟨blk, off, none⟩) size c))
    (hc : ∀ t, t < size → W.cell? ⟨blk, off + t * 3, none⟩ = some (.int .u64 (G t))) (i j : Nat) (hi : i < size) (hj : j < size) (_hsz : size < 4611686018427387904) :
    Calls Tryd.prog 37 #[.int .i64 i, .int .i64 j, .pointer (some ⟨Bs, 0, none⟩)] W fun e w' => e = .returned (.bool (decide (G i < G j))) ∧ ∃ q, w' = W.drewN q := by
  have ci := hc i hi
  have cj := hc j hj
  go_enter Tryd.func37, Tryd.ntmps37
  go_wp2
  go_quiet (fail)
  go_wp2
  go_ret
  exact ⟨rfl, nq, rfl⟩

theorem sortW (blk off c Bs : Nat) (d : Array (Int × Int × Int)) (h2 : 2 ≤ d.size) (hsz : d.size < 4611686018427387904) (w : World) (hH : HoldsK encW 3 w blk off d) (hblk : blk < w.heap.size)
    (hBs : w.cell? ⟨Bs, 4, none⟩ = some (.slice (some ⟨blk, off, none⟩) d.size c)) (hB1 : Bs < w.heap.size) (hB2 : Bs ≠ blk) :
    Calls Tryd.prog 36 #[.iface 32 (.slice (some ⟨blk, off, none⟩) d.size c), .func (.func 37) #[] #[.pointer (some ⟨Bs, 0, none⟩)]] w fun e w' =>
      e = .returned (.tuple #[]) ∧ ∃ d' n os, PermIn 0 d.size d d' ∧ SortedIn ltW 0 d.size d' ∧ w' = grow (putRowK encW 3 (Sort.ahead w n) blk off d') os := by
  have hless : LessReadsK Tryd.prog 37 #[.pointer (some ⟨Bs, 0, none⟩)] encW 3 ltW blk off d.size w := by
    intro m os dk hs i j hi hj
    have e : sortWorldK encW 3 w blk off m dk os = putRowK encW 3 (grow (Sort.ahead w m) os) blk off dk := by
      unfold sortWorldK; rw [putRowK_grow _ _ (Sort.ahead w m) _ blk off _ hblk]
    have hHg : HoldsK encW 3 (grow (Sort.ahead w m) os) blk off d := holdsK_grow _ _ _ _ blk off d hblk (holdsK_ahead _ _ _ _ _ _ _ hH)
    refine lessW blk off c Bs d.size _ (fun t => dk[t]!.1) ?_ (fun t ht => ?_) i j hi hj (by omega)
    · rw [e, cell?_putRowK_other _ _ _ blk off dk _ (by exact hB2), cell?_grow _ _ _ (by exact hB1)]; exact hBs
    · rw [e]; exact ((holdsK_putRowK _ _ _ blk off d dk hHg hs).cell (i := t) (c := 0) (by omega) (by omega)).1
  exact Any.sort_Slice_cells_sorted Tryd.sl6 32 49 Tryd.tW Tryd.eW (by kernel_rfl) (by kernel_rfl) (by kernel_rfl) (by kernel_rfl) 25 (fun _ => by kernel_rfl) encW 3 (fun _ => rfl) (by kernel_rfl) (fun _ => by kernel_rfl)
    (fun x v hv => by simp [encW] at hv; rcases hv with rfl | rfl | rfl <;> rfl) ltW swoW 37 _
    (enters_of Tryd.func37 (by kernel_rfl) rfl) blk off c d h2 hsz 65 (by rw [Tryd.kW _ h2]; kernel_rfl) false
    (fun args W => run_callFunc_extern Tryd.func65 (by kernel_rfl) (by kernel_rfl) (by kernel_rfl) (e := Extern.ReflectliteSwapper.swap false) (by kernel_rfl) args W) w hless hH hblk

noncomputable def Tryd.tA : TypeInfo := (Tryd.prog.info? 33).get (by kernel_rfl)
noncomputable def Tryd.eA : TypeInfo := (Tryd.prog.info? 64).get (by kernel_rfl)
def encA (x : Int × Int) : List Value := [.int .u64 x.1, .int .u64 x.2]
def ltA (x y : Int × Int) : Bool := decide (x.1 < y.1)
theorem swoA : SWO ltA := ⟨fun x => by simp [ltA], fun x y z h1 h2 => by simp [ltA] at *; omega, fun x y z h1 h2 => by simp [ltA] at *; omega⟩
theorem Tryd.kA (n : Nat) (h2 : 2 ≤ n) : Lib.swapperK n Tryd.eA 25 = 9 := by
  have a : Tryd.eA.hasPointers = false := by kernel_rfl
  have b : Tryd.eA.bytes = 16 := by kernel_rfl
  have c : (n == 0) = false := by simp; omega
  have d : (n == 1) = false := by simp; omega
  simp [Lib.swapperK, a, b, c, d]

set_option maxHeartbeats 2000000 in
theorem lessA (blk off c Bs size : Nat) (W : World) (G : Nat → Int) (hs : W.cell? ⟨Bs, 5, none⟩ = some (.slice (some ⟨blk, off, none⟩) size c))
    (hc : ∀ t, t < size → W.cell? ⟨blk, off + t * 2, none⟩ = some (.int .u64 (G t))) (i j : Nat) (hi : i < size) (hj : j < size) (_hsz : size < 4611686018427387904) :
    Calls Tryd.prog 38 #[.int .i64 i, .int .i64 j, .pointer (some ⟨Bs, 0, none⟩)] W fun e w' => e = .returned (.bool (decide (G i < G j))) ∧ ∃ q, w' = W.drewN q := by
  have ci := hc i hi
  have cj := hc j hj
  go_enter Tryd.func38, Tryd.ntmps38
  go_wp2
  go_quiet (fail)
  go_wp2
  go_ret
  exact ⟨rfl, nq, rfl⟩

theorem sortA (blk off c Bs : Nat) (d : Array (Int × Int)) (h2 : 2 ≤ d.size) (hsz : d.size < 4611686018427387904) (w : World) (hH : HoldsK encA 2 w blk off d) (hblk : blk < w.heap.size)
    (hBs : w.cell? ⟨Bs, 5, none⟩ = some (.slice (some ⟨blk, off, none⟩) d.size c)) (hB1 : Bs < w.heap.size) (hB2 : Bs ≠ blk) :
    Calls Tryd.prog 36 #[.iface 33 (.slice (some ⟨blk, off, none⟩) d.size c), .func (.func 38) #[] #[.pointer (some ⟨Bs, 0, none⟩)]] w fun e w' =>
      e = .returned (.tuple #[]) ∧ ∃ d' n os, PermIn 0 d.size d d' ∧ SortedIn ltA 0 d.size d' ∧ w' = grow (putRowK encA 2 (Sort.ahead w n) blk off d') os := by
  have hless : LessReadsK Tryd.prog 38 #[.pointer (some ⟨Bs, 0, none⟩)] encA 2 ltA blk off d.size w := by
    intro m os dk hs i j hi hj
    have e : sortWorldK encA 2 w blk off m dk os = putRowK encA 2 (grow (Sort.ahead w m) os) blk off dk := by
      unfold sortWorldK; rw [putRowK_grow _ _ (Sort.ahead w m) _ blk off _ hblk]
    have hHg : HoldsK encA 2 (grow (Sort.ahead w m) os) blk off d := holdsK_grow _ _ _ _ blk off d hblk (holdsK_ahead _ _ _ _ _ _ _ hH)
    refine lessA blk off c Bs d.size _ (fun t => dk[t]!.1) ?_ (fun t ht => ?_) i j hi hj (by omega)
    · rw [e, cell?_putRowK_other _ _ _ blk off dk _ (by exact hB2), cell?_grow _ _ _ (by exact hB1)]; exact hBs
    · rw [e]; exact ((holdsK_putRowK _ _ _ blk off d dk hHg hs).cell (i := t) (c := 0) (by omega) (by omega)).1
  exact Any.sort_Slice_cells_sorted Tryd.sl6 33 64 Tryd.tA Tryd.eA (by kernel_rfl) (by kernel_rfl) (by kernel_rfl) (by kernel_rfl) 25 (fun _ => by kernel_rfl) encA 2 (fun _ => rfl) (by kernel_rfl) (fun _ => by kernel_rfl)
    (fun x v hv => by simp [encA] at hv; rcases hv with rfl | rfl <;> rfl) ltA swoA 38 _
    (enters_of Tryd.func38 (by kernel_rfl) rfl) blk off c d h2 hsz 65 (by rw [Tryd.kA _ h2]; kernel_rfl) false
    (fun args W => run_callFunc_extern Tryd.func65 (by kernel_rfl) (by kernel_rfl) (by kernel_rfl) (e := Extern.ReflectliteSwapper.swap false) (by kernel_rfl) args W) w hless hH hblk

#print axioms sortW
end Go.Proofs.YtpbhblppehkifaaDoor

namespace Go.Proofs.YtpbhblppehkifaaDoor
open Go Go.RowKit Go.Shelf Go.Lib Go.Sort Con

theorem flat_len {α : Type} (enc : α → List Value) (k : Nat) (hk : ∀ x, (enc x).length = k) : ∀ l : List α, (l.flatMap enc).length = l.length * k
  | [] => by simp
  | x :: r => by rw [List.flatMap_cons, List.length_append, hk, flat_len enc k hk r, List.length_cons, Nat.add_mul]; omega
section
variable {α : Type} [Inhabited α] (enc : α → List Value) (k : Nat)
theorem flat_get (hk0 : 0 < k) (hk : ∀ x, (enc x).length = k) : ∀ (l : List α) (t : Nat), t < l.length * k → (l.flatMap enc)[t]? = some ((enc l[t / k]!)[t % k]!)
  | [], t, h => by simp at h
  | x :: r, t, h => by
    rw [List.flatMap_cons]
    by_cases ht : t < k
    · rw [List.getElem?_append_left (by rw [hk]; exact ht), Nat.div_eq_of_lt ht, Nat.mod_eq_of_lt ht]
      have : t < (enc x).length := by rw [hk]; exact ht
      simp [this]
    · have h1 : k ≤ t := by omega
      rw [List.getElem?_append_right (by rw [hk]; exact h1), hk, flat_get hk0 hk r (t - k) (by simp [Nat.add_mul] at h; omega)]
      have e1 : t / k = (t - k) / k + 1 := by rw [Nat.div_eq_sub_div hk0 h1]
      have e2 : t % k = (t - k) % k := by rw [Nat.mod_eq_sub_mod h1]
      rw [e1, e2]
      simp
theorem flatK_eq (hk0 : 0 < k) (hk : ∀ x, (enc x).length = k) (l : List α) : (flatK enc k l.toArray).toList = l.flatMap enc := by
  apply List.ext_getElem?
  intro t
  by_cases h : t < l.length * k
  · rw [flat_get enc k hk0 hk l t h]
    have h2 : t < (flatK enc k l.toArray).size := by simpa using h
    rw [Array.getElem?_toList, Array.getElem?_eq_getElem h2]
    have := get_flatK enc k l.toArray t (by simpa using h)
    rw [getElem!_pos _ t h2] at this
    rw [this]
    simp
  · rw [List.getElem?_eq_none (by simpa using h), List.getElem?_eq_none (by rw [flat_len enc k hk]; omega)]

variable {w : World} {g cap n base : Nat} {cur : Array Value} {E : TypeId} {os : Array Obj}
theorem holdsK_of (hk0 : 0 < k) (hk : ∀ x, (enc x).length = k) {V : List α} (hb : w.heap[g]? = some (.cells cur E (0, 0))) (h4 : cur.toList.take (V.length * k) = V.flatMap enc) : HoldsK enc k w g 0 V.toArray := by
  intro j hj
  have hj' : j < V.length * k := by simpa using hj
  refine ⟨?_, by simp [World.frozen?, hb]⟩
  have h1 : (cur.toList.take (V.length * k))[j]? = (V.flatMap enc)[j]? := by rw [h4]
  rw [List.getElem?_take_of_lt hj', flat_get enc k hk0 hk V j hj'] at h1
  simp only [World.cell?, hb, Nat.zero_add]
  simp only [Option.isSome_none, Bool.false_eq_true, if_false]
  rw [← Array.getElem?_toList, h1, get_flatK enc k V.toArray j (by simpa using hj')]
  simp
theorem grownK (d : Array α) : w.grownBy (grow (putRowK enc k (Sort.ahead w n) g 0 d) os) (some g) := by
  refine ⟨rfl, rfl, rfl, by simp [putRowK], fun i hi hne => ?_⟩
  rw [heap_grow_old _ _ (by simpa [putRowK] using hi)]
  have : g ≠ i := fun e => hne (by rw [e])
  simp [putRowK, putRow, mapBlock, Sort.ahead, Array.getElem?_modify, this]
theorem ownsK (hk0 : 0 < k) (hk : ∀ x, (enc x).length = k) {V V' : List α} (hl : V'.length = V.length) (hbase : base ≤ g) (hb : w.heap[g]? = some (.cells cur E (0, 0))) (h1 : V.length ≤ cap) (h2 : cap ≤ maxLen) (h3 : cur.size = cap * k) :
    (grow (putRowK enc k (Sort.ahead w n) g 0 V'.toArray) os).ownsRow base E k (.slice (some ⟨g, 0, none⟩) V.length cap) V.length (V'.flatMap enc) := by
  have hg : g < w.heap.size := (Array.getElem?_eq_some_iff.1 hb).1
  have hheap : (grow (putRowK enc k (Sort.ahead w n) g 0 V'.toArray) os).heap[g]? = some (.cells (putCells id 0 (flatK enc k V'.toArray) cur) E (0, 0)) := by
    rw [heap_grow_old _ _ (by simpa [putRowK] using hg)]
    simp [putRowK, putRow, mapBlock, Sort.ahead, Array.getElem?_modify, hb, onCells]
  refine ⟨by rw [flat_len enc k hk, hl], .inr ⟨g, cap, _, rfl, hbase, hheap, h1, h2, by simp [putCells, h3], ?_⟩⟩
  have hle : V.length * k ≤ cur.size := by rw [h3]; exact Nat.mul_le_mul_right k h1
  rw [← hl, ← flatK_eq enc k hk0 hk V']
  apply List.ext_getElem?
  intro j
  by_cases hj : j < V'.length * k
  · rw [List.getElem?_take_of_lt hj, Array.getElem?_toList, Array.getElem?_toList]
    have h5 : j < cur.size := by rw [hl] at hj; omega
    simp [putCells, hj, h5]
  · rw [List.getElem?_take_eq_none (by omega), List.getElem?_eq_none (by simpa using hj)]

theorem perm_in {d d' : Array α} (h : PermIn 0 d.size d d') : d'.toList.Perm d.toList := by
  obtain ⟨h1, _, h2⟩ := h
  have e1 : (d'.extract 0 d.size).toList = d'.toList := by simp [← h1]
  have e2 : (d.extract 0 d.size).toList = d.toList := by simp
  rw [e1, e2] at h2
  exact h2
theorem sorted_in {lt : α → α → Bool} {d : Array α} {m : Nat} (hm : m = d.size) (h : SortedIn lt 0 m d) : d.toList.Pairwise (fun a b => lt b a = false) := by
  subst hm
  rw [List.pairwise_iff_getElem]
  intro i j hi hj hij
  have hi' : i < d.size := by simpa using hi
  have hj' : j < d.size := by simpa using hj
  have := h i j (Nat.zero_le _) hij hj'
  rw [getElem!_pos d i hi', getElem!_pos d j hj'] at this
  simpa using this
end

/-- A row in whatever order, sorted by its first numbers, which differ: the row in order. -/
theorem srt_perm {β : Type} {V S V' : List (Int × β)} (hV : Srt V) (hm : ∀ p, p ∈ S ↔ p ∈ V) (hn : (S.map (·.1)).Nodup) (hp : V'.Perm S) (hs : V'.Pairwise (fun a b => decide (b.1 < a.1) = false)) : V' = V := by
  refine Srt.ext ?_ hV (fun p => (hp.mem_iff).trans (hm p))
  have hn' : (V'.map (·.1)).Nodup := (hp.map (·.1)).nodup_iff.2 hn
  have h2 : V'.Pairwise (fun a b => a.1 ≠ b.1) := List.pairwise_map.1 hn'
  refine (hs.and h2).imp ?_
  rintro a b ⟨h3, h4⟩
  simp at h3
  omega

theorem Tryd.kW0 : Lib.swapperK 0 Tryd.eW 25 = 1 := by simp [Lib.swapperK]
theorem Tryd.kW1 : Lib.swapperK 1 Tryd.eW 25 = 2 := by simp [Lib.swapperK]
theorem sortW_row (Bs n base : Nat) (v : Value) (V S : List (Int × Int × Int)) (w : World) (hn : S.length = n) (hsz : n < 1000000) (ho : w.ownsRow base 49 3 v n (S.flatMap encW)) (hV : Srt V) (hm : ∀ p, p ∈ S ↔ p ∈ V) (hnd : (S.map (·.1)).Nodup)
    (hBs : w.cell? ⟨Bs, 4, none⟩ = some v) (hB2 : ∀ g, v.ownBlock = some g → Bs ≠ g) :
    Calls Tryd.prog 36 #[.iface 32 v, .func (.func 37) #[] #[.pointer (some ⟨Bs, 0, none⟩)]] w fun e w' =>
      e = .returned (.tuple #[]) ∧ w'.ownsRow base 49 3 v n (V.flatMap encW) ∧ w.grownBy w' v.ownBlock := by
  have hB1 : Bs < w.heap.size := World.block_lt_of_cell? w ⟨Bs, 4, none⟩ hBs
  have tiny : n ≤ 1 → V = S := fun h1 => by
    subst hn
    refine (srt_perm hV hm hnd (List.Perm.refl S) ?_).symm
    match S, h1 with
    | [], _ => exact List.Pairwise.nil
    | [x], _ => exact List.pairwise_singleton _ _
  obtain ⟨hl, hc⟩ := ho
  rcases hc with ⟨rfl, h0⟩ | ⟨g, cap, cur, rfl, hbase, hb, h1, h2, h3, h4⟩
  · subst h0
    refine (Any.sort_Slice_tiny Tryd.sl6 32 49 Tryd.tW Tryd.eW (by kernel_rfl) (by kernel_rfl) (by kernel_rfl) (by kernel_rfl) 25 (fun _ => by kernel_rfl) none 0 0 (by omega) 57 (by rw [Tryd.kW0]; kernel_rfl) (.func 37) #[] #[.pointer (some ⟨Bs, 0, none⟩)] w).mono ?_
    rintro e w' ⟨rfl, os, rfl⟩
    rw [tiny (by omega)]
    exact ⟨rfl, ⟨hl, Or.inl ⟨rfl, rfl⟩⟩, ⟨rfl, rfl, rfl, by simp, fun i hi _ => heap_grow_old _ _ hi⟩⟩
  · by_cases h5 : n ≤ 1
    · have hg : g < w.heap.size := (Array.getElem?_eq_some_iff.1 hb).1
      have hT : ∀ w' os, w' = grow w os → w'.ownsRow base 49 3 (.slice (some ⟨g, 0, none⟩) n cap) n (V.flatMap encW) ∧ w.grownBy w' (some g) := fun w' os e => by
        subst e
        rw [tiny h5]
        exact ⟨⟨hl, Or.inr ⟨g, cap, cur, rfl, hbase, (heap_grow_old _ _ hg).trans hb, h1, h2, h3, h4⟩⟩, ⟨rfl, rfl, rfl, by simp, fun i hi _ => heap_grow_old _ _ hi⟩⟩
      have h6 : n = 0 ∨ n = 1 := by omega
      rcases h6 with rfl | rfl
      · refine (Any.sort_Slice_tiny Tryd.sl6 32 49 Tryd.tW Tryd.eW (by kernel_rfl) (by kernel_rfl) (by kernel_rfl) (by kernel_rfl) 25 (fun _ => by kernel_rfl) (some ⟨g, 0, none⟩) 0 cap (by omega) 57 (by rw [Tryd.kW0]; kernel_rfl) (.func 37) #[] #[.pointer (some ⟨Bs, 0, none⟩)] w).mono ?_
        rintro e w' ⟨rfl, os, rfl⟩
        exact ⟨rfl, hT _ os rfl⟩
      · refine (Any.sort_Slice_tiny Tryd.sl6 32 49 Tryd.tW Tryd.eW (by kernel_rfl) (by kernel_rfl) (by kernel_rfl) (by kernel_rfl) 25 (fun _ => by kernel_rfl) (some ⟨g, 0, none⟩) 1 cap (by omega) 58 (by rw [Tryd.kW1]; kernel_rfl) (.func 37) #[] #[.pointer (some ⟨Bs, 0, none⟩)] w).mono ?_
        rintro e w' ⟨rfl, os, rfl⟩
        exact ⟨rfl, hT _ os rfl⟩
    · subst hn
      have hH : HoldsK encW 3 w g 0 S.toArray := holdsK_of encW 3 (by omega) (fun _ => rfl) hb h4
      have hs := sortW g 0 cap Bs S.toArray (by simpa using (by omega : 2 ≤ S.length)) (by simpa using (by omega : S.length < 4611686018427387904)) w hH (Array.getElem?_eq_some_iff.1 hb).1 (by simpa using hBs) hB1 (hB2 g rfl)
      simp only [List.size_toArray] at hs
      refine hs.mono ?_
      rintro e w' ⟨rfl, d', m, os, hp, hso, rfl⟩
      have hp' : d'.toList.Perm S := by simpa using perm_in (d := S.toArray) (d' := d') (by simpa using hp)
      have hlen : d'.toList.length = S.length := hp'.length_eq
      have hd : d'.toList = V := srt_perm hV hm hnd hp' (by
        have := sorted_in (m := S.length) (by simpa using hlen.symm) hso
        exact this)
      have hw : (grow (putRowK encW 3 (Sort.ahead w m) g 0 d'.toList.toArray) os).ownsRow base 49 3 (.slice (some ⟨g, 0, none⟩) S.length cap) S.length (d'.toList.flatMap encW) :=
        ownsK encW 3 (by omega) (fun _ => rfl) hlen hbase hb h1 h2 h3
      rw [hd] at hw
      have e1 : d' = V.toArray := by rw [← hd]
      refine ⟨rfl, ?_, grownK encW 3 d'⟩
      rw [e1]
      exact hw

theorem Tryd.kA0 : Lib.swapperK 0 Tryd.eA 25 = 1 := by simp [Lib.swapperK]
theorem Tryd.kA1 : Lib.swapperK 1 Tryd.eA 25 = 2 := by simp [Lib.swapperK]
theorem sortA_row (Bs n base : Nat) (v : Value) (V S : List (Int × Int)) (w : World) (hn : S.length = n) (hsz : n < 1000000) (ho : w.ownsRow base 64 2 v n (S.flatMap encA)) (hV : Srt V) (hm : ∀ p, p ∈ S ↔ p ∈ V) (hnd : (S.map (·.1)).Nodup)
    (hBs : w.cell? ⟨Bs, 5, none⟩ = some v) (hB2 : ∀ g, v.ownBlock = some g → Bs ≠ g) :
    Calls Tryd.prog 36 #[.iface 33 v, .func (.func 38) #[] #[.pointer (some ⟨Bs, 0, none⟩)]] w fun e w' =>
      e = .returned (.tuple #[]) ∧ w'.ownsRow base 64 2 v n (V.flatMap encA) ∧ w.grownBy w' v.ownBlock := by
  have hB1 : Bs < w.heap.size := World.block_lt_of_cell? w ⟨Bs, 5, none⟩ hBs
  have tiny : n ≤ 1 → V = S := fun h1 => by
    subst hn
    refine (srt_perm hV hm hnd (List.Perm.refl S) ?_).symm
    match S, h1 with
    | [], _ => exact List.Pairwise.nil
    | [x], _ => exact List.pairwise_singleton _ _
  obtain ⟨hl, hc⟩ := ho
  rcases hc with ⟨rfl, h0⟩ | ⟨g, cap, cur, rfl, hbase, hb, h1, h2, h3, h4⟩
  · subst h0
    refine (Any.sort_Slice_tiny Tryd.sl6 33 64 Tryd.tA Tryd.eA (by kernel_rfl) (by kernel_rfl) (by kernel_rfl) (by kernel_rfl) 25 (fun _ => by kernel_rfl) none 0 0 (by omega) 57 (by rw [Tryd.kA0]; kernel_rfl) (.func 38) #[] #[.pointer (some ⟨Bs, 0, none⟩)] w).mono ?_
    rintro e w' ⟨rfl, os, rfl⟩
    rw [tiny (by omega)]
    exact ⟨rfl, ⟨hl, Or.inl ⟨rfl, rfl⟩⟩, ⟨rfl, rfl, rfl, by simp, fun i hi _ => heap_grow_old _ _ hi⟩⟩
  · by_cases h5 : n ≤ 1
    · have hg : g < w.heap.size := (Array.getElem?_eq_some_iff.1 hb).1
      have hT : ∀ w' os, w' = grow w os → w'.ownsRow base 64 2 (.slice (some ⟨g, 0, none⟩) n cap) n (V.flatMap encA) ∧ w.grownBy w' (some g) := fun w' os e => by
        subst e
        rw [tiny h5]
        exact ⟨⟨hl, Or.inr ⟨g, cap, cur, rfl, hbase, (heap_grow_old _ _ hg).trans hb, h1, h2, h3, h4⟩⟩, ⟨rfl, rfl, rfl, by simp, fun i hi _ => heap_grow_old _ _ hi⟩⟩
      have h6 : n = 0 ∨ n = 1 := by omega
      rcases h6 with rfl | rfl
      · refine (Any.sort_Slice_tiny Tryd.sl6 33 64 Tryd.tA Tryd.eA (by kernel_rfl) (by kernel_rfl) (by kernel_rfl) (by kernel_rfl) 25 (fun _ => by kernel_rfl) (some ⟨g, 0, none⟩) 0 cap (by omega) 57 (by rw [Tryd.kA0]; kernel_rfl) (.func 38) #[] #[.pointer (some ⟨Bs, 0, none⟩)] w).mono ?_
        rintro e w' ⟨rfl, os, rfl⟩
        exact ⟨rfl, hT _ os rfl⟩
      · refine (Any.sort_Slice_tiny Tryd.sl6 33 64 Tryd.tA Tryd.eA (by kernel_rfl) (by kernel_rfl) (by kernel_rfl) (by kernel_rfl) 25 (fun _ => by kernel_rfl) (some ⟨g, 0, none⟩) 1 cap (by omega) 58 (by rw [Tryd.kA1]; kernel_rfl) (.func 38) #[] #[.pointer (some ⟨Bs, 0, none⟩)] w).mono ?_
        rintro e w' ⟨rfl, os, rfl⟩
        exact ⟨rfl, hT _ os rfl⟩
    · subst hn
      have hH : HoldsK encA 2 w g 0 S.toArray := holdsK_of encA 2 (by omega) (fun _ => rfl) hb h4
      have hs := sortA g 0 cap Bs S.toArray (by simpa using (by omega : 2 ≤ S.length)) (by simpa using (by omega : S.length < 4611686018427387904)) w hH (Array.getElem?_eq_some_iff.1 hb).1 (by simpa using hBs) hB1 (hB2 g rfl)
      simp only [List.size_toArray] at hs
      refine hs.mono ?_
      rintro e w' ⟨rfl, d', m, os, hp, hso, rfl⟩
      have hp' : d'.toList.Perm S := by simpa using perm_in (d := S.toArray) (d' := d') (by simpa using hp)
      have hlen : d'.toList.length = S.length := hp'.length_eq
      have hd : d'.toList = V := srt_perm hV hm hnd hp' (by
        have := sorted_in (m := S.length) (by simpa using hlen.symm) hso
        exact this)
      have hw : (grow (putRowK encA 2 (Sort.ahead w m) g 0 d'.toList.toArray) os).ownsRow base 64 2 (.slice (some ⟨g, 0, none⟩) S.length cap) S.length (d'.toList.flatMap encA) :=
        ownsK encA 2 (by omega) (fun _ => rfl) hlen hbase hb h1 h2 h3
      rw [hd] at hw
      have e1 : d' = V.toArray := by rw [← hd]
      refine ⟨rfl, ?_, grownK encA 2 d'⟩
      rw [e1]
      exact hw
end Go.Proofs.YtpbhblppehkifaaDoor

namespace Go.Proofs.YtpbhblppehkifaaDoor
open Go Go.RowKit Con

theorem Cs.later {w w' : World} {B s : Nat} {dc ds fc fs : Int} {mp mr : Option Nat} {n : Nat} {W : List Wt} {R : List (Int × Int)} (h : Cs w B s dc ds fc fs mp mr n W R) (hb : Below w.heap.size w w') : Cs w' B s dc ds fc fs mp mr n W R :=
  { h with box := (hb.block s (Array.getElem?_eq_some_iff.1 h.box).1).trans h.box, pd := h.pd.later hb, red := h.red.below hb (fun _ e => h.red.lt e) }
theorem Srt.nodup {β : Type} {V : List (Int × β)} (h : Srt V) : (V.map (·.1)).Nodup := List.pairwise_map.2 (h.imp (fun h => by omega))
theorem perm_ins {β : Type} (x : Int × β) : ∀ G : List (Int × β), (ins x G).Perm (x :: G)
  | [] => List.Perm.refl _
  | y :: r => by
    by_cases h : x.1 < y.1
    · simp [ins, h]
    · simp only [ins, h, if_false]
      exact ((perm_ins x r).cons y).trans (List.Perm.swap x y r)
theorem done_perm {β : Type} {R S : List (Int × β)} {left left' : Lit → Bool} {y : Int} {u : β} (hs : Srt R) (hl : ∀ z, left' (.int .u64 z) = (left (.int .u64 z) && !(z == y))) (hy : getL y R = some u) (hly : left (.int .u64 y) = true)
    (hp : S.Perm (doneR R left)) : (S ++ [(y, u)]).Perm (doneR R left') := by
  rw [← done_put hs hl hy]
  unfold putL
  have e : delL y (doneR R left) = doneR R left := List.filter_eq_self.2 (fun p hp => by simpa using not_done hly p hp)
  rw [e]
  exact (List.perm_append_comm.trans (hp.cons _)).trans (perm_ins _ _).symm
theorem info_parts {P : Program} {e : TypeId} {z : Value} {s b : Nat} (h : (P.info? e).map (fun i => (i.zero, i.size, i.bytes)) = some (some z, s, b)) : ∃ i, P.info? e = some i ∧ i.zero = some z ∧ i.size = s ∧ i.bytes = b := by
  cases hi : P.info? e with
  | none => rw [hi] at h; cases h
  | some i =>
    rw [hi] at h
    simp at h
    exact ⟨i, rfl, h.1, h.2.1, h.2.2⟩
theorem infoW : (Tryd.prog.info? 49).map (fun i => (i.zero, i.size, i.bytes)) = some (some (.agg #[(.int .u64 0), (.int .u64 0), (.int .i64 0)]), 3, 24) := by kernel_rfl
theorem infoA : (Tryd.prog.info? 64).map (fun i => (i.zero, i.size, i.bytes)) = some (some (.agg #[(.int .u64 0), (.int .u64 0)]), 2, 16) := by kernel_rfl
theorem keep_blk {w w' : World} {r : Option Nat} {k : Nat} {o : Obj} (h : w.grownBy w' r) (hk : some k ≠ r) (ho : w.heap[k]? = some o) : w'.heap[k]? = some o := (h.block k (Array.getElem?_eq_some_iff.1 ho).1 hk).trans ho
theorem own_lt {w : World} {B E k n : Nat} {v : Value} {xs : List Value} (h : w.ownsRow B E k v n xs) {g : Nat} (hg : v.ownBlock = some g) : B ≤ g ∧ ∃ cur, w.heap[g]? = some (.cells cur E (0, 0)) := by
  rcases h.2 with ⟨rfl, _⟩ | ⟨g', cap, cur, rfl, hb, hc, _⟩
  · cases hg
  · cases hg
    exact ⟨hb, cur, hc⟩

theorem own_shape {w : World} {B E k n : Nat} {v : Value} {xs : List Value} (h : w.ownsRow B E k v n xs) : ∃ A m c, v = .slice A m c := by
  rcases h.2 with ⟨rfl, _⟩ | ⟨g, cap, _, rfl, _⟩
  · exact ⟨none, 0, 0, rfl⟩
  · exact ⟨some ⟨g, 0, none⟩, n, cap, rfl⟩
theorem own_base {w : World} {B B' E k n : Nat} {v : Value} {xs : List Value} (h : w.ownsRow B E k v n xs) (hB : B' ≤ B) : w.ownsRow B' E k v n xs := by
  refine ⟨h.1, ?_⟩
  rcases h.2 with h2 | ⟨g, cap, cur, hv, hb, h3⟩
  · exact Or.inl h2
  · exact Or.inr ⟨g, cap, cur, hv, Nat.le_trans hB hb, h3⟩
theorem RangesAt.row {w w' : World} {mp : Option Nat} {r n : Nat} {G : List (Int × Value)} {left : Lit → Bool} {cnt : Nat} {row : Option Nat} (h : RangesAt w Tryd.prog 29 mp r n G left cnt) (hg : w.grownBy w' row)
    (hrow : ∀ g, row = some g → ∃ (cs : Array Value) (t : TypeId) (f : Nat × Nat), w.heap[g]? = some (Obj.cells cs t f)) : RangesAt w' Tryd.prog 29 mp r n G left cnt := by
  refine h.kept hg (fun b hb e => ?_) (fun e => ?_)
  · obtain ⟨cs, t, f, hc⟩ := hrow b e.symm
    exact h.owns.no_cells hb hc
  · obtain ⟨cs, t, f, hc⟩ := hrow r e.symm
    obtain ⟨a, b, c, d, hi⟩ := h.iter
    rw [hi] at hc
    cases hc
/-- An append to a row of the call's own, one element laid ahead of it. -/
theorem RangesAt.app {w w' : World} {mp : Option Nat} {r n : Nat} {G : List (Int × Value)} {left : Lit → Bool} {cnt : Nat} {B E k m : Nat} {v : Value} {xs : List Value} {o : Obj} (h : RangesAt w Tryd.prog 29 mp r n G left cnt) (ho : w.ownsRow B E k v m xs)
    (hg : (w.alloc o).grownBy w' v.ownBlock) : RangesAt w' Tryd.prog 29 mp r n G left cnt :=
  RangesAt.row (RangesAt.row h (World.grownBy_alloc w o none) (by simp)) hg (fun g e => by
    obtain ⟨_, cur, hc⟩ := own_lt (ho.alloc o) e
    exact ⟨_, _, _, hc⟩)
theorem below_app {w w' a : World} {B E k m Bw : Nat} {v : Value} {xs : List Value} {o : Obj} (h : Below Bw a w) (hl : Bw ≤ w.heap.size) (ho : w.ownsRow B E k v m xs) (hB : Bw ≤ B) (hg : (w.alloc o).grownBy w' v.ownBlock) : Below Bw a w' :=
  (h.grown (World.grownBy_alloc w o none) hl (by simp)).grown hg (by simp; omega) (fun g e => Nat.le_trans hB (own_lt ho e).1)
theorem undrew {w w' : World} {r : Option Nat} (h : w.drew.grownBy w' r) : w.grownBy w' r := ⟨h.os, h.tape, h.output, h.size, h.block⟩

theorem two_new (w : World) (o1 o2 : Obj) : ((w.alloc o1).alloc o2).heap[w.heap.size]? = some o1 ∧ ((w.alloc o1).alloc o2).heap[w.heap.size + 1]? = some o2 ∧ Below w.heap.size w ((w.alloc o1).alloc o2).drew ∧ ((w.alloc o1).alloc o2).heap.size = w.heap.size + 2 := by
  refine ⟨?_, ?_, ((((Below.refl _ _).alloc (Nat.le_refl _) _).alloc (by simp) _)).drew, by simp⟩
  · exact keep_blk (World.grownBy_alloc (w.alloc o1) o2 none) (by simp) (heap_last w o1)
  · have := heap_last (w.alloc o1) o2
    simpa using this

set_option maxRecDepth 100000 in
set_option maxHeartbeats 8000000 in
theorem keep_st (B s n : Nat) (dc ds fc fs : Int) (mp mr : Option Nat) (W : List Wt) (R : List (Int × Int)) (w : World) (hn : n < 100000) (h : Cs w B s dc ds fc fs mp mr n W R) (hW : Srt (W.map val)) (hR : Srt R) :
    Calls Tryd.prog 22 #[ptr s] w fun e w' => ∃ v1 v2, e = .returned (.agg #[.int .u64 dc, .int .u64 ds, .int .u64 fc, .int .u64 fs, v1, v2]) ∧
      w'.ownsRow w.heap.size 49 3 v1 W.length ((W.map val).flatMap encW) ∧ w'.ownsRow w.heap.size 64 2 v2 R.length (R.flatMap encA) ∧ Below w.heap.size w w' := by
  have d0 : w.cell? ⟨s, 0, none⟩ = some (.int .u64 dc) := cell_heap h.box
  have d1 : w.cell? ⟨s, 1, none⟩ = some (.int .u64 ds) := cell_heap h.box
  have d2 : w.cell? ⟨s, 2, none⟩ = some (.int .u64 fc) := cell_heap h.box
  have d3 : w.cell? ⟨s, 3, none⟩ = some (.int .u64 fs) := cell_heap h.box
  have ls : s < w.heap.size := (Array.getElem?_eq_some_iff.1 h.box).1
  obtain ⟨i0, hi0, hz0, hz1, hz2⟩ := info_parts infoW
  obtain ⟨i1, hj0, hy0', hy1', hy2'⟩ := info_parts infoA
  go_enter Tryd.func22, Tryd.ntmps22
  go_upto_region 1 with fail
  go_cut [3] (fun v wx => v = ptr (w.heap.size + 1) ∧ Hid (wx.heap[w.heap.size]? = some (.cells #[.int .u64 0, .int .u64 0, .int .u64 0, .int .u64 0, .slice none 0 0, .slice none 0 0] 35 (0, 0)) ∧
    wx.heap[w.heap.size + 1]? = some (.cells #[.int .u64 dc, .int .u64 ds, .int .u64 fc, .int .u64 fs, .slice none 0 0, .slice none 0 0] 35 (0, 0)) ∧ Below w.heap.size w wx ∧ wx.heap.size = w.heap.size + 2))
  case first =>
    go_region
    all_goals
      go_wp2_with fail
      go_meet
      case rel => exact ⟨rfl, hid (two_new w _ _)⟩
  case rest =>
    obtain ⟨rfl, hc⟩ := hcut
    clear d0 d1 d2 d3 ls
    have hC := h.later hc.out.2.2.1
    have d4 : wc.cell? ⟨s, 4, none⟩ = some (.map mp) := cell_heap hC.box
    go_wp2_with (first
      | (at_range; refine wpList_range_at _ rfl _ 76 rfl 29 89 under29 Tryd.underlying76 mp n _ rfl hC.pd.pend ?_; intro w2 left cnt hrg hl hg hsz; go_frame))
    have hl' : ∀ x, left (.int .u64 x) = (getL x (W.map val)).isSome := fun x => (hl x).trans (by rw [pendG_get, getW_val, isSome_map, isSome_map])
    have lr : Hid (w.heap.size + 2 = wc.heap.size) := hid hc.out.2.2.2.symm
    have k0 := hid (keep_blk hg (by simp) hc.out.1)
    have k1 := hid (keep_blk hg (by simp) hc.out.2.1)
    have kb := hid (hc.out.2.2.1.grown hg (by have := hc.out.2.2.2; omega) (by simp))
    clear d4 hl hg hsz hC hc
    generalize wc.heap.size = r at *
    have hlen := h.pd.pend.len_le
    rw [pendG_len] at hlen
    have hRl := h.red.len_le
    rw [redG_len] at hRl
    go_loopg [4, 5] cnt (fun gk _ _ wr => ∃ left v1, ∃ S : List (Int × Int × Int), Hid (RangesAt wr Tryd.prog 29 mp r n (pendG W) left gk) ∧ Hid (wr.heap[w.heap.size]? = some (.cells #[.int .u64 0, .int .u64 0, .int .u64 0, .int .u64 0, .slice none 0 0, .slice none 0 0] 35 (0, 0))) ∧
      Hid (wr.heap[w.heap.size + 1]? = some (.cells #[.int .u64 dc, .int .u64 ds, .int .u64 fc, .int .u64 fs, v1, .slice none 0 0] 35 (0, 0))) ∧ Hid (wr.ownsRow (w.heap.size + 2) 49 3 v1 S.length (S.flatMap encW)) ∧ Hid (S.Perm (doneR (W.map val) left)) ∧ Hid (Below w.heap.size w wr))
    case atStart => exact ⟨left, .slice none 0 0, [], hid hrg, k0, k1, hid (World.ownsRow_nil _ _ _ _), hid (by rw [done_start hW hl']), kb⟩
    case round =>
      clear hrg hl' k0 k1 kb
      obtain ⟨left, v1, S, hr, k0, k1, ho, hp, kb⟩ := hrel
      go_wp2_with (first
        | (at_next; refine wpList_next_at _ rfl _ rfl 29 under29 mp r n _ _ _ rfl hr.out ?_ ?_))
      · intro hl0
        have hP := hp.out
        rw [done_end hl0] at hP
        have P1 := hid hP
        have hC := h.later kb.out
        have d5 : wr.cell? ⟨s, 5, none⟩ = some (.map mr) := cell_heap hC.box
        clear hr hp hP
        go_wp2_with (first
          | (at_range; refine wpList_range_at _ rfl _ 77 rfl 29 29 under29 Tryd.underlying77 mr n _ rfl hC.red ?_; intro w5 left5 cnt5 hrg5 hl5 hg5 hsz5; go_frame))
        have hl5' : ∀ x, left5 (.int .u64 x) = (getL x R).isSome := fun x => (hl5 x).trans (by rw [redG_get, isSome_map])
        have q0 := hid (keep_blk hg5 (by simp) k0.out)
        have q1 := hid (keep_blk hg5 (by simp) k1.out)
        have qo : Hid (w5.ownsRow (w.heap.size + 2) 49 3 v1 S.length (S.flatMap encW)) := hid (ho.out.kept hg5 (by cases hb : v1.ownBlock <;> simp))
        have qb := hid (kb.out.grown hg5 (by have := kb.out.size; omega) (by simp))
        have lr2 : Hid (w.heap.size + 2 ≤ wr.heap.size) := hid (Array.getElem?_eq_some_iff.1 k1.out).1
        clear d5 hl5 hg5 hsz5 hC k0 k1 ho kb
        generalize wr.heap.size = r2 at *
        go_loopg [6, 7] cnt5 (fun gk _ _ wr => ∃ left v2, ∃ T : List (Int × Int), Hid (RangesAt wr Tryd.prog 29 mr r2 n (redG R) left gk) ∧ Hid (wr.heap[w.heap.size]? = some (.cells #[.int .u64 0, .int .u64 0, .int .u64 0, .int .u64 0, .slice none 0 0, .slice none 0 0] 35 (0, 0))) ∧
          Hid (wr.heap[w.heap.size + 1]? = some (.cells #[.int .u64 dc, .int .u64 ds, .int .u64 fc, .int .u64 fs, v1, v2] 35 (0, 0))) ∧ Hid (wr.ownsRow (w.heap.size + 2) 49 3 v1 S.length (S.flatMap encW)) ∧ Hid (wr.ownsRow (w.heap.size + 2) 64 2 v2 T.length (T.flatMap encA)) ∧ Hid (T.Perm (doneR R left)) ∧ Hid (Below w.heap.size w wr))
        case atStart => exact ⟨left5, .slice none 0 0, [], hid hrg5, q0, q1, qo, hid (World.ownsRow_nil _ _ _ _), hid (by rw [done_start hR hl5']), qb⟩
        case round =>
          clear hrg5 hl5' q0 q1 qo qb
          obtain ⟨left6, v2, T, hr, k0, k1, ho, ho2, hp, kb⟩ := hrel
          go_wp2_with (first
            | (at_next; refine wpList_next_at _ rfl _ rfl 29 under29 mr r2 n _ _ _ rfl hr.out ?_ ?_))
          · intro hl0
            have hP2 := hp.out
            rw [done_end hl0] at hP2
            have P2 := hid hP2
            have c4 : wr.cell? ⟨w.heap.size + 1, 4, none⟩ = some v1 := cell_heap k1.out
            have hSn : S.length = W.length := by rw [P1.out.length_eq, List.length_map]
            have hTn : T.length = R.length := P2.out.length_eq
            have nq : ∀ {v : Value} {E k m : Nat} {xs : List Value} {w' : World}, w'.ownsRow (w.heap.size + 2) E k v m xs → ∀ g, v.ownBlock = some g → w.heap.size + 2 ≤ g := fun h1 g e1 => (own_lt h1 e1).1
            clear hr hp hP2
            go_wp2_with fail
            refine (sortW_row (w.heap.size + 1) S.length (w.heap.size + 2) v1 (W.map val) S wr rfl (by omega) ho.out hW (fun p => P1.out.mem_iff) ((P1.out.map (·.1)).nodup_iff.2 hW.nodup) c4 (fun g e1 => by have := nq ho.out g e1; omega)).mono ?_
            rintro e w7 ⟨rfl, o7, g7⟩
            have n1 : some (w.heap.size + 1) ≠ v1.ownBlock := fun e1 => by have := nq ho.out _ e1.symm; omega
            have n0 : some w.heap.size ≠ v1.ownBlock := fun e1 => by have := nq ho.out _ e1.symm; omega
            have K1 := hid (keep_blk g7 n1 k1.out)
            have K0 := hid (keep_blk g7 n0 k0.out)
            have O2 : Hid (w7.ownsRow (w.heap.size + 2) 64 2 v2 T.length (T.flatMap encA)) := hid (ho2.out.kept g7 (by
              cases hb : v2.ownBlock with
              | none => exact Or.inl rfl
              | some g =>
                refine Or.inr fun e1 => ?_
                obtain ⟨_, cur, h1⟩ := own_lt ho2.out hb
                obtain ⟨_, cur', h2⟩ := own_lt ho.out e1.symm
                rw [h1] at h2
                cases h2))
            have O1 := hid o7
            have B7 := hid (kb.out.grown g7 (by have := kb.out.size; omega) (fun g e1 => by have := nq ho.out g e1; omega))
            have c5 : w7.cell? ⟨w.heap.size + 1, 5, none⟩ = some v2 := cell_heap K1.out
            clear o7 g7 n1 n0 c4 k1 k0 ho ho2 kb
            go_wp2_with fail
            refine (sortA_row (w.heap.size + 1) T.length (w.heap.size + 2) v2 R T w7 rfl (by omega) O2.out hR (fun p => P2.out.mem_iff) ((P2.out.map (·.1)).nodup_iff.2 hR.nodup) c5 (fun g e1 => by have := nq O2.out g e1; omega)).mono ?_
            rintro e w8 ⟨rfl, o8, g8⟩
            have n1 : some (w.heap.size + 1) ≠ v2.ownBlock := fun e1 => by have := nq O2.out _ e1.symm; omega
            have n0 : some w.heap.size ≠ v2.ownBlock := fun e1 => by have := nq O2.out _ e1.symm; omega
            have L1 := hid (keep_blk g8 n1 K1.out)
            have L0 := hid (keep_blk g8 n0 K0.out)
            have Q1 : Hid (w8.ownsRow (w.heap.size + 2) 49 3 v1 S.length ((W.map val).flatMap encW)) := hid (O1.out.kept g8 (by
              cases hb : v1.ownBlock with
              | none => exact Or.inl rfl
              | some g =>
                refine Or.inr fun e1 => ?_
                obtain ⟨_, cur, h1⟩ := own_lt O1.out hb
                obtain ⟨_, cur', h2⟩ := own_lt O2.out e1.symm
                rw [h1] at h2
                cases h2))
            have Q2 := hid o8
            have B8 := hid (B7.out.grown g8 (by have := B7.out.size; omega) (fun g e1 => by have := nq O2.out g e1; omega))
            have a0 : w8.cell? ⟨w.heap.size + 1, 0, none⟩ = some (.int .u64 dc) := cell_heap L1.out
            have a1 : w8.cell? ⟨w.heap.size + 1, 1, none⟩ = some (.int .u64 ds) := cell_heap L1.out
            have a2 : w8.cell? ⟨w.heap.size + 1, 2, none⟩ = some (.int .u64 fc) := cell_heap L1.out
            have a3 : w8.cell? ⟨w.heap.size + 1, 3, none⟩ = some (.int .u64 fs) := cell_heap L1.out
            have a4 : w8.cell? ⟨w.heap.size + 1, 4, none⟩ = some v1 := cell_heap L1.out
            have a5 : w8.cell? ⟨w.heap.size + 1, 5, none⟩ = some v2 := cell_heap L1.out
            have b0 : w8.cell? ⟨w.heap.size, 0, none⟩ = some (.int .u64 0) := cell_heap L0.out
            have b1 : w8.cell? ⟨w.heap.size, 1, none⟩ = some (.int .u64 0) := cell_heap L0.out
            have b2 : w8.cell? ⟨w.heap.size, 2, none⟩ = some (.int .u64 0) := cell_heap L0.out
            have b3 : w8.cell? ⟨w.heap.size, 3, none⟩ = some (.int .u64 0) := cell_heap L0.out
            have b4 : w8.cell? ⟨w.heap.size, 4, none⟩ = some (.slice none 0 0) := cell_heap L0.out
            have b5 : w8.cell? ⟨w.heap.size, 5, none⟩ = some (.slice none 0 0) := cell_heap L0.out
            have bf := frozen_heap L0.out
            clear o8 g8 n1 n0 c5 K1 K0 O1 O2
            obtain ⟨A1, m1, k1, rfl⟩ := own_shape Q1.out
            obtain ⟨A2, m2, k2, rfl⟩ := own_shape Q2.out
            go_wp2_with fail
            have hF := heap_setCell (i := 5) (v := .slice A2 m2 k2) (heap_setCell (i := 4) (v := .slice A1 m1 k1) (heap_setCell (i := 3) (v := .int .u64 fs) (heap_setCell (i := 2) (v := .int .u64 fc) (heap_setCell (i := 1) (v := .int .u64 ds) (heap_setCell (i := 0) (v := .int .u64 dc) L0.out)))))
            have GF := grown_setCell w8 w.heap.size 0 (.int .u64 dc)
            have B9 : Below w.heap.size w _ := (((((B8.out.setCell (p := ⟨w.heap.size, 0, none⟩) (Nat.le_refl _) (.int .u64 dc)).setCell (p := ⟨w.heap.size, 1, none⟩) (Nat.le_refl _) (.int .u64 ds)).setCell (p := ⟨w.heap.size, 2, none⟩) (Nat.le_refl _) (.int .u64 fc)).setCell (p := ⟨w.heap.size, 3, none⟩) (Nat.le_refl _) (.int .u64 fs)).setCell (p := ⟨w.heap.size, 4, none⟩) (Nat.le_refl _) (.slice A1 m1 k1)).setCell (p := ⟨w.heap.size, 5, none⟩) (Nat.le_refl _) (.slice A2 m2 k2)
            have own_set : ∀ {w' : World} {E k m : Nat} {v u : Value} {xs : List Value} {i : Nat}, w'.ownsRow (w.heap.size + 2) E k v m xs → (w'.setCell ⟨w.heap.size, i, none⟩ u).ownsRow (w.heap.size + 2) E k v m xs := fun h1 => h1.kept (grown_setCell _ _ _ _) (by
              cases hb : Value.ownBlock _ with
              | none => exact Or.inl rfl
              | some g => exact Or.inr (fun e1 => by have := nq h1 g hb; cases e1; omega))
            have R1 := own_set (i := 5) (u := .slice A2 m2 k2) (own_set (i := 4) (u := .slice A1 m1 k1) (own_set (i := 3) (u := .int .u64 fs) (own_set (i := 2) (u := .int .u64 fc) (own_set (i := 1) (u := .int .u64 ds) (own_set (i := 0) (u := .int .u64 dc) Q1.out)))))
            have R2 := own_set (i := 5) (u := .slice A2 m2 k2) (own_set (i := 4) (u := .slice A1 m1 k1) (own_set (i := 3) (u := .int .u64 fs) (own_set (i := 2) (u := .int .u64 fc) (own_set (i := 1) (u := .int .u64 ds) (own_set (i := 0) (u := .int .u64 dc) Q2.out)))))
            clear a0 a1 a2 a3 a4 a5 b0 b1 b2 b3 b4 b5 bf
            generalize (((((w8.setCell ⟨w.heap.size, 0, none⟩ (.int .u64 dc)).setCell ⟨w.heap.size, 1, none⟩ (.int .u64 ds)).setCell ⟨w.heap.size, 2, none⟩ (.int .u64 fc)).setCell ⟨w.heap.size, 3, none⟩ (.int .u64 fs)).setCell ⟨w.heap.size, 4, none⟩ (.slice A1 m1 k1)).setCell ⟨w.heap.size, 5, none⟩ (.slice A2 m2 k2) = wF at *
            have b0 : wF.cell? ⟨w.heap.size, 0, none⟩ = some (.int .u64 dc) := cell_heap hF
            have b1 : wF.cell? ⟨w.heap.size, 1, none⟩ = some (.int .u64 ds) := cell_heap hF
            have b2 : wF.cell? ⟨w.heap.size, 2, none⟩ = some (.int .u64 fc) := cell_heap hF
            have b3 : wF.cell? ⟨w.heap.size, 3, none⟩ = some (.int .u64 fs) := cell_heap hF
            have b4 : wF.cell? ⟨w.heap.size, 4, none⟩ = some (.slice A1 m1 k1) := cell_heap hF
            have b5 : wF.cell? ⟨w.heap.size, 5, none⟩ = some (.slice A2 m2 k2) := cell_heap hF
            have hr : Tryd.f22.results = #[.cell 2 35] := rfl
            refine bodyPost_ret (v := .agg #[.int .u64 dc, .int .u64 ds, .int .u64 fc, .int .u64 fs, .slice A1 m1 k1, .slice A2 m2 k2]) ?_ rfl ?_
            · simp only [results, hr, loadVar]
              go_simp
            · rw [hSn] at R1
              rw [hTn] at R2
              exact ⟨_, _, rfl, own_base R1 (by omega), own_base R2 (by omega), B9⟩
          · intro y v w6 left7 cnt7 hy0 hy1 hly hgy hrg3 hl3 hlt hg3 hs3 hen
            obtain ⟨u, hu⟩ : ∃ u, getL y R = some u := by
              rw [redG_get] at hgy
              cases hq : getL y R with
              | none => rw [hq] at hgy; cases hgy
              | some u => exact ⟨u, rfl⟩
            obtain rfl : v = .int .u64 u := by
              rw [redG_get, hu] at hgy
              exact (Option.some.inj hgy).symm
            obtain ⟨im, is, iq, ic, hit⟩ := hr.out.iter
            have nr : ∀ {k cs t f}, wr.heap[k]? = some (.cells cs t f) → some k ≠ some r2 := fun hk e => by
              cases e
              rw [hit] at hk
              cases hk
            have B3 := hid (kb.out.grown hg3 (by have := kb.out.size; omega) (by intro k hk; cases hk; have := lr2.out; omega))
            have K0 := hid (keep_blk hg3 (nr k0.out) k0.out)
            have K1 := hid (keep_blk hg3 (nr k1.out) k1.out)
            have O1 : Hid (w6.ownsRow (w.heap.size + 2) 49 3 v1 S.length (S.flatMap encW)) := hid (ho.out.kept hg3 (Or.inr fun e1 => by
              obtain ⟨_, cur, hcur⟩ := own_lt ho.out e1
              exact nr hcur rfl))
            have O2 : Hid (w6.ownsRow (w.heap.size + 2) 64 2 v2 T.length (T.flatMap encA)) := hid (ho2.out.kept hg3 (Or.inr fun e1 => by
              obtain ⟨_, cur, hcur⟩ := own_lt ho2.out e1
              exact nr hcur rfl))
            have c5 : w6.cell? ⟨w.heap.size + 1, 5, none⟩ = some v2 := cell_heap K1.out
            have f5 := frozen_heap K1.out 5
            have lq : w.heap.size + 1 < w6.heap.size := (Array.getElem?_eq_some_iff.1 K1.out).1
            have hTl : T.length ≤ n := by
              have h1 := hp.out.length_eq
              have h2 := List.length_filter_le (fun p : Int × Int => !left6 (.int .u64 p.1)) R
              unfold doneR at h1
              omega
            have hP3 := hid (done_perm hR hl3 hu hly hp.out)
            have nv2 : ∀ {g}, v2.ownBlock = some g → w.heap.size + 2 ≤ g := fun e1 => (own_lt O2.out e1).1
            have nv : some (w.heap.size + 1) ≠ v2.ownBlock := fun e1 => by have := nv2 e1.symm; omega
            have nv0 : some w.heap.size ≠ v2.ownBlock := fun e1 => by have := nv2 e1.symm; omega
            have nv1 : v1.ownBlock = none ∨ v1.ownBlock ≠ v2.ownBlock := by
              cases hb : v1.ownBlock with
              | none => exact Or.inl rfl
              | some g =>
                refine Or.inr fun e1 => ?_
                obtain ⟨_, cur, h1⟩ := own_lt O1.out hb
                obtain ⟨_, cur', h2⟩ := own_lt O2.out e1.symm
                rw [h1] at h2
                cases h2
            have nw := hid (heap_last w6 (.cells #[.int .u64 y, .int .u64 u] 64))
            have G4 := hid (World.grownBy_alloc w6 (.cells #[.int .u64 y, .int .u64 u] 64) none)
            have KA1 := hid (keep_blk G4.out (by simp) K1.out)
            have KA0 := hid (keep_blk G4.out (by simp) K0.out)
            have R3 := hid hrg3
            clear hr ho ho2 hp k0 k1 kb hly hit nr hrg3 hu hl3 hg3 hgy hs3
            go_wp2_with (at_builtin; refine wpList_append_lies _ rfl (.tmp 67) (.tmp 71) 33 rfl (w.heap.size + 2) 64 i1 _ 2 16 Tryd.underlying33 hj0 hy0' hy1' hy2' rfl (by omega) v2 T.length (T.flatMap encA) rfl (O2.out.alloc _) ⟨w6.heap.size, 0, none⟩ 1 1 [.int .u64 y, .int .u64 u] rfl rfl (World.news_of_block (cs := #[.int .u64 y, .int .u64 u]) (t := 64) (fr := (0, 0)) nw.out) (by simp [Value.oneCell']) (by omega) (by unfold maxLen; omega) (by omega) (by simp <;> omega) (w6.heap.size + 1) (by simp) ?_; intro gg cap w4 hown1 hgrow hat hlt1; have B1 := hid (keep_blk hgrow nv KA1.out); have c6 : w4.cell? ⟨w.heap.size + 1, 5, none⟩ = some v2 := cell_heap B1.out; have f6 : w4.frozen? ⟨w.heap.size + 1, 5, none⟩ = false := frozen_heap B1.out 5; have OW := hid hown1; have GR := hid hgrow; clear hown1 hgrow hat)
            go_roundg cnt7
            case measure => omega
            case rel =>
              have ng : ∀ {g}, some g = some gg → w.heap.size + 2 ≤ g := fun {g} e1 => by
                have h1 := (own_lt OW.out rfl).1
                have h2 := Option.some.inj e1
                simp only at h1
                omega
              have hB0 := keep_blk GR.out nv0 KA0.out
              have GS := grown_setCell w4 (w.heap.size + 1) 5 (.slice (some ⟨gg, 0, none⟩) (T.length + 1) cap)
              have O1b := ((O1.out.alloc (.cells #[.int .u64 y, .int .u64 u] 64)).kept GR.out nv1)
              refine ⟨left7, .slice (some ⟨gg, 0, none⟩) (T.length + 1) cap, T ++ [(y, u)], ?_, ?_, ?_, ?_, ?_, hP3, ?_⟩
              · exact hid (RangesAt.row (RangesAt.app R3.out O2.out GR.out) GS (fun g e1 => by cases e1; exact ⟨_, _, _, B1.out⟩))
              · exact hid (keep_blk GS (by simp) hB0)
              · exact hid (heap_setCell B1.out)
              · exact hid (O1b.kept GS (by
                  cases hb : v1.ownBlock with
                  | none => exact Or.inl rfl
                  | some g => exact Or.inr (fun e1 => by have h1 := (own_lt O1.out hb).1; have h2 := Option.some.inj e1; omega)))
              · have := (OW.out).kept GS (Or.inr (fun e1 => by have h1 := ng (g := w.heap.size + 1) (by simpa [Value.ownBlock] using e1.symm); omega))
                rw [List.flatMap_append, List.length_append]
                exact hid this
              · exact hid ((below_app B3.out (by omega) O2.out (by omega) GR.out).setCell (by show w.heap.size ≤ w.heap.size + 1; omega) _)
      · intro y v w3 left' cnt' hy0 hy1 hly hgy hrg3 hl3 hlt hg3 hs3 hen
        obtain ⟨e, he⟩ : ∃ e, getW y W = some e := by
          rw [pendG_get] at hgy
          cases hq : getW y W with
          | none => rw [hq] at hgy; cases hgy
          | some u => exact ⟨u, rfl⟩
        obtain rfl : v = ptr e.b := by
          rw [pendG_get, he] at hgy
          exact (Option.some.inj hgy).symm
        obtain ⟨hmem, hes⟩ := getW_mem he
        clear hgy hs3
        obtain ⟨im, is, iq, ic, hit⟩ := hr.out.iter
        have nr : ∀ {k cs t f}, wr.heap[k]? = some (.cells cs t f) → some k ≠ some r := fun hk e => by
          cases e
          rw [hit] at hk
          cases hk
        have B3 := hid (kb.out.grown hg3 (by have := hr.out.lt; have := lr.out; omega) (by intro k hk; cases hk; have := lr.out; omega))
        have K0 := hid (keep_blk hg3 (nr k0.out) k0.out)
        have K1 := hid (keep_blk hg3 (nr k1.out) k1.out)
        have O3 : Hid (w3.ownsRow (w.heap.size + 2) 49 3 v1 S.length (S.flatMap encW)) := hid (ho.out.kept hg3 (Or.inr fun e1 => by
          obtain ⟨_, cur, hcur⟩ := own_lt ho.out e1
          exact nr hcur rfl))
        have E3 : El w3 e := (B3.out.block e.b (h.pd.els e hmem).lt).trans (h.pd.els e hmem)
        have d0 : w3.cell? ⟨e.b, 0, none⟩ = some (.int .u64 e.c) := cell_heap E3
        have d1 : w3.cell? ⟨e.b, 1, none⟩ = some (.int .i64 e.t) := cell_heap E3
        have c4 : w3.cell? ⟨w.heap.size + 1, 4, none⟩ = some v1 := cell_heap K1.out
        have f4 := frozen_heap K1.out 4
        have lq : w.heap.size + 1 < w3.heap.size := (Array.getElem?_eq_some_iff.1 K1.out).1
        have le := E3.lt
        have hSl : S.length ≤ n := by
          have h1 := hp.out.length_eq
          have h2 := List.length_filter_le (fun p : Int × Int × Int => !left (.int .u64 p.1)) (W.map val)
          rw [List.length_map] at h2
          unfold doneR at h1
          omega
        have hgv : getL y (W.map val) = some (e.c, e.t) := by rw [getW_val, he]; rfl
        have hP3 := hid (done_perm hW hl3 hgv hly hp.out)
        have nv : some (w.heap.size + 1) ≠ v1.ownBlock := fun e1 => by
          have := (own_lt O3.out e1.symm).1
          omega
        have nv0 : some w.heap.size ≠ v1.ownBlock := fun e1 => by
          have := (own_lt O3.out e1.symm).1
          omega
        have nw := hid (heap_last w3 (.cells #[.int .u64 y, .int .u64 e.c, .int .i64 e.t] 49))
        have G4 := hid (World.grownBy_alloc w3 (.cells #[.int .u64 y, .int .u64 e.c, .int .i64 e.t] 49) none)
        have KA1 := hid (keep_blk G4.out (by simp) K1.out)
        have R3 := hid hrg3
        have HW := hid hW
        clear hr ho hp k0 k1 kb hly hit nr hrg3 hgv he hes hl3 hg3 hmem E3 hlen
        go_upto_region 5 with fail
        clear hen
        go_region_law ((refine step_append_lies _ (by rfl) _ _ _ (by rfl) (w.heap.size + 2) 49 i0 _ 3 24 Tryd.underlying32 hi0 hz0 hz1 hz2 rfl (by omega) v1 S.length (S.flatMap encW) (by rfl) ((O3.out.alloc _).drew) ⟨w3.heap.size, 0, none⟩ 1 1 [.int .u64 y, .int .u64 e.c, .int .i64 e.t] (by rfl) (by rfl) (World.news_of_block (cs := #[.int .u64 y, .int .u64 e.c, .int .i64 e.t]) (t := 49) (fr := (0, 0)) nw.out) (by simp [Value.oneCell']) (by omega) (by unfold maxLen; omega) (by omega) (by simp <;> omega) (w3.heap.size + 1) (by simp) ?_; intro gg cap w4 hown1 hgrow hat hlt1; have B1 := hid (keep_blk hgrow nv KA1.out); have c5 : w4.cell? ⟨w.heap.size + 1, 4, none⟩ = some v1 := cell_heap B1.out; have f5 : w4.frozen? ⟨w.heap.size + 1, 4, none⟩ = false := frozen_heap B1.out 4; have OW := hid hown1; have GR := hid hgrow; clear hown1 hgrow hat))
        all_goals
          go_wp2_with fail
          go_roundg cnt'
          case measure => omega
          case rel =>
            have GR' := undrew GR.out
            have ng : some gg ≠ some (w.heap.size + 1) := fun e1 => by
              have h1 := (own_lt OW.out rfl).1
              have h2 := Option.some.inj e1
              simp only at h1
              omega
            have hB0 := keep_blk GR' nv0 (keep_blk G4.out (by simp) K0.out)
            have GS := grown_setCell w4 (w.heap.size + 1) 4 (.slice (some ⟨gg, 0, none⟩) (S.length + 1) cap)
            refine ⟨left', .slice (some ⟨gg, 0, none⟩) (S.length + 1) cap, S ++ [(y, e.c, e.t)], ?_, ?_, ?_, ?_, hP3, ?_⟩
            · exact hid (RangesAt.row (RangesAt.app R3.out O3.out GR') GS (fun g e1 => by cases e1; exact ⟨_, _, _, B1.out⟩))
            · exact hid (keep_blk GS (by simp) hB0)
            · exact hid (heap_setCell B1.out)
            · have := (OW.out).kept GS (Or.inr (by simpa [Value.ownBlock] using ng))
              rw [List.flatMap_append, List.length_append]
              exact hid this
            · exact hid ((below_app B3.out (by omega) O3.out (by omega) GR').setCell (by show w.heap.size ≤ w.heap.size + 1; omega) _)
end Go.Proofs.YtpbhblppehkifaaDoor
