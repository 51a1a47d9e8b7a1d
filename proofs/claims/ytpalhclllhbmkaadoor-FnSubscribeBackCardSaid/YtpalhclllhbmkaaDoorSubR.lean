/- The plain law of FnSubscribeBack: what is written is read again. -/
import Derived.Test.YtpalhclllhbmkaaDoorPXBx3
namespace Go.Proofs.YtpalhclllhbmkaaDoor.PXB
open Go.RowKit Go.Proofs.YtpalhclllhbmkaaDoorW.PrintWords Go.Proofs.YtpalhclllhbmkaaDoorW.PrintLast
set_option linter.unusedVariables false
set_option linter.unusedSimpArgs false

theorem bt8 (s : ByteArray) (i : Nat) : bt s (i : Int) = (by8 s i : Int) := by
  unfold bt by8
  by_cases h : i < s.size
  · simp [h]
  · simp [h]
theorem wsucc (i : Nat) (h : i < 4611686018427387904) : wrap64 ((i : Int) + 1) = ((i + 1 : Nat) : Int) := by unfold wrap64; omega

theorem topic1_of {s : ByteArray} {p : Nat} (h : p + 2 + tlen s p ≤ s.size) (hg : Good true (s.extract (p + 2) (p + 2 + tlen s p))) : Topic1 s p := by
  have sz := size_extract s (p + 2) (p + 2 + tlen s p) h
  refine ⟨by have := hg.1; omega, h, fun i h1 h3 => ?_⟩
  have := hg.2 (i - (p + 2)) (by omega)
  rw [by8_extract _ _ _ _ h (by omega), show p + 2 + (i - (p + 2)) = i by omega] at this
  exact plain1_of _ _ this

theorem by8_left (a b : ByteArray) (i : Nat) (h : i < a.size) : by8 (a ++ b) i = by8 a i := by
  have h2 : i < (a ++ b).size := by rw [ByteArray.size_append]; omega
  unfold by8
  rw [dif_pos h, dif_pos h2, ByteArray.getElem_append_left h]
theorem by8_right (a b : ByteArray) (i : Nat) : by8 (a ++ b) (a.size + i) = by8 b i := by
  unfold by8
  by_cases h : i < b.size
  · have h2 : a.size + i < (a ++ b).size := by rw [ByteArray.size_append]; omega
    rw [dif_pos h, dif_pos h2, ByteArray.getElem_append_right (by omega)]
    simp
  · have h2 : ¬ a.size + i < (a ++ b).size := by rw [ByteArray.size_append]; omega
    rw [dif_neg h, dif_neg h2]
theorem by8_nums (l : List Int) (i : Nat) (h : i < l.length) (h0 : 0 ≤ l[i]) (h1 : l[i] ≤ 255) : by8 (strOfNums l) i = l[i].toNat := by
  have h2 : i < (strOfNums l).size := by rw [strOfNums_size]; exact h
  unfold by8
  rw [dif_pos h2]
  have : (strOfNums l)[i] = UInt8.ofNat l[i].toNat := by
    show (strOfNums l).data[i] = _
    simp [strOfNums]
  rw [this]
  simp
  omega
theorem extract_mid (a b c : ByteArray) (p n : Nat) (hp : p = a.size) (hn : n = b.size) : (a ++ (b ++ c)).extract p (p + n) = b := by
  subst hp hn
  apply ByteArray.ext
  apply Array.ext'
  rw [ByteArray.data_extract, Array.toList_extract, ByteArray.data_append, Array.toList_append, ByteArray.data_append, Array.toList_append]
  have e1 : a.size = a.data.toList.length := by simp
  have e2 : b.size = b.data.toList.length := by simp
  rw [List.extract_eq_take_drop, e1, List.drop_left, e2, Nat.add_sub_cancel_left, List.take_left]

/-- Two bytes of length. -/
def two (n : Nat) : ByteArray := strOfNums [((n : Int) / 256) % 256, (n : Int) % 256]
theorem two_size (n : Nat) : (two n).size = 2 := by unfold two; rw [strOfNums_size]; rfl
theorem tlen_two (n : Nat) (hn : n < 65536) (a b : ByteArray) : tlen (a ++ (two n ++ b)) a.size = n := by
  unfold tlen
  have e0 := by8_right a (two n ++ b) 0
  have e1 := by8_right a (two n ++ b) 1
  rw [Nat.add_zero] at e0
  rw [e0, e1, by8_left _ _ _ (by rw [two_size]; omega), by8_left _ _ _ (by rw [two_size]; omega)]
  unfold two
  rw [by8_nums _ 0 (by simp) (by simp; omega) (by simp; omega), by8_nums _ 1 (by simp) (by simp; omega) (by simp; omega)]
  simp
  omega

/-- A filter, written. -/
def tailE (sub : Bool) (x : S44) : ByteArray := if sub = true then strOfNums [x.f1] else ⟨#[]⟩
def enc (sub : Bool) (x : S44) : ByteArray := two x.f0.size ++ (x.f0 ++ tailE sub x)
def encs (sub : Bool) : List S44 → ByteArray
  | [] => ⟨#[]⟩
  | x :: l => enc sub x ++ encs sub l
def OkF (sub : Bool) (x : S44) : Prop := x.f0.size ≤ 60 ∧ Good true x.f0 ∧ 0 ≤ x.f1 ∧ x.f1 ≤ 2 ∧ (sub = false → x.f1 = 0)
theorem tailE_size (sub : Bool) (x : S44) : (tailE sub x).size = if sub = true then 1 else 0 := by
  unfold tailE; split
  · rw [strOfNums_size]; rfl
  · rfl
theorem enc_size (sub : Bool) (x : S44) : (enc sub x).size = 2 + x.f0.size + if sub = true then 1 else 0 := by
  unfold enc; rw [ByteArray.size_append, ByteArray.size_append, two_size, tailE_size]; omega
theorem encs_snoc (sub : Bool) (l : List S44) (x : S44) : encs sub (l ++ [x]) = encs sub l ++ enc sub x := by
  induction l with
  | nil => simp only [List.nil_append, encs]; rw [show (⟨#[]⟩ : ByteArray) = ByteArray.empty from rfl, ByteArray.append_empty, ByteArray.empty_append]
  | cons y l ih => simp only [List.cons_append, encs, ih, ByteArray.append_assoc]
theorem encs_size (sub : Bool) (l : List S44) (h : ∀ x ∈ l, x.f0.size ≤ 60) : (encs sub l).size ≤ l.length * 63 := by
  induction l with
  | nil => exact Nat.zero_le _
  | cons x l ih =>
    have h1 := h x (by simp)
    have h2 := ih fun y hy => h y (by simp [hy])
    have h3 := enc_size sub x
    simp only [encs, ByteArray.size_append, List.length_cons]
    split at h3 <;> omega

/-- What is written is read. -/
theorem scan_encs (sub : Bool) : ∀ (l : List S44), (∀ x ∈ l, OkF sub x) → ∀ pre : ByteArray, ∃ fl, Scan (pre ++ encs sub l) sub pre.size (some fl) ∧ fl.map (fromF (pre ++ encs sub l)) = l
  | [], _, pre => by
    refine ⟨[], Scan.done _ ?_, rfl⟩
    simp only [encs]
    rw [show (⟨#[]⟩ : ByteArray) = ByteArray.empty from rfl, ByteArray.append_empty]
    exact Nat.le_refl _
  | x :: l, h, pre => by
    obtain ⟨h60, hg, hq0, hq2, hqs⟩ := h x (by simp)
    obtain ⟨fl, hsc, hm⟩ := scan_encs sub l (fun y hy => h y (by simp [hy])) (pre ++ enc sub x)
    have es : pre ++ enc sub x ++ encs sub l = pre ++ encs sub (x :: l) := by simp only [encs, ByteArray.append_assoc]
    rw [es] at hsc hm
    have e1 : pre ++ encs sub (x :: l) = pre ++ (two x.f0.size ++ (x.f0 ++ (tailE sub x ++ encs sub l))) := by simp only [encs, enc, ByteArray.append_assoc]
    have ht : tlen (pre ++ encs sub (x :: l)) pre.size = x.f0.size := by rw [e1]; exact tlen_two _ (by omega) _ _
    have hx : (pre ++ encs sub (x :: l)).extract (pre.size + 2) (pre.size + 2 + x.f0.size) = x.f0 := by
      rw [e1, ← ByteArray.append_assoc]
      exact extract_mid (pre ++ two x.f0.size) x.f0 _ _ _ (by rw [ByteArray.size_append, two_size]) rfl
    have hsize : (pre ++ encs sub (x :: l)).size = pre.size + 2 + x.f0.size + (tailE sub x).size + (encs sub l).size := by
      rw [e1]; simp only [ByteArray.size_append, two_size]; omega
    have hT : Topic1 (pre ++ encs sub (x :: l)) pre.size := topic1_of (by rw [ht]; omega) (by rw [ht, hx]; exact hg)
    have hps : (pre ++ enc sub x).size = pre.size + 2 + x.f0.size + if sub = true then 1 else 0 := by rw [ByteArray.size_append, enc_size]; omega
    cases sub with
    | true =>
      have hb : by8 (pre ++ encs true (x :: l)) (pre.size + 2 + x.f0.size) = x.f1.toNat := by
        have e2 : pre ++ encs true (x :: l) = (pre ++ two x.f0.size ++ x.f0) ++ (tailE true x ++ encs true l) := by rw [e1]; simp only [ByteArray.append_assoc]
        have e3 : pre.size + 2 + x.f0.size = (pre ++ two x.f0.size ++ x.f0).size + 0 := by simp only [ByteArray.size_append, two_size]; omega
        rw [e2, e3, by8_right, by8_left _ _ _ (by rw [tailE_size]; simp)]
        unfold tailE
        rw [if_pos rfl, by8_nums _ 0 (by simp) (by simpa using hq0) (by simp; omega)]
        rfl
      have htl : (tailE true x).size = 1 := by rw [tailE_size]; rfl
      rw [if_pos rfl] at hps
      rw [hps] at hsc
      have := Scan.qos (sub := true) pre.size (some fl) rfl hT (by rw [ht]; omega) (by rw [ht, hb]; omega) (by rw [ht]; exact hsc)
      rw [ht, hb] at this
      refine ⟨_, this, ?_⟩
      simp only [List.map_cons, hm]
      congr 1
      show (⟨(pre ++ encs true (x :: l)).extract (pre.size + 2) (pre.size + 2 + x.f0.size), ((x.f1.toNat : Nat) : Int)⟩ : S44) = x
      rw [hx]
      cases x
      simp at hq0 ⊢
      omega
    | false =>
      have htl : (tailE false x).size = 0 := by rw [tailE_size]; rfl
      rw [if_neg (by simp), Nat.add_zero] at hps
      rw [hps] at hsc
      have := Scan.plain (sub := false) pre.size (some fl) rfl hT (by rw [ht]; exact hsc)
      rw [ht] at this
      refine ⟨_, this, ?_⟩
      simp only [List.map_cons, hm]
      congr 1
      show (⟨(pre ++ encs false (x :: l)).extract (pre.size + 2) (pre.size + 2 + x.f0.size), ((0 : Nat) : Int)⟩ : S44) = x
      rw [hx]
      have := hqs rfl
      cases x
      simp at this ⊢
      omega

/-- The whole packet. -/
theorem read_back (sub : Bool) (id : Nat) (hid : 0 < id ∧ id < 65536) (l : List S44) (hl : 0 < l.length ∧ l.length ≤ 6) (h : ∀ x ∈ l, OkF sub x) : impl_ReadSubscribe.f (two id ++ encs sub l) sub = some ((id : Int), l, true) := by
  obtain ⟨fl, hsc, hm⟩ := scan_encs sub l h (two id)
  have hsz := encs_size sub l fun x hx => (h x hx).1
  have ht : tlen (two id ++ encs sub l) 0 = id := by
    have := tlen_two id hid.2 ⟨#[]⟩ (encs sub l)
    rw [show (⟨#[]⟩ : ByteArray) = ByteArray.empty from rfl, ByteArray.empty_append] at this
    exact this
  have h2 : (two id ++ encs sub l).size = 2 + (encs sub l).size := by rw [ByteArray.size_append, two_size]
  rw [two_size] at hsc
  have hfl : fl.length = l.length := by have := congrArg List.length hm; simpa using this
  have hto : Told (two id ++ encs sub l) sub (some (id, fl)) := by
    refine Or.inr (Or.inr ⟨by omega, by omega, some fl, hsc, ?_⟩)
    cases fl with
    | nil => simp at hfl; omega
    | cons y fl => rw [ht]
  rw [readSubscribe_known (o := some (id, fl)) ⟨by omega, fun _ => by omega, hto⟩]
  simp only [asTold, hm]

theorem getT (xs : List S44) (i : Nat) (h : i < xs.length) : rd_T44 xs (i : Int) = xs[i] := by simp [rd_T44, List.getD, h]

theorem zz15 (l : List S44) : ∃ r, Ev (fun k => laws_zzFits15.f k l) r := by
  unfold laws_zzFits15.f
  by_cases h : (l.length : Int) > 2147483647
  · exact ⟨false, Ev.congr (f := fun _ => some false) (fun k => by rw [if_pos h]) (Ev.now _)⟩
  · have key : ∀ d i, l.length - i = d → i ≤ l.length → ∃ r, Ev (fun k => laws_zzFits15.l0 k l (l.length : Int) (i : Int)) r := by
      intro d
      induction d with
      | zero =>
        intro i hd hi
        refine ⟨true, Ev.step (f := fun _ => some true) (fun k => ?_) (Ev.now _)⟩
        simp only [laws_zzFits15.l0]
        rw [if_neg (by omega)]
      | succ d ih =>
        intro i hd hi
        obtain ⟨r, hr⟩ := ih (i + 1) (by omega) (by omega)
        by_cases hz : ((rd_T44 l (i : Int)).f0.size : Int) > 2147483647
        · refine ⟨false, Ev.step (f := fun _ => some false) (fun k => ?_) (Ev.now _)⟩
          simp only [laws_zzFits15.l0, laws_zzFits16.f]
          rw [if_pos (by omega), if_pos (by omega), if_pos (by omega), if_pos hz]
          rfl
        · refine ⟨r, Ev.step (fun k => ?_) hr⟩
          simp only [laws_zzFits15.l0, laws_zzFits16.f]
          rw [if_pos (by omega), if_pos (by omega), if_pos (by omega), if_neg hz, wsucc i (by omega)]
          rfl
    obtain ⟨r, hr⟩ := key l.length 0 rfl (Nat.zero_le _)
    exact ⟨r, Ev.congr (fun k => by rw [if_neg h]; rfl) hr⟩

theorem back_law (id : Nat) (hid : id < 65536) (l : List S44) (hf : ∀ x ∈ l, 0 ≤ x.f1) (sub : Bool) : ∃ k, laws_FnSubscribeBack.f k (id : Int) l sub = some true := by
  have aw : Ev (fun _ : Nat => (laws_awakePublish.f).bind fun t => some t) true := Ev.congr (f := fun _ => some true) (fun k => rfl) (Ev.now _)
  have j0t : Ev (fun k => laws_FnSubscribeBack.j0 k (id : Int) l sub true) true := Ev.step (fun k => by simp only [laws_FnSubscribeBack.j0]; rw [if_pos trivial]) aw
  refine Ev.rounds ?_
  unfold laws_FnSubscribeBack.f
  obtain ⟨z, hz⟩ := zz15 l
  refine Ev.bind (f := fun k t137 => (if t137 = true then (if (id : Int) = 0 then (laws_FnSubscribeBack.j0 k (id : Int) l sub true) else (if (l.length : Int) < 1 then (laws_FnSubscribeBack.j0 k (id : Int) l sub true) else (laws_FnSubscribeBack.j0 k (id : Int) l sub (decide ((l.length : Int) > 6))))) else (some true))) hz ?_
  cases z with
  | false => simpa using Ev.now true
  | true =>
  simp only [if_true]
  by_cases h0 : (id : Int) = 0
  · exact Ev.congr (fun k => by rw [if_pos h0]) j0t
  by_cases h1 : (l.length : Int) < 1
  · exact Ev.congr (fun k => by rw [if_neg h0, if_pos h1]) j0t
  by_cases h6 : (l.length : Int) > 6
  · exact Ev.congr (fun k => by rw [if_neg h0, if_neg h1, decide_eq_true h6]) j0t
  refine Ev.congr (fun k => by rw [if_neg h0, if_neg h1, decide_eq_false h6]) ?_
  -- the compare
  have cmp : ∀ d i, l.length - i = d → i ≤ l.length → Ev (fun k => laws_FnSubscribeBack.l1 k l l (i : Int)) true := by
    intro d
    induction d with
    | zero =>
      intro i hd hi
      refine Ev.step (fun k => ?_) aw
      simp only [laws_FnSubscribeBack.l1]
      rw [if_neg (by omega)]
    | succ d ih =>
      intro i hd hi
      refine Ev.step (fun k => ?_) (ih (i + 1) (by omega) (by omega))
      simp only [laws_FnSubscribeBack.l1]
      rw [if_pos (by omega), if_pos (by omega), if_pos (by omega), if_neg (by simp), wsucc i (by omega)]
  have L0 : ∀ d i, l.length - i = d → i ≤ l.length → (∀ j (h : j < l.length), j < i → OkF sub l[j]) → Ev (fun k => laws_FnSubscribeBack.l0 k (id : Int) l sub (two id ++ encs sub (l.take i)) (i : Int)) true := by
    intro d
    induction d with
    | zero =>
      intro i hd hi hok
      obtain rfl : i = l.length := by omega
      rw [List.take_length]
      have hall : ∀ x ∈ l, OkF sub x := fun x hx => by
        obtain ⟨j, hj, rfl⟩ := List.getElem_of_mem hx
        exact hok j hj hj
      have hrb := read_back sub id ⟨by omega, hid⟩ l ⟨by omega, by omega⟩ hall
      refine Ev.step (f := fun k => laws_FnSubscribeBack.j3 k l l false) (fun k => ?_) (Ev.step (fun k => ?_) (cmp l.length 0 rfl (Nat.zero_le _)))
      · simp only [laws_FnSubscribeBack.l0]
        rw [if_neg (by omega), hrb]
        simp only [Option.bind_some]
        rw [if_pos trivial, if_pos trivial]
        simp
      · simp only [laws_FnSubscribeBack.j3]
        rw [if_neg (by simp)]
        rfl
    | succ d ih =>
      intro i hd hi hok
      have hlt : i < l.length := by omega
      have ei := getT l i hlt
      have hfx := hf l[i] (List.getElem_mem hlt)
      have j2t : ∀ x, Ev (fun k => laws_FnSubscribeBack.j2 k (id : Int) l sub x (i : Int) true) true := fun x => Ev.step (fun k => by simp only [laws_FnSubscribeBack.j2]; rw [if_pos trivial]) aw
      have hsz : (two id ++ encs sub (l.take i)).size ≤ 2 + i * 63 := by
        have := encs_size sub (l.take i) (fun x hx => by
          obtain ⟨j, hj, rfl⟩ := List.getElem_of_mem hx
          simp at hj
          rw [List.getElem_take]
          exact (hok j (by omega) (by omega)).1)
        rw [ByteArray.size_append, two_size]
        rw [List.length_take, Nat.min_eq_left (by omega)] at this
        omega
      by_cases hc : ((l[i].f0).size : Int) > 60
      · refine Ev.step (fun k => ?_) (j2t (two id ++ encs sub (l.take i)))
        simp only [laws_FnSubscribeBack.l0]
        rw [if_pos (by omega), if_pos (by omega), ei, if_pos hc]
      · have hpl := plain_eq l[i].f0 true (by omega)
        refine Ev.step (f := fun k => (if plainB l[i].f0 true = true then (if l[i].f1 > 2 then (laws_FnSubscribeBack.j2 k (id : Int) l sub (two id ++ encs sub (l.take i)) (i : Int) true) else (if sub = true then (laws_FnSubscribeBack.j2 k (id : Int) l sub (two id ++ encs sub (l.take i)) (i : Int) false) else (laws_FnSubscribeBack.j2 k (id : Int) l sub (two id ++ encs sub (l.take i)) (i : Int) (decide (l[i].f1 > 0))))) else (laws_FnSubscribeBack.j2 k (id : Int) l sub (two id ++ encs sub (l.take i)) (i : Int) true))) (fun k => ?_) ?_
        · simp only [laws_FnSubscribeBack.l0]
          rw [if_pos (by omega), if_pos (by omega), ei, if_neg hc, hpl]
          rfl
        · by_cases hB : plainB l[i].f0 true = true
          rotate_left
          · exact Ev.congr (fun k => by rw [if_neg hB]) (j2t _)
          · refine Ev.congr (fun k => by rw [if_pos hB]) ?_
            by_cases hq : l[i].f1 > 2
            · exact Ev.congr (fun k => by rw [if_pos hq]) (j2t _)
            · have go : (sub = false → l[i].f1 = 0) → Ev (fun k => laws_FnSubscribeBack.j2 k (id : Int) l sub (two id ++ encs sub (l.take i)) (i : Int) false) true := by
                intro hs
                have hok2 : OkF sub l[i] := ⟨by omega, plainB_ok hB, hfx, by omega, hs⟩
                have hnext := ih (i + 1) (by omega) (by omega) (fun j hj hji => by
                  by_cases e : j = i
                  · subst e; exact hok2
                  · exact hok j hj (by omega))
                have e1 : two id ++ encs sub (l.take (i + 1)) = two id ++ encs sub (l.take i) ++ (two l[i].f0.size ++ l[i].f0) ++ tailE sub l[i] := by
                  rw [List.take_succ_eq_append_getElem hlt, encs_snoc]
                  simp only [enc, ByteArray.append_assoc]
                have et : spec_MQTTText.f l[i].f0 = some (two l[i].f0.size ++ l[i].f0) := by
                  unfold spec_MQTTText.f
                  simp only [Option.bind_some]
                  rw [if_pos (by rw [strOfNums_size]; simp; omega)]
                  rfl
                have s1 : (two id ++ encs sub (l.take i)).size + (two l[i].f0.size ++ l[i].f0).size ≤ 9223372036854775807 := by
                  rw [ByteArray.size_append (a := two l[i].f0.size), two_size]; omega
                have sY : (two l[i].f0.size ++ l[i].f0).size = 2 + l[i].f0.size := by rw [ByteArray.size_append, two_size]
                have sX : (two id ++ encs sub (l.take i) ++ (two l[i].f0.size ++ l[i].f0)).size = (two id ++ encs sub (l.take i)).size + (two l[i].f0.size ++ l[i].f0).size := ByteArray.size_append
                rw [e1] at hnext
                refine Ev.step (fun k => ?_) hnext
                simp only [laws_FnSubscribeBack.j2]
                rw [if_neg (by simp), if_pos (by omega), if_pos (by omega), ei, et]
                simp only [Option.bind_some]
                rw [if_pos s1]
                cases sub with
                | true =>
                  rw [if_pos rfl, if_pos (by rw [strOfNums_size, sX, sY]; have e : ([l[i].f1] : List Int).length = 1 := rfl; omega), wsucc i (by omega)]
                  rfl
                | false =>
                  rw [if_neg (by simp), wsucc i (by omega)]
                  have : tailE false l[i] = ByteArray.empty := rfl
                  rw [this, ByteArray.append_empty]
              cases sub with
              | true => exact Ev.congr (fun k => by rw [if_neg hq]; simp) (go (fun e => by cases e))
              | false =>
                by_cases hp : l[i].f1 > 0
                · exact Ev.congr (fun k => by rw [if_neg hq, decide_eq_true hp]; simp) (j2t (two id ++ encs false (l.take i)))
                · exact Ev.congr (fun k => by rw [if_neg hq, decide_eq_false hp]; simp) (go fun _ => by omega)
  have h00 := L0 l.length 0 rfl (Nat.zero_le _) (fun j h hj => by omega)
  refine Ev.step (fun k => ?_) h00
  simp only [laws_FnSubscribeBack.j0]
  rw [if_neg (by simp)]
  simp only [List.take_zero, encs]
  rw [show (⟨#[]⟩ : ByteArray) = ByteArray.empty from rfl, ByteArray.append_empty]
  rfl
end Go.Proofs.YtpalhclllhbmkaaDoor.PXB
