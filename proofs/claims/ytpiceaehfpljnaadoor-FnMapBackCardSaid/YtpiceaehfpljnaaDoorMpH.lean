/- The walk of TransformTokenizedSubject: its rounds. -/
import Derived.Test.YtpiceaehfpljnaaDoorMpF
namespace Go.Proofs.YtpiceaehfpljnaaDoor
open Go.RowKit Mp
attribute [local go_sem ↓] Go.wp_at_zero Go.wp_at_succ
set_option linter.unusedVariables false
set_option linter.unusedSimpArgs false
set_option maxRecDepth 1000000
set_option maxHeartbeats 8000000

/-- How a part of a destination has been read: its kind, its places, its number. -/
structure Ph where
  ty : Nat
  ix : List Int
  n : Int
/-- A mapping, laid out. -/
structure TrAt (w : World) (p gd cd gs cs gy cy gx cx gi ci : Nat) (src dst : ByteArray) (ds ss : List ByteArray) (ps : List Ph) : Prop where
  lt : p < w.heap.size ∧ gy < w.heap.size ∧ gx < w.heap.size ∧ gi < w.heap.size
  c0 : w.cell? ⟨p, 0, none⟩ = some (.string src)
  c1 : w.cell? ⟨p, 1, none⟩ = some (.string dst)
  c2 : w.cell? ⟨p, 2, none⟩ = some (.slice (some ⟨gd, 0, none⟩) ds.length cd)
  c3 : w.cell? ⟨p, 3, none⟩ = some (.slice (some ⟨gs, 0, none⟩) ss.length cs)
  c4 : w.cell? ⟨p, 4, none⟩ = some (.slice (some ⟨gy, 0, none⟩) ps.length cy)
  c5 : w.cell? ⟨p, 5, none⟩ = some (.slice (some ⟨gx, 0, none⟩) ps.length cx)
  c6 : w.cell? ⟨p, 6, none⟩ = some (.slice (some ⟨gi, 0, none⟩) ps.length ci)
  d : StrsAt w gd ds
  s : StrsAt w gs ss
  y : ∀ i (h : i < ps.length), w.cell? ⟨gy, i, none⟩ = some (.int .i16 ps[i].ty)
  x : ∀ i (h : i < ps.length), ∃ g c, w.cell? ⟨gx, i, none⟩ = some (.slice (some ⟨g, 0, none⟩) ps[i].ix.length c) ∧ g < w.heap.size ∧ ∀ j (hj : j < ps[i].ix.length), w.cell? ⟨g, j, none⟩ = some (.int .i64 ps[i].ix[j])
  i : ∀ i (h : i < ps.length), w.cell? ⟨gi, i, none⟩ = some (.int .i32 ps[i].n)
theorem TrAt.later {w w' : World} {p gd cd gs cs gy cy gx cx gi ci : Nat} {src dst : ByteArray} {ds ss : List ByteArray} {ps : List Ph} (h : TrAt w p gd cd gs cs gy cy gx cx gi ci src dst ds ss ps) (hb : Below w.heap.size w w') : TrAt w' p gd cd gs cs gy cy gx cx gi ci src dst ds ss ps := by
  obtain ⟨l1, l2, l3, l4⟩ := h.lt
  have hz := hb.size
  have hc : ∀ g j, g < w.heap.size → w'.cell? ⟨g, j, none⟩ = w.cell? ⟨g, j, none⟩ := fun g j hg => hb.cell (p := ⟨g, j, none⟩) hg
  refine ⟨⟨by omega, by omega, by omega, by omega⟩, ?_, ?_, ?_, ?_, ?_, ?_, ?_, h.d.later hb, h.s.later hb, ?_, ?_, ?_⟩
  · rw [hc _ _ l1]; exact h.c0
  · rw [hc _ _ l1]; exact h.c1
  · rw [hc _ _ l1]; exact h.c2
  · rw [hc _ _ l1]; exact h.c3
  · rw [hc _ _ l1]; exact h.c4
  · rw [hc _ _ l1]; exact h.c5
  · rw [hc _ _ l1]; exact h.c6
  · intro i hi; rw [hc _ _ l2]; exact h.y i hi
  · intro i hi
    obtain ⟨g, c, a1, a2, a3⟩ := h.x i hi
    exact ⟨g, c, by rw [hc _ _ l3]; exact a1, by omega, fun j hj => by rw [hc _ _ a2]; exact a3 j hj⟩
  · intro i hi; rw [hc _ _ l4]; exact h.i i hi

def firstLoop : Code → Option Code
  | .loop c => some c
  | .seq a b => match firstLoop a with
    | some c => some c
    | none => firstLoop b
  | .block _ c => firstLoop c
  | .scope c => firstLoop c
  | .cond _ a b => match firstLoop a with
    | some c => some c
    | none => firstLoop b
  | _ => none
/-- The body of the loop over a destination's parts. -/
noncomputable def L37 : Code := ((Tryd.f37.body.bind firstLoop).getD .skip)
/-- What stands in the frame. -/
structure FT where
  p : Nat
  gt : Nat
  tn : Nat
  tc : Nat
  b : Nat
  li : Int
  gy : Nat
  pn : Nat
  cy : Nat
def FrameT (F : FT) (k : Nat) (u : Nat → Value) : Act := ⟨#[.pointer (some ⟨F.p, 0, none⟩), .slice (some ⟨F.gt, 0, none⟩) F.tn F.tc, u 2, u 3, .string ⟨#[]⟩, .pointer (some ⟨F.b, 0, none⟩), .int .i64 F.li, u 7, u 8, u 9, u 10, u 11, u 12, u 13, u 14, u 15, u 16, u 17, u 18, u 19, u 20, u 21, u 22, u 23, u 24, u 25, u 26, u 27, u 28, u 29, u 30, u 31, u 32, u 33, u 34, u 35, u 36, u 37, u 38, u 39, u 40, u 41, u 42, u 43, u 44, u 45, u 46, u 47, u 48, u 49, u 50, u 51, u 52, u 53, u 54, u 55, u 56, u 57, u 58, .slice (some ⟨F.gy, 0, none⟩) F.pn F.cy, .int .i64 (F.pn : Nat), .int .i64 (k : Nat), u 62, u 63, u 64, u 65, u 66, u 67, u 68, u 69, u 70, u 71, u 72, u 73, u 74, u 75, u 76, u 77, u 78, u 79, u 80, u 81, u 82, u 83, u 84, u 85, u 86, u 87, u 88, u 89, u 90, u 91, u 92, u 93, u 94, u 95, u 96, u 97, u 98, u 99, u 100, u 101, u 102, u 103, u 104, u 105, u 106, u 107, u 108, u 109, u 110, u 111, u 112, u 113, u 114, u 115, u 116, u 117, u 118, u 119, u 120, u 121, u 122, u 123, u 124, u 125, u 126, u 127, u 128, u 129, u 130, u 131, u 132, u 133, u 134, u 135, u 136, u 137, u 138, u 139, u 140, u 141, u 142, u 143, u 144, u 145, u 146, u 147, u 148, u 149, u 150, u 151, u 152, u 153, u 154, u 155, u 156, u 157, u 158, u 159, u 160, u 161, u 162, u 163, u 164, u 165, u 166, u 167, u 168, u 169, u 170, u 171, u 172, u 173, u 174, u 175, u 176, u 177, u 178, u 179, u 180, u 181, u 182, u 183, u 184, u 185, u 186, u 187, u 188, u 189, u 190, u 191, u 192, u 193, u 194, u 195, u 196, u 197, u 198, u 199, u 200, u 201, u 202, u 203, u 204, u 205, u 206, u 207, u 208, u 209, u 210, u 211, u 212, u 213, u 214, u 215, u 216, u 217, u 218, u 219, u 220, u 221, u 222, u 223, u 224, u 225, u 226, u 227, u 228, u 229, u 230, u 231, u 232, u 233, u 234, u 235, u 236, u 237, u 238, u 239, u 240, u 241, u 242, u 243, u 244, u 245, u 246, u 247, u 248, u 249, u 250, u 251, u 252, u 253, u 254, u 255, u 256, u 257, u 258, u 259, u 260, u 261, u 262, u 263, u 264, u 265, u 266, u 267, u 268, u 269, u 270, u 271, u 272, u 273, u 274, u 275, u 276, u 277, u 278, u 279, u 280, u 281, u 282, u 283, u 284, u 285, u 286, u 287, u 288, u 289, u 290, u 291, u 292, u 293, u 294, u 295, u 296, u 297, u 298, u 299, u 300, u 301, u 302, u 303, u 304, u 305, u 306, u 307, u 308, u 309, u 310, u 311, u 312, u 313, u 314, u 315, u 316, u 317, u 318, u 319, u 320, u 321, u 322, u 323, u 324, u 325, u 326, u 327, u 328, u 329, u 330, u 331, u 332, u 333, u 334, u 335, u 336, u 337, u 338, u 339, u 340, u 341, u 342, u 343, u 344, u 345, u 346, u 347, u 348, u 349, u 350, u 351, u 352, u 353, u 354, u 355, u 356, u 357, u 358, u 359, u 360, u 361, u 362, u 363, u 364, u 365, u 366, u 367, u 368, u 369, u 370, u 371, u 372, u 373, u 374, u 375, u 376, u 377, u 378, u 379, u 380, u 381, u 382, u 383, u 384, u 385, u 386, u 387, u 388, u 389, u 390, u 391, u 392, u 393, u 394, u 395, u 396, u 397, u 398, u 399, u 400, u 401, u 402, u 403, u 404, u 405, u 406, u 407, u 408, u 409, u 410, u 411, u 412, u 413, u 414, u 415, u 416, u 417, u 418, u 419, u 420, u 421, u 422, u 423, u 424, u 425, u 426, u 427, u 428, u 429, u 430, u 431, u 432, u 433, u 434, u 435, u 436, u 437, u 438, u 439, u 440, u 441, u 442, u 443, u 444, u 445, u 446, u 447, u 448, u 449, u 450, u 451, u 452, u 453, u 454, u 455, u 456, u 457, u 458, u 459, u 460, u 461, u 462, u 463, u 464, u 465, u 466, u 467, u 468, u 469, u 470, u 471, u 472, u 473, u 474, u 475, u 476, u 477, u 478, u 479, u 480, u 481, u 482, u 483, u 484, u 485, u 486, u 487, u 488, u 489, u 490, u 491, u 492, u 493, u 494, u 495, u 496, u 497, u 498, u 499, u 500, u 501, u 502, u 503, u 504, u 505, u 506, u 507, u 508, u 509, u 510, u 511, u 512, u 513, u 514, u 515, u 516, u 517, u 518, u 519, u 520, u 521, u 522, u 523, u 524, u 525, u 526, u 527, u 528, u 529, u 530, u 531, u 532, u 533, u 534, u 535, u 536, u 537, u 538, u 539, u 540, u 541, u 542, u 543, u 544, u 545, u 546, u 547, u 548, u 549, u 550, u 551, u 552, u 553, u 554, u 555, u 556, u 557, u 558, u 559, u 560, u 561, u 562, u 563, u 564, u 565, u 566, u 567, u 568, u 569, u 570, u 571, u 572, u 573, u 574, u 575, u 576, u 577, u 578, u 579, u 580, u 581, u 582, u 583, u 584, u 585, u 586, u 587, u 588, u 589, u 590, u 591, u 592, u 593], []⟩
def FrameTs (F : FT) (k : Nat) (a : Act) : Prop := ∃ u, a = FrameT F k u
theorem FrameTs.mk' {F : FT} {k : Nat} (a : Act) (h : a = FrameT F k (fun i => a.tmps.getD i undef)) : FrameTs F k a := ⟨_, h⟩
/-- What is known between two rounds. -/
structure TI (w : World) (B b : Nat) (out : List UInt8) (wr : World) : Prop where
  below : Below B w wr
  bdr : Bdr B b out wr

theorem roundWord (F : FT) (k : Nat) (u : Nat → Value) (w wr : World) (B : Nat) (out : List UInt8) (gd cd gs cs cy gx cx gi ci : Nat) (src dst : ByteArray) (ds ss : List ByteArray) (ps : List Ph) (Q : Exit → Act → World → Prop)
    (hF : F.pn = ps.length ∧ F.li = ((ps.length - 1 : Nat) : Int) ∧ F.cy = cy) (hT : TrAt w F.p gd cd gs cs F.gy cy gx cx gi ci src dst ds ss ps) (hB : B = w.heap.size) (hI : TI w B F.b out wr) (hk : k < ps.length) (hkd : ps.length = ds.length)
    (t : ByteArray) (ht : ds[k]? = some t) (hty : ps[k].ty = 0) (hg : t ≠ gtS) (ht0 : 0 < t.size) (hlen : out.length + t.size + 1 ≤ 140737488355328) (hpl : ps.length < 1000000)
    (HQ : Hid (∀ a w', FrameTs F (k + 1) a → TI w B F.b (out ++ t.data.toList ++ (if k + 1 < ps.length then [46] else [])) w' → Q .normal a w')) :
    Code.wp Tryd.prog L37 Q (FrameT F k u) wr := by
  obtain ⟨F1, F2, F3⟩ := hF
  have hT' := hT.later (by rw [← hB]; exact hI.below)
  have y0 := hT'.y k hk
  rw [hty] at y0
  have c2 := hT'.c2
  have hdk : k < ds.length := by omega
  have d0 := hT'.d.2 k hdk
  have hdt : ds[k] = t := by rw [List.getElem?_eq_getElem hdk] at ht; exact Option.some.inj ht
  rw [hdt] at d0
  have HT := Lib.hid hT
  have HI := Lib.hid hI
  have hBw : B ≤ wr.heap.size := by rw [hB]; have := hI.below.size; omega
  have HB := Lib.hid hB
  clear hT hT' hI ht hdt hB
  obtain ⟨p, gt, tn, tc, b, li, gy, pn, cy'⟩ := F
  dsimp only at F1 F2 F3 y0 c2 HT HI ⊢
  subst F1 F2 F3
  have d1 : decide ((k : Int) < (ps.length : Int)) = true := decide_eq_true (by omega)
  have d2 : decide (k < ps.length) = true := decide_eq_true (by omega)
  have d3 : decide ((k : Int) < (ds.length : Int)) = true := decide_eq_true (by omega)
  have d4 : decide (k < ds.length) = true := decide_eq_true (by omega)
  have HKD := Lib.hid hkd
  have hcase : (((t.size : Int) == 1) = true ∧ (t.size == 1) = true ∧ (((t[0]'ht0).toNat : Int) == 62) = false) ∨ (((t.size : Int) == 1) = false ∧ (t.size == 1) = false) := by
    by_cases hz : t.size = 1
    · exact Or.inl ⟨by rw [hz]; rfl, by rw [hz]; rfl, beq_eq_false_iff_ne.2 (fun e => hg (one_eq t hz 62 (by rw [b8_get t 0 ht0]; show (t[0]'ht0).toNat = 62; omega)))⟩
    · exact Or.inr ⟨beq_eq_false_iff_ne.2 (by omega), beq_eq_false_iff_ne.2 hz⟩
  clear hkd
  unfold FrameT
  conv => arg 2; whnf
  rcases hcase with ⟨e1, e2, e3⟩ | ⟨e1, e2⟩ <;> {
    go_wp2_with fail
    refine (wstr B b out t wr HI.out.bdr (by omega) hBw).mono ?_
    rintro e w1 ⟨rfl, hb1, hl1⟩
    have HB1 := Lib.hid hb1
    have HL1 := Lib.hid hl1
    have hBw1 : B ≤ w1.heap.size := by have := hl1.size; omega
    clear hb1 hl1
    by_cases hk2 : k + 1 < ps.length
    · have g1 : decide ((k : Int) < ((ps.length - 1 : Nat) : Int)) = true := decide_eq_true (by omega)
      have g2 : decide (k < ps.length - 1) = true := decide_eq_true (by omega)
      have HK2 := Lib.hid hk2
      clear hk2
      go_wp2_with fail
      refine (wbyt B b (out ++ t.data.toList) 46 w1 HB1.out (by rw [List.length_append, size_list]; omega) hBw1).mono ?_
      rintro e w2 ⟨rfl, hb2, hl2⟩
      have HB2 := Lib.hid hb2
      have HL2 := Lib.hid hl2
      clear hb2 hl2
      go_wp2_with fail
      refine HQ.out _ _ (FrameTs.mk' _ (by kernel_rfl)) ⟨HI.out.below.trans (HL1.out.trans HL2.out), ?_⟩
      rw [if_pos HK2.out]
      exact HB2.out
    · have g1 : decide ((k : Int) < ((ps.length - 1 : Nat) : Int)) = false := decide_eq_false (by omega)
      have g2 : decide (k < ps.length - 1) = false := decide_eq_false (by omega)
      have HK2 := Lib.hid hk2
      clear hk2
      go_wp2_with fail
      refine HQ.out _ _ (FrameTs.mk' _ (by kernel_rfl)) ⟨HI.out.below.trans HL1.out, ?_⟩
      rw [if_neg HK2.out, List.append_nil]
      exact HB1.out }
end Go.Proofs.YtpiceaehfpljnaaDoor
