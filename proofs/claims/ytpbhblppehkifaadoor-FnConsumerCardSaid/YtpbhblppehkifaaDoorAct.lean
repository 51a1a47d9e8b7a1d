/- A deed played. -/
import Derived.Test.YtpbhblppehkifaaDoorUptD
namespace Go.Proofs.YtpbhblppehkifaaDoor
open Go Go.RowKit Go.MuLone Con

/-- A state that can be. -/
structure Snd (k : Kp) : Prop where
  sW : Srt k.ws
  sR : Srt k.rs
  h1 : k.fc ≤ k.dc
  h2 : k.fs ≤ k.ds
  hW : ∀ p ∈ k.ws, k.fs < p.1 ∧ p.1 ≤ k.ds ∧ k.fc < p.2.1 ∧ p.2.1 ≤ k.dc
  hR : ∀ p ∈ k.rs, ∃ e ∈ k.ws, e.1 = p.1
  n0 : Ok16 k.dc
  n1 : Ok16 k.ds
  n2 : 0 ≤ k.fc
  n3 : 0 ≤ k.fs
  lW : k.ws.length < 1000
  lR : k.rs.length < 1000

theorem WsAt.later {w w' : World} {A : Option Addr} {ws : List (Int × Int × Int)} (h : WsAt w A ws) (hb : Below w.heap.size w w') : WsAt w' A ws := fun i hi => by
  obtain ⟨ad, e, x0, x1, x2⟩ := h i hi
  exact ⟨ad, e, by rw [hb.cell (World.block_lt_of_cell? w _ x0)]; exact x0, by rw [hb.cell (p := ⟨(ad.add (i * 3)).block, (ad.add (i * 3)).off + 1, none⟩) (World.block_lt_of_cell? w _ x1)]; exact x1,
    by rw [hb.cell (p := ⟨(ad.add (i * 3)).block, (ad.add (i * 3)).off + 2, none⟩) (World.block_lt_of_cell? w _ x2)]; exact x2⟩
theorem RsAt.later {w w' : World} {A : Option Addr} {rs : List (Int × Int)} (h : RsAt w A rs) (hb : Below w.heap.size w w') : RsAt w' A rs := fun i hi => by
  obtain ⟨ad, e, x0, x1⟩ := h i hi
  exact ⟨ad, e, by rw [hb.cell (World.block_lt_of_cell? w _ x0)]; exact x0, by rw [hb.cell (p := ⟨(ad.add (i * 2)).block, (ad.add (i * 2)).off + 1, none⟩) (World.block_lt_of_cell? w _ x1)]; exact x1⟩
section
variable (B m n : Nat) (ack : Int) (k : Kp) (d : Dd) (w : World) (A1 A2 : Option Addr) (q1 q2 : Nat)
set_option maxRecDepth 100000 in
theorem act3_st (hd : d.op = 3) (hS : SurC w) (hB : 4 ≤ B) (hn : n < 100000) (hn2 : 1000 ≤ n) (hk : Snd d.k) (hw : WsAt w A1 d.k.ws) (hr : RsAt w A2 d.k.rs) (h : Sits w B m n ack k) :
    Calls Tryd.prog 20 #[ptr m, deedV d A1 A2 q1 q2] w fun e w' => ∃ v, e = .returned v ∧ ActP w w' B m n ack k d v := by
  have HD := hid hd
  have HK := hid hk
  have HW := hid hw
  have HR := hid hr
  unfold deedV
  rw [hd]
  clear hd hk hw hr
  go_enter Tryd.func20, Tryd.ntmps20
  go_wp2_with fail
  have hb : Below w.heap.size w _ := (Below.refl w.heap.size w).alloc (Nat.le_refl _) (.cells #[.int .i64 3, .int .u64 d.c, .int .u64 d.s, .int .u64 d.t, .int .i64 d.at_, .int .u64 d.k.dc, .int .u64 d.k.ds, .int .u64 d.k.fc, .int .u64 d.k.fs, .slice A1 d.k.ws.length q1, .slice A2 d.k.rs.length q2] 38)
  have hBw : B ≤ w.heap.size := Nat.le_trans h.lt.1 (Nat.le_of_lt h.lt.2)
  have hwA : WsAt (w.alloc (.cells #[.int .i64 3, .int .u64 d.c, .int .u64 d.s, .int .u64 d.t, .int .i64 d.at_, .int .u64 d.k.dc, .int .u64 d.k.ds, .int .u64 d.k.fc, .int .u64 d.k.fs, .slice A1 d.k.ws.length q1, .slice A2 d.k.rs.length q2] 38)) A1 d.k.ws := HW.out.later hb
  have hrA : RsAt (w.alloc (.cells #[.int .i64 3, .int .u64 d.c, .int .u64 d.s, .int .u64 d.t, .int .i64 d.at_, .int .u64 d.k.dc, .int .u64 d.k.ds, .int .u64 d.k.fc, .int .u64 d.k.fs, .slice A1 d.k.ws.length q1, .slice A2 d.k.rs.length q2] 38)) A2 d.k.rs := HR.out.later hb
  have kw : ∀ p ∈ d.k.ws, 0 ≤ p.1 ∧ p.1 ≤ 65536 := fun p hp => by
    have h1 := HK.out.hW p hp
    have h2 := HK.out.n1
    have h3 := HK.out.n3
    exact ⟨by omega, by have := h2.2; omega⟩
  have kr : ∀ p ∈ d.k.rs, 0 ≤ p.1 ∧ p.1 ≤ 65536 := fun p hp => by
    obtain ⟨e, he, hh⟩ := HK.out.hR p hp
    have := kw e he
    omega
  refine (inner_st d.k.dc d.k.ds d.k.fc d.k.fs A1 A2 q1 q2 d.k.ws d.k.rs _ hwA hrA HK.out.sW HK.out.sR HK.out.lW HK.out.lR kw kr).mono ?_
  rintro e w2 ⟨st, mpS, mrS, WS, rfl, hC, hv, b2⟩
  have b02 : Below w.heap.size w w2 := hb.trans (b2.mono hb.size)
  have h2 := h.later b02
  obtain ⟨⟨mp, mr, W, hst, hws⟩, n0, n1, n2, n3⟩ := h2
  have HC := hid hC
  have HB := hid b02
  clear b2 hwA hrA hb hC
  go_wp2_with fail
  have hWv : ∀ e ∈ WS, val e ∈ d.k.ws := fun e he => by rw [← hv]; exact List.mem_map.2 ⟨e, he, rfl⟩
  refine (update_st B _ m n 1000 st ack k.dc k.ds k.fc k.fs d.k.dc d.k.ds d.k.fc d.k.fs mp mr mpS mrS W WS k.rs d.k.rs w2 (hS.later HB.out) hB (by omega) hst HC.out (by rw [hv]; exact HK.out.sW) HK.out.sR
    (fun e he => by have := HK.out.hW (val e) (hWv e he); exact ⟨this.1, this.2.1⟩) HK.out.h1 HK.out.h2 (fun e he => by
      have h1 := HK.out.hW (val e) (hWv e he)
      have h2 := kw (val e) (hWv e he)
      have h3 := HK.out.n0.2
      have h4 := HK.out.n2
      have h5 : d.k.fc < e.c ∧ e.c ≤ d.k.dc := h1.2.2
      exact ⟨h2.1, h2.2, by omega, by omega⟩) kr).mono ?_
  rintro e w3 ⟨v, rfl, mp1, mr1, W1, hv1, hu⟩
  go_wp2
  go_ret
  unfold UptP at hu
  by_cases hh : d.k.dc < k.dc ∨ d.k.fs < k.fs
  · rw [if_pos hh] at hu
    exact ⟨_, rfl, false, k, hu.1, Or.inr (Or.inr (Or.inr (Or.inl ⟨HD.out, by rw [if_pos hh]; exact ⟨rfl, rfl⟩⟩))), ⟨⟨mp, mr, W, hu.2.1.mono (Nat.le_succ n), hws⟩, n0, n1, n2, n3⟩, (Eff.of_below HB.out hBw).trans hu.2.2⟩
  · rw [if_neg hh] at hu
    have o0 := HK.out.n0
    have o1 := HK.out.n1
    exact ⟨_, rfl, true, d.k, hu.1, Or.inr (Or.inr (Or.inr (Or.inl ⟨HD.out, by rw [if_neg hh]; exact ⟨rfl, rfl⟩⟩))), ⟨⟨mp1, mr1, W1, hu.2.1.mono (by omega), by rw [hv1, hv]⟩, o0, o1, ⟨HK.out.n2, Int.le_trans HK.out.h1 o0.2⟩, ⟨HK.out.n3, Int.le_trans HK.out.h2 o1.2⟩⟩, (Eff.of_below HB.out hBw).trans hu.2.2⟩

/-- A deed that may be played. -/
structure DOk (d : Dd) : Prop where
  op : d.op = 0 ∨ d.op = 1 ∨ d.op = 2 ∨ d.op = 3 ∨ d.op = 4 ∨ d.op = 5
  c : Ok16 d.c
  s : Ok16 d.s
  t : d.op = 0 → 1 ≤ d.t ∧ d.t ≤ 100000
  k : Snd d.k

theorem act_st (hd : DOk d) (hack : ack = 0 ∨ ack = 1 ∨ ack = 2) (hS : SurC w) (hB : 4 ≤ B) (hn : n < 100000) (hn2 : 1000 ≤ n) (hw : WsAt w A1 d.k.ws) (hr : RsAt w A2 d.k.rs) (h : Sits w B m n ack k) :
    Calls Tryd.prog 20 #[ptr m, deedV d A1 A2 q1 q2] w fun e w' => ∃ v, e = .returned v ∧ ActP w w' B m n ack k d v := by
  rcases hd.op with h0 | h0 | h0 | h0 | h0 | h0
  · exact act0_st B m n ack k d w A1 A2 q1 q2 h0 hack hS hB hn hd.c hd.s (hd.t h0) h
  · exact act1_st B m n ack k d w A1 A2 q1 q2 h0 hack hS hB hn hd.c hd.s h
  · exact act2_st B m n ack k d w A1 A2 q1 q2 h0 hd.s h
  · exact act3_st B m n ack k d w A1 A2 q1 q2 h0 hS hB hn hn2 hd.k hw hr h
  · exact act4_st B m n ack k d w A1 A2 q1 q2 h0 h
  · exact act5_st B m n ack k d w A1 A2 q1 q2 h0 hd.s h
end
end Go.Proofs.YtpbhblppehkifaaDoor
