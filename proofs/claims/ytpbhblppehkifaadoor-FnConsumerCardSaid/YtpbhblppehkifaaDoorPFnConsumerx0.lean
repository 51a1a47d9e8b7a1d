-- PRINTED BY print.sh 35421559b90ae4d0a3588c463048766b98c2df88dd9212a6774a882060cdf62d: not written by this session
import Derived.Test.YtpbhblppehkifaaDoorWWords
import Derived.Test.YtpbhblppehkifaaDoorWLast
import Derived.Test.YtpbhblppehkifaaDoorWLite
import Derived.Test.YtpbhblppehkifaaDoorProg
import Derived.Below
import Derived.Deep.Draws
import Derived.Deep.AppendLies
import Derived.Maps.AppendAt
import Derived.OwnWalk
import Derived.Laws.BytesArg
import Derived.Laws.MakeOwn
import Derived.Laws.OwnMore
import Derived.Deep.OwnRows
import Derived.Tactics
import Derived.Lib.ConvBytes
import Derived.Laws.Slices
import Derived.WalkKit
import Derived.KernelRfl
import Derived.RowKit3
import Derived.Deep.LoopGhost
import Derived.Deep.QuietTactic
import Derived.BigQuiet
import Derived.WideLaws
import Derived.Deep.DeepCutAuto
import Derived.Deep.CutBlock
import Derived.Deep.RegionHeld3
import Derived.Laws.Rows
import Derived.Lib.AppendStr
import Derived.ArgAppend
import Derived.Laws.IdiomCopy
import Derived.OrdersHeld
import Derived.Laws.BitsLemmas
import Derived.RowKit
namespace Go.Proofs.YtpbhblppehkifaaDoor.PFnConsumer
open Go.RowKit Go.Proofs.YtpbhblppehkifaaDoorW.PrintWords Go.Proofs.YtpbhblppehkifaaDoorW.PrintLast Go.Proofs.YtpbhblppehkifaaDoorW.PrintMore
attribute [local go_sem] max2_int min2_int max_two min_two max_three min_three max_four min_four   -- for this text's walks alone
set_option linter.unusedVariables false
set_option linter.unusedSimpArgs false



def errW : Option Int → Value
  | none => .nilIface
  | some c => .iface 0 (.int .i64 c)
theorem errW_none : errW none = .nilIface := rfl
theorem errW_some (c : Int) : errW (some c) = .iface 0 (.int .i64 c) := rfl

theorem info49 : (Tryd.prog.info? 49).map (fun i => (i.zero, i.size, i.bytes)) = some (some (.agg #[(.int .u64 0), (.int .u64 0), (.int .i64 0)]), 3, 24) := by kernel_rfl
theorem info64 : (Tryd.prog.info? 64).map (fun i => (i.zero, i.size, i.bytes)) = some (some (.agg #[(.int .u64 0), (.int .u64 0)]), 2, 16) := by kernel_rfl
-- the values' own types
/-! #### struct type 49 -/
structure S49 where
  f0 : Int
  f1 : Int
  f2 : Int
def z49 : S49 := ⟨(0 : Int), (0 : Int), (0 : Int)⟩
def k49 : Kd S49 := Kd.iso (Kd.pair (Kd.int .u64) (Kd.pair (Kd.int .u64) (Kd.int .i64))) (fun x : S49 => (x.f0, x.f1, x.f2))
theorem k49_open {w : World} {x : S49} {cs : List Value} (h : k49.K w x cs) : cs = [.int .u64 x.f0, .int .u64 x.f1, .int .i64 x.f2] := by
  obtain ⟨_, _, rfl, rfl, ⟨_, _, rfl, rfl, rfl⟩⟩ := h
  exact rfl
theorem k49_openM {w : World} {base : Nat} {ok : Nat → Prop} {x : S49} {cs : List Value} (h : k49.M w base ok x cs) : cs = [.int .u64 x.f0, .int .u64 x.f1, .int .i64 x.f2] := by
  obtain ⟨_, _, rfl, rfl, ⟨_, _, rfl, rfl, rfl⟩⟩ := h
  exact rfl
theorem k49_mk (w : World) (x : S49)  : k49.K w x [.int .u64 x.f0, .int .u64 x.f1, .int .i64 x.f2] := ⟨[.int .u64 x.f0], [.int .u64 x.f1, .int .i64 x.f2], rfl, rfl, ⟨[.int .u64 x.f1], [.int .i64 x.f2], rfl, rfl, rfl⟩⟩
theorem k49_mkM (w : World) (base : Nat) (ok : Nat → Prop) (x : S49)  : k49.M w base ok x [.int .u64 x.f0, .int .u64 x.f1, .int .i64 x.f2] := ⟨[.int .u64 x.f0], [.int .u64 x.f1, .int .i64 x.f2], rfl, rfl, ⟨[.int .u64 x.f1], [.int .i64 x.f2], rfl, rfl, rfl⟩⟩
def rd_T49 (xs : List S49) (i : Int) : S49 := xs.getD i.toNat z49
theorem at_T49 {w : World} {A : Option Addr} {n : Nat} {xs : List S49} (h : Kd.C k49 w A n xs) (i : Int) (h0 : 0 ≤ i) (h1 : i < n) : ∃ ad , A = some ad ∧ w.cell? (ad.add (i.toNat * 3)) = some (.int .u64 (rd_T49 xs i).f0) ∧ w.cell? ⟨(ad.add (i.toNat * 3)).block, (ad.add (i.toNat * 3)).off + 1, none⟩ = some (.int .u64 (rd_T49 xs i).f1) ∧ w.cell? ⟨(ad.add (i.toNat * 3)).block, (ad.add (i.toNat * 3)).off + 2, none⟩ = some (.int .i64 (rd_T49 xs i).f2) := by
  obtain ⟨ad, c, e, _, hK, hc0⟩ := Kd.C_get h z49 i h0 h1
  have hc : ∀ j u, c[j]? = some u → w.cell? (ad.add (i.toNat * 3 + j)) = some u := hc0
  obtain rfl := k49_open hK
  exact ⟨ad, e, hc 0 _ rfl, by rw [← add_field _ _ 1 (by omega)]; exact hc 1 _ rfl, by rw [← add_field _ _ 2 (by omega)]; exact hc 2 _ rfl⟩

/-! #### struct type 64 -/
structure S64 where
  f0 : Int
  f1 : Int
def z64 : S64 := ⟨(0 : Int), (0 : Int)⟩
def k64 : Kd S64 := Kd.iso (Kd.pair (Kd.int .u64) (Kd.int .u64)) (fun x : S64 => (x.f0, x.f1))
theorem k64_open {w : World} {x : S64} {cs : List Value} (h : k64.K w x cs) : cs = [.int .u64 x.f0, .int .u64 x.f1] := by
  obtain ⟨_, _, rfl, rfl, rfl⟩ := h
  exact rfl
theorem k64_openM {w : World} {base : Nat} {ok : Nat → Prop} {x : S64} {cs : List Value} (h : k64.M w base ok x cs) : cs = [.int .u64 x.f0, .int .u64 x.f1] := by
  obtain ⟨_, _, rfl, rfl, rfl⟩ := h
  exact rfl
theorem k64_mk (w : World) (x : S64)  : k64.K w x [.int .u64 x.f0, .int .u64 x.f1] := ⟨[.int .u64 x.f0], [.int .u64 x.f1], rfl, rfl, rfl⟩
theorem k64_mkM (w : World) (base : Nat) (ok : Nat → Prop) (x : S64)  : k64.M w base ok x [.int .u64 x.f0, .int .u64 x.f1] := ⟨[.int .u64 x.f0], [.int .u64 x.f1], rfl, rfl, rfl⟩
def rd_T64 (xs : List S64) (i : Int) : S64 := xs.getD i.toNat z64
theorem at_T64 {w : World} {A : Option Addr} {n : Nat} {xs : List S64} (h : Kd.C k64 w A n xs) (i : Int) (h0 : 0 ≤ i) (h1 : i < n) : ∃ ad , A = some ad ∧ w.cell? (ad.add (i.toNat * 2)) = some (.int .u64 (rd_T64 xs i).f0) ∧ w.cell? ⟨(ad.add (i.toNat * 2)).block, (ad.add (i.toNat * 2)).off + 1, none⟩ = some (.int .u64 (rd_T64 xs i).f1) := by
  obtain ⟨ad, c, e, _, hK, hc0⟩ := Kd.C_get h z64 i h0 h1
  have hc : ∀ j u, c[j]? = some u → w.cell? (ad.add (i.toNat * 2 + j)) = some u := hc0
  obtain rfl := k64_open hK
  exact ⟨ad, e, hc 0 _ rfl, by rw [← add_field _ _ 1 (by omega)]; exact hc 1 _ rfl⟩

/-! #### struct type 31 -/
structure S31 where
  f0 : Int
  f1 : Int
def z31 : S31 := ⟨(0 : Int), (0 : Int)⟩
def k31 : Kd S31 := Kd.iso (Kd.pair (Kd.int .u64) (Kd.int .u64)) (fun x : S31 => (x.f0, x.f1))
theorem k31_open {w : World} {x : S31} {cs : List Value} (h : k31.K w x cs) : cs = [.int .u64 x.f0, .int .u64 x.f1] := by
  obtain ⟨_, _, rfl, rfl, rfl⟩ := h
  exact rfl
theorem k31_openM {w : World} {base : Nat} {ok : Nat → Prop} {x : S31} {cs : List Value} (h : k31.M w base ok x cs) : cs = [.int .u64 x.f0, .int .u64 x.f1] := by
  obtain ⟨_, _, rfl, rfl, rfl⟩ := h
  exact rfl
theorem k31_mk (w : World) (x : S31)  : k31.K w x [.int .u64 x.f0, .int .u64 x.f1] := ⟨[.int .u64 x.f0], [.int .u64 x.f1], rfl, rfl, rfl⟩
theorem k31_mkM (w : World) (base : Nat) (ok : Nat → Prop) (x : S31)  : k31.M w base ok x [.int .u64 x.f0, .int .u64 x.f1] := ⟨[.int .u64 x.f0], [.int .u64 x.f1], rfl, rfl, rfl⟩
def rd_T31 (xs : List S31) (i : Int) : S31 := xs.getD i.toNat z31
theorem at_T31 {w : World} {A : Option Addr} {n : Nat} {xs : List S31} (h : Kd.C k31 w A n xs) (i : Int) (h0 : 0 ≤ i) (h1 : i < n) : ∃ ad , A = some ad ∧ w.cell? (ad.add (i.toNat * 2)) = some (.int .u64 (rd_T31 xs i).f0) ∧ w.cell? ⟨(ad.add (i.toNat * 2)).block, (ad.add (i.toNat * 2)).off + 1, none⟩ = some (.int .u64 (rd_T31 xs i).f1) := by
  obtain ⟨ad, c, e, _, hK, hc0⟩ := Kd.C_get h z31 i h0 h1
  have hc : ∀ j u, c[j]? = some u → w.cell? (ad.add (i.toNat * 2 + j)) = some u := hc0
  obtain rfl := k31_open hK
  exact ⟨ad, e, hc 0 _ rfl, by rw [← add_field _ _ 1 (by omega)]; exact hc 1 _ rfl⟩

def rd_L5 (xs : List (List S49)) (i : Int) : (List S49) := xs.getD i.toNat ([] : List S49)
theorem at_L5 {w : World} {A : Option Addr} {n : Nat} {xs : List (List S49)} (h : Kd.C (Kd.slice 49 k49) w A n xs) (i : Int) (h0 : 0 ≤ i) (h1 : i < n) : ∃ ad A0 c0, A = some ad ∧ w.cell? (ad.add i.toNat) = some (.slice A0 (rd_L5 xs i).length c0) ∧ (rd_L5 xs i).length ≤ c0 ∧ k49.C w A0 (rd_L5 xs i).length (rd_L5 xs i) := by
  obtain ⟨ad, c, e, _, hK, hc0⟩ := Kd.C_get h ([] : List S49) i h0 h1
  have hc : ∀ j u, c[j]? = some u → w.cell? (ad.add (i.toNat * 1 + j)) = some u := hc0
  obtain ⟨A0, c0, rfl, l0, g0⟩ := hK
  exact ⟨ad, A0, c0, e, by have hq := hc 0 _ rfl; rwa [Nat.mul_one, Nat.add_zero] at hq, l0, g0⟩

def rd_L6 (xs : List (List S64)) (i : Int) : (List S64) := xs.getD i.toNat ([] : List S64)
theorem at_L6 {w : World} {A : Option Addr} {n : Nat} {xs : List (List S64)} (h : Kd.C (Kd.slice 64 k64) w A n xs) (i : Int) (h0 : 0 ≤ i) (h1 : i < n) : ∃ ad A0 c0, A = some ad ∧ w.cell? (ad.add i.toNat) = some (.slice A0 (rd_L6 xs i).length c0) ∧ (rd_L6 xs i).length ≤ c0 ∧ k64.C w A0 (rd_L6 xs i).length (rd_L6 xs i) := by
  obtain ⟨ad, c, e, _, hK, hc0⟩ := Kd.C_get h ([] : List S64) i h0 h1
  have hc : ∀ j u, c[j]? = some u → w.cell? (ad.add (i.toNat * 1 + j)) = some u := hc0
  obtain ⟨A0, c0, rfl, l0, g0⟩ := hK
  exact ⟨ad, A0, c0, e, by have hq := hc 0 _ rfl; rwa [Nat.mul_one, Nat.add_zero] at hq, l0, g0⟩

/-! #### struct type 35 -/
structure S35 where
  f0 : S31
  f1 : S31
  f2 : (List S49)
  f3 : (List S64)
def z35 : S35 := ⟨z31, z31, ([] : List S49), ([] : List S64)⟩
def k35 : Kd S35 := Kd.iso (Kd.pair k31 (Kd.pair k31 (Kd.pair (Kd.slice 49 k49) (Kd.slice 64 k64)))) (fun x : S35 => (x.f0, x.f1, x.f2, x.f3))
theorem k35_open {w : World} {x : S35} {cs : List Value} (h : k35.K w x cs) : ∃ A4 c4 A5 c5, cs = [.int .u64 x.f0.f0, .int .u64 x.f0.f1, .int .u64 x.f1.f0, .int .u64 x.f1.f1, .slice A4 x.f2.length c4, .slice A5 x.f3.length c5] ∧ x.f2.length ≤ c4 ∧ k49.C w A4 x.f2.length x.f2 ∧ x.f3.length ≤ c5 ∧ k64.C w A5 x.f3.length x.f3 := by
  obtain ⟨_, _, rfl, s0, ⟨_, _, rfl, s2, ⟨_, _, rfl, ⟨A4, c4, rfl, l4, g4⟩, ⟨A5, c5, rfl, l5, g5⟩⟩⟩⟩ := h
  obtain rfl := k31_open s0
  obtain rfl := k31_open s2
  exact ⟨A4, c4, A5, c5, rfl, l4, g4, l5, g5⟩
theorem k35_openM {w : World} {base : Nat} {ok : Nat → Prop} {x : S35} {cs : List Value} (h : k35.M w base ok x cs) : ∃ v4 v5, cs = [.int .u64 x.f0.f0, .int .u64 x.f0.f1, .int .u64 x.f1.f0, .int .u64 x.f1.f1, v4, v5] ∧ k49.R 49 w base ok v4 x.f2 ∧ k64.R 64 w base ok v5 x.f3 := by
  obtain ⟨_, _, rfl, s0, ⟨_, _, rfl, s2, ⟨_, _, rfl, ⟨v4, rfl, g4⟩, ⟨v5, rfl, g5⟩⟩⟩⟩ := h
  obtain rfl := k31_openM s0
  obtain rfl := k31_openM s2
  exact ⟨v4, v5, rfl, g4, g5⟩
theorem k35_mk (w : World) (x : S35) {A4 : Option Addr} {c4 : Nat} (l4 : x.f2.length ≤ c4) (g4 : k49.C w A4 x.f2.length x.f2) {A5 : Option Addr} {c5 : Nat} (l5 : x.f3.length ≤ c5) (g5 : k64.C w A5 x.f3.length x.f3) : k35.K w x [.int .u64 x.f0.f0, .int .u64 x.f0.f1, .int .u64 x.f1.f0, .int .u64 x.f1.f1, .slice A4 x.f2.length c4, .slice A5 x.f3.length c5] := ⟨[.int .u64 x.f0.f0, .int .u64 x.f0.f1], [.int .u64 x.f1.f0, .int .u64 x.f1.f1, .slice A4 x.f2.length c4, .slice A5 x.f3.length c5], rfl, (k31_mk w x.f0 ), ⟨[.int .u64 x.f1.f0, .int .u64 x.f1.f1], [.slice A4 x.f2.length c4, .slice A5 x.f3.length c5], rfl, (k31_mk w x.f1 ), ⟨[.slice A4 x.f2.length c4], [.slice A5 x.f3.length c5], rfl, ⟨A4, c4, rfl, l4, g4⟩, ⟨A5, c5, rfl, l5, g5⟩⟩⟩⟩
theorem k35_mkM (w : World) (base : Nat) (ok : Nat → Prop) (x : S35) {v4 : Value} (g4 : k49.R 49 w base ok v4 x.f2) {v5 : Value} (g5 : k64.R 64 w base ok v5 x.f3) : k35.M w base ok x [.int .u64 x.f0.f0, .int .u64 x.f0.f1, .int .u64 x.f1.f0, .int .u64 x.f1.f1, v4, v5] := ⟨[.int .u64 x.f0.f0, .int .u64 x.f0.f1], [.int .u64 x.f1.f0, .int .u64 x.f1.f1, v4, v5], rfl, (k31_mkM w base ok x.f0 ), ⟨[.int .u64 x.f1.f0, .int .u64 x.f1.f1], [v4, v5], rfl, (k31_mkM w base ok x.f1 ), ⟨[v4], [v5], rfl, ⟨v4, rfl, g4⟩, ⟨v5, rfl, g5⟩⟩⟩⟩
def rd_T35 (xs : List S35) (i : Int) : S35 := xs.getD i.toNat z35
theorem at_T35 {w : World} {A : Option Addr} {n : Nat} {xs : List S35} (h : Kd.C k35 w A n xs) (i : Int) (h0 : 0 ≤ i) (h1 : i < n) : ∃ ad A4 c4 A5 c5, A = some ad ∧ w.cell? (ad.add (i.toNat * 6)) = some (.int .u64 (rd_T35 xs i).f0.f0) ∧ w.cell? ⟨(ad.add (i.toNat * 6)).block, (ad.add (i.toNat * 6)).off + 1, none⟩ = some (.int .u64 (rd_T35 xs i).f0.f1) ∧ w.cell? ⟨(ad.add (i.toNat * 6)).block, (ad.add (i.toNat * 6)).off + 2, none⟩ = some (.int .u64 (rd_T35 xs i).f1.f0) ∧ w.cell? ⟨(ad.add (i.toNat * 6)).block, (ad.add (i.toNat * 6)).off + 3, none⟩ = some (.int .u64 (rd_T35 xs i).f1.f1) ∧ w.cell? ⟨(ad.add (i.toNat * 6)).block, (ad.add (i.toNat * 6)).off + 4, none⟩ = some (.slice A4 (rd_T35 xs i).f2.length c4) ∧ w.cell? ⟨(ad.add (i.toNat * 6)).block, (ad.add (i.toNat * 6)).off + 5, none⟩ = some (.slice A5 (rd_T35 xs i).f3.length c5) ∧ (rd_T35 xs i).f2.length ≤ c4 ∧ k49.C w A4 (rd_T35 xs i).f2.length (rd_T35 xs i).f2 ∧ (rd_T35 xs i).f3.length ≤ c5 ∧ k64.C w A5 (rd_T35 xs i).f3.length (rd_T35 xs i).f3 := by
  obtain ⟨ad, c, e, _, hK, hc0⟩ := Kd.C_get h z35 i h0 h1
  have hc : ∀ j u, c[j]? = some u → w.cell? (ad.add (i.toNat * 6 + j)) = some u := hc0
  obtain ⟨A4, c4, A5, c5, rfl, l4, g4, l5, g5⟩ := k35_open hK
  exact ⟨ad, A4, c4, A5, c5, e, hc 0 _ rfl, by rw [← add_field _ _ 1 (by omega)]; exact hc 1 _ rfl, by rw [← add_field _ _ 2 (by omega)]; exact hc 2 _ rfl, by rw [← add_field _ _ 3 (by omega)]; exact hc 3 _ rfl, by rw [← add_field _ _ 4 (by omega)]; exact hc 4 _ rfl, by rw [← add_field _ _ 5 (by omega)]; exact hc 5 _ rfl, l4, g4, l5, g5⟩

/-! #### struct type 38 -/
structure S38 where
  f0 : Int
  f1 : Int
  f2 : Int
  f3 : Int
  f4 : Int
  f5 : S35
def z38 : S38 := ⟨(0 : Int), (0 : Int), (0 : Int), (0 : Int), (0 : Int), z35⟩
def k38 : Kd S38 := Kd.iso (Kd.pair (Kd.int .i64) (Kd.pair (Kd.int .u64) (Kd.pair (Kd.int .u64) (Kd.pair (Kd.int .u64) (Kd.pair (Kd.int .i64) k35))))) (fun x : S38 => (x.f0, x.f1, x.f2, x.f3, x.f4, x.f5))
theorem k38_open {w : World} {x : S38} {cs : List Value} (h : k38.K w x cs) : ∃ A9 c9 A10 c10, cs = [.int .i64 x.f0, .int .u64 x.f1, .int .u64 x.f2, .int .u64 x.f3, .int .i64 x.f4, .int .u64 x.f5.f0.f0, .int .u64 x.f5.f0.f1, .int .u64 x.f5.f1.f0, .int .u64 x.f5.f1.f1, .slice A9 x.f5.f2.length c9, .slice A10 x.f5.f3.length c10] ∧ x.f5.f2.length ≤ c9 ∧ k49.C w A9 x.f5.f2.length x.f5.f2 ∧ x.f5.f3.length ≤ c10 ∧ k64.C w A10 x.f5.f3.length x.f5.f3 := by
  obtain ⟨_, _, rfl, rfl, ⟨_, _, rfl, rfl, ⟨_, _, rfl, rfl, ⟨_, _, rfl, rfl, ⟨_, _, rfl, rfl, s5⟩⟩⟩⟩⟩ := h
  obtain ⟨A9, c9, A10, c10, rfl, l9, g9, l10, g10⟩ := k35_open s5
  exact ⟨A9, c9, A10, c10, rfl, l9, g9, l10, g10⟩
theorem k38_openM {w : World} {base : Nat} {ok : Nat → Prop} {x : S38} {cs : List Value} (h : k38.M w base ok x cs) : ∃ v9 v10, cs = [.int .i64 x.f0, .int .u64 x.f1, .int .u64 x.f2, .int .u64 x.f3, .int .i64 x.f4, .int .u64 x.f5.f0.f0, .int .u64 x.f5.f0.f1, .int .u64 x.f5.f1.f0, .int .u64 x.f5.f1.f1, v9, v10] ∧ k49.R 49 w base ok v9 x.f5.f2 ∧ k64.R 64 w base ok v10 x.f5.f3 := by
  obtain ⟨_, _, rfl, rfl, ⟨_, _, rfl, rfl, ⟨_, _, rfl, rfl, ⟨_, _, rfl, rfl, ⟨_, _, rfl, rfl, s5⟩⟩⟩⟩⟩ := h
  obtain ⟨v9, v10, rfl, g9, g10⟩ := k35_openM s5
  exact ⟨v9, v10, rfl, g9, g10⟩
theorem k38_mk (w : World) (x : S38) {A9 : Option Addr} {c9 : Nat} (l9 : x.f5.f2.length ≤ c9) (g9 : k49.C w A9 x.f5.f2.length x.f5.f2) {A10 : Option Addr} {c10 : Nat} (l10 : x.f5.f3.length ≤ c10) (g10 : k64.C w A10 x.f5.f3.length x.f5.f3) : k38.K w x [.int .i64 x.f0, .int .u64 x.f1, .int .u64 x.f2, .int .u64 x.f3, .int .i64 x.f4, .int .u64 x.f5.f0.f0, .int .u64 x.f5.f0.f1, .int .u64 x.f5.f1.f0, .int .u64 x.f5.f1.f1, .slice A9 x.f5.f2.length c9, .slice A10 x.f5.f3.length c10] := ⟨[.int .i64 x.f0], [.int .u64 x.f1, .int .u64 x.f2, .int .u64 x.f3, .int .i64 x.f4, .int .u64 x.f5.f0.f0, .int .u64 x.f5.f0.f1, .int .u64 x.f5.f1.f0, .int .u64 x.f5.f1.f1, .slice A9 x.f5.f2.length c9, .slice A10 x.f5.f3.length c10], rfl, rfl, ⟨[.int .u64 x.f1], [.int .u64 x.f2, .int .u64 x.f3, .int .i64 x.f4, .int .u64 x.f5.f0.f0, .int .u64 x.f5.f0.f1, .int .u64 x.f5.f1.f0, .int .u64 x.f5.f1.f1, .slice A9 x.f5.f2.length c9, .slice A10 x.f5.f3.length c10], rfl, rfl, ⟨[.int .u64 x.f2], [.int .u64 x.f3, .int .i64 x.f4, .int .u64 x.f5.f0.f0, .int .u64 x.f5.f0.f1, .int .u64 x.f5.f1.f0, .int .u64 x.f5.f1.f1, .slice A9 x.f5.f2.length c9, .slice A10 x.f5.f3.length c10], rfl, rfl, ⟨[.int .u64 x.f3], [.int .i64 x.f4, .int .u64 x.f5.f0.f0, .int .u64 x.f5.f0.f1, .int .u64 x.f5.f1.f0, .int .u64 x.f5.f1.f1, .slice A9 x.f5.f2.length c9, .slice A10 x.f5.f3.length c10], rfl, rfl, ⟨[.int .i64 x.f4], [.int .u64 x.f5.f0.f0, .int .u64 x.f5.f0.f1, .int .u64 x.f5.f1.f0, .int .u64 x.f5.f1.f1, .slice A9 x.f5.f2.length c9, .slice A10 x.f5.f3.length c10], rfl, rfl, (k35_mk w x.f5 l9 g9 l10 g10)⟩⟩⟩⟩⟩
theorem k38_mkM (w : World) (base : Nat) (ok : Nat → Prop) (x : S38) {v9 : Value} (g9 : k49.R 49 w base ok v9 x.f5.f2) {v10 : Value} (g10 : k64.R 64 w base ok v10 x.f5.f3) : k38.M w base ok x [.int .i64 x.f0, .int .u64 x.f1, .int .u64 x.f2, .int .u64 x.f3, .int .i64 x.f4, .int .u64 x.f5.f0.f0, .int .u64 x.f5.f0.f1, .int .u64 x.f5.f1.f0, .int .u64 x.f5.f1.f1, v9, v10] := ⟨[.int .i64 x.f0], [.int .u64 x.f1, .int .u64 x.f2, .int .u64 x.f3, .int .i64 x.f4, .int .u64 x.f5.f0.f0, .int .u64 x.f5.f0.f1, .int .u64 x.f5.f1.f0, .int .u64 x.f5.f1.f1, v9, v10], rfl, rfl, ⟨[.int .u64 x.f1], [.int .u64 x.f2, .int .u64 x.f3, .int .i64 x.f4, .int .u64 x.f5.f0.f0, .int .u64 x.f5.f0.f1, .int .u64 x.f5.f1.f0, .int .u64 x.f5.f1.f1, v9, v10], rfl, rfl, ⟨[.int .u64 x.f2], [.int .u64 x.f3, .int .i64 x.f4, .int .u64 x.f5.f0.f0, .int .u64 x.f5.f0.f1, .int .u64 x.f5.f1.f0, .int .u64 x.f5.f1.f1, v9, v10], rfl, rfl, ⟨[.int .u64 x.f3], [.int .i64 x.f4, .int .u64 x.f5.f0.f0, .int .u64 x.f5.f0.f1, .int .u64 x.f5.f1.f0, .int .u64 x.f5.f1.f1, v9, v10], rfl, rfl, ⟨[.int .i64 x.f4], [.int .u64 x.f5.f0.f0, .int .u64 x.f5.f0.f1, .int .u64 x.f5.f1.f0, .int .u64 x.f5.f1.f1, v9, v10], rfl, rfl, (k35_mkM w base ok x.f5 g9 g10)⟩⟩⟩⟩⟩
def rd_T38 (xs : List S38) (i : Int) : S38 := xs.getD i.toNat z38
theorem at_T38 {w : World} {A : Option Addr} {n : Nat} {xs : List S38} (h : Kd.C k38 w A n xs) (i : Int) (h0 : 0 ≤ i) (h1 : i < n) : ∃ ad A9 c9 A10 c10, A = some ad ∧ w.cell? (ad.add (i.toNat * 11)) = some (.int .i64 (rd_T38 xs i).f0) ∧ w.cell? ⟨(ad.add (i.toNat * 11)).block, (ad.add (i.toNat * 11)).off + 1, none⟩ = some (.int .u64 (rd_T38 xs i).f1) ∧ w.cell? ⟨(ad.add (i.toNat * 11)).block, (ad.add (i.toNat * 11)).off + 2, none⟩ = some (.int .u64 (rd_T38 xs i).f2) ∧ w.cell? ⟨(ad.add (i.toNat * 11)).block, (ad.add (i.toNat * 11)).off + 3, none⟩ = some (.int .u64 (rd_T38 xs i).f3) ∧ w.cell? ⟨(ad.add (i.toNat * 11)).block, (ad.add (i.toNat * 11)).off + 4, none⟩ = some (.int .i64 (rd_T38 xs i).f4) ∧ w.cell? ⟨(ad.add (i.toNat * 11)).block, (ad.add (i.toNat * 11)).off + 5, none⟩ = some (.int .u64 (rd_T38 xs i).f5.f0.f0) ∧ w.cell? ⟨(ad.add (i.toNat * 11)).block, (ad.add (i.toNat * 11)).off + 6, none⟩ = some (.int .u64 (rd_T38 xs i).f5.f0.f1) ∧ w.cell? ⟨(ad.add (i.toNat * 11)).block, (ad.add (i.toNat * 11)).off + 7, none⟩ = some (.int .u64 (rd_T38 xs i).f5.f1.f0) ∧ w.cell? ⟨(ad.add (i.toNat * 11)).block, (ad.add (i.toNat * 11)).off + 8, none⟩ = some (.int .u64 (rd_T38 xs i).f5.f1.f1) ∧ w.cell? ⟨(ad.add (i.toNat * 11)).block, (ad.add (i.toNat * 11)).off + 9, none⟩ = some (.slice A9 (rd_T38 xs i).f5.f2.length c9) ∧ w.cell? ⟨(ad.add (i.toNat * 11)).block, (ad.add (i.toNat * 11)).off + 10, none⟩ = some (.slice A10 (rd_T38 xs i).f5.f3.length c10) ∧ (rd_T38 xs i).f5.f2.length ≤ c9 ∧ k49.C w A9 (rd_T38 xs i).f5.f2.length (rd_T38 xs i).f5.f2 ∧ (rd_T38 xs i).f5.f3.length ≤ c10 ∧ k64.C w A10 (rd_T38 xs i).f5.f3.length (rd_T38 xs i).f5.f3 := by
  obtain ⟨ad, c, e, _, hK, hc0⟩ := Kd.C_get h z38 i h0 h1
  have hc : ∀ j u, c[j]? = some u → w.cell? (ad.add (i.toNat * 11 + j)) = some u := hc0
  obtain ⟨A9, c9, A10, c10, rfl, l9, g9, l10, g10⟩ := k38_open hK
  exact ⟨ad, A9, c9, A10, c10, e, hc 0 _ rfl, by rw [← add_field _ _ 1 (by omega)]; exact hc 1 _ rfl, by rw [← add_field _ _ 2 (by omega)]; exact hc 2 _ rfl, by rw [← add_field _ _ 3 (by omega)]; exact hc 3 _ rfl, by rw [← add_field _ _ 4 (by omega)]; exact hc 4 _ rfl, by rw [← add_field _ _ 5 (by omega)]; exact hc 5 _ rfl, by rw [← add_field _ _ 6 (by omega)]; exact hc 6 _ rfl, by rw [← add_field _ _ 7 (by omega)]; exact hc 7 _ rfl, by rw [← add_field _ _ 8 (by omega)]; exact hc 8 _ rfl, by rw [← add_field _ _ 9 (by omega)]; exact hc 9 _ rfl, by rw [← add_field _ _ 10 (by omega)]; exact hc 10 _ rfl, l9, g9, l10, g10⟩

end Go.Proofs.YtpbhblppehkifaaDoor.PFnConsumer
