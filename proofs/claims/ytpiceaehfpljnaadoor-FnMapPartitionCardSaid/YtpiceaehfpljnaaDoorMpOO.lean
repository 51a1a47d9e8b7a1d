/- The walks of Itoa, of fnv and of getHashPartition. -/
import Derived.Test.YtpiceaehfpljnaaDoorMpNN
namespace Go.Proofs.YtpiceaehfpljnaaDoor
open Go.RowKit Mp
attribute [local go_sem ↓] Go.wp_at_zero Go.wp_at_succ
set_option linter.unusedVariables false
set_option linter.unusedSimpArgs false
set_option maxRecDepth 1000000
set_option maxHeartbeats 8000000

theorem fmti_any (v : Nat) (hv : v < 4294967296) (w : World) : Calls Tryd.prog 80 #[.int .i64 (v : Nat), .int .i64 10] w fun e w' => e = .returned (.string (strOf (dig v))) ∧ Below w.heap.size w w' := by
  have H := Lib.hid (fmtu_any v hv w)
  have d1 : decide ((v : Int) < 0) = false := decide_eq_false (by omega)
  have hw : IntKind.u64.wrap (v : Int) = (v : Int) := IntWalk.u64_in _ ⟨by omega, by omega⟩
  go_enter Tryd.func80, Tryd.ntmps80
  go_wp2_with fail
  refine H.out.mono ?_
  rintro e w' ⟨rfl, hb⟩
  have HB := Lib.hid hb
  clear hb
  go_wp2_with fail
  go_ret
  exact ⟨rfl, HB.out⟩
theorem itoa_any (v : Nat) (hv : v < 4294967296) (w : World) : Calls Tryd.prog 69 #[.int .i64 (v : Nat)] w fun e w' => e = .returned (.string (strOf (dig v))) ∧ Below w.heap.size w w' := by
  have H := Lib.hid (fmti_any v hv w)
  go_enter Tryd.func69, Tryd.ntmps69
  go_wp2_with fail
  refine H.out.mono ?_
  rintro e w' ⟨rfl, hb⟩
  have HB := Lib.hid hb
  clear hb
  go_wp2_with fail
  go_ret
  exact ⟨rfl, HB.out⟩
theorem new32_any (w : World) : Calls Tryd.prog 68 #[] w fun e w' => e = .returned (.iface 127 (.pointer (some ⟨w.heap.size, 0, none⟩))) ∧ (w'.cell? ⟨w.heap.size, 0, none⟩ = some (.int .u32 2166136261) ∧ w'.frozen? ⟨w.heap.size, 0, none⟩ = false) ∧ Below w.heap.size w w' := by
  have hN := heap_alloc_last w (.cells #[.int .u32 2166136261] 126)
  have HN := Lib.hid hN
  clear hN
  go_enter Tryd.func68, Tryd.ntmps68
  go_wp2_with fail
  go_ret
  exact ⟨rfl, ⟨by rw [Lib.cell_of_heap HN.out]; rfl, Lib.frozen_of_heap HN.out 0⟩, (Below.refl _ w).alloc (Nat.le_refl _) _⟩
/-- The bytes of a key. -/
def KeyAt (W : World) (A : Option Addr) (key : List UInt8) : Prop := ∀ j (h : j < key.length), ∃ b, A = some b ∧ W.cell? (b.add j) = some (.int .u8 (((key[j]'h).toNat : Nat) : Int))
/-- One byte more. -/
def fnv1 (h : Int) (c : UInt8) : Int := Go.bits .xor .u32 h (c.toNat : Int) * 16777619 % 4294967296
def fnvL (key : List UInt8) : Int := key.foldl fnv1 2166136261
theorem fnvwrite_any (key : List UInt8) (hk : key.length < 1000) (A : Option Addr) (c p : Nat) (w : World) (hp : w.cell? ⟨p, 0, none⟩ = some (.int .u32 2166136261) ∧ w.frozen? ⟨p, 0, none⟩ = false) (hA : KeyAt w A key) :
    Calls Tryd.prog 113 #[.pointer (some ⟨p, 0, none⟩), .slice A key.length c] w fun e w' => (∃ n, e = .returned (.tuple #[.int .i64 n, .nilIface])) ∧ w' = w.setCell ⟨p, 0, none⟩ (.int .u32 (fnvL key)) := by
  have HA := Lib.hid hA
  obtain ⟨hp1, hp2⟩ := hp
  go_enter Tryd.func113, Tryd.ntmps113
  go_wp2_with fail
  go_loopg [6, 14] key.length (fun gk v6 v14 w' => ∃ k : Nat, v6 = .int .u32 ((key.take k).foldl fnv1 2166136261) ∧ v14 = .int .i64 (k : Nat) ∧ gk + k = key.length ∧ w' = w)
  case atStart => exact ⟨0, rfl, rfl, rfl, rfl⟩
  case round =>
    obtain ⟨k, rfl, rfl, hgk, rfl⟩ := hrel
    by_cases hk2 : k < key.length
    · have d1 : decide ((k : Int) < (key.length : Int)) = true := decide_eq_true (by omega)
      have d2 : decide (k < key.length) = true := decide_eq_true hk2
      obtain ⟨b, rfl, c0⟩ := HA.out k hk2
      have hst : (key.take (k + 1)).foldl fnv1 2166136261 = fnv1 ((key.take k).foldl fnv1 2166136261) (key[k]'hk2) := by
        rw [List.take_add_one, List.getElem?_eq_getElem hk2, Option.toList_some, List.foldl_append]
        rfl
      obtain ⟨h, hh⟩ : ∃ h, (key.take k).foldl fnv1 2166136261 = h := ⟨_, rfl⟩
      obtain ⟨ch, hch⟩ : ∃ ch : UInt8, key[k]'hk2 = ch := ⟨_, rfl⟩
      rw [hh, hch] at hst
      rw [hch] at c0
      rw [hh]
      have HST := Lib.hid hst
      clear hh hch hst
      have hlt := ch.toNat_lt
      have hw : IntKind.u32.wrap ((ch.toNat : Nat) : Int) = ((ch.toNat : Nat) : Int) := IntWalk.u32_in _ ⟨by omega, by omega⟩
      go_wp2_with fail
      go_roundg (gk - 1)
      case measure => omega
      case rel => exact ⟨k + 1, by rw [HST.out]; rfl, by simp, by omega, rfl⟩
    · have d1 : decide ((k : Int) < (key.length : Int)) = false := decide_eq_false (by omega)
      have d2 : decide (k < key.length) = false := decide_eq_false (by omega)
      obtain rfl : k = key.length := by omega
      rw [List.take_length]
      go_wp2_with fail
      go_ret2
      exact ⟨⟨_, rfl⟩, rfl⟩
theorem fnv_range (key : List UInt8) : 0 ≤ fnvL key ∧ fnvL key < 4294967296 := by
  unfold fnvL
  rcases List.eq_nil_or_concat key with h | ⟨r, c, h⟩
  · rw [h]; decide
  · rw [h, List.concat_eq_append, List.foldl_append]
    show 0 ≤ _ % (4294967296 : Int) ∧ _ % (4294967296 : Int) < 4294967296
    omega
theorem sum32_any (p : Nat) (h : Int) (w : World) (hc : w.cell? ⟨p, 0, none⟩ = some (.int .u32 h)) : Calls Tryd.prog 112 #[.pointer (some ⟨p, 0, none⟩)] w fun e w' => e = .returned (.int .u32 h) ∧ w' = w := by
  go_enter Tryd.func112, Tryd.ntmps112
  go_wp2_with fail
  go_ret
  exact ⟨rfl, rfl⟩
theorem meth_write (p : Option Addr) (W : World) : (method 256 127 (.pointer p) "Write").run Tryd.prog W = .ok (113, .pointer p) W := by kernel_rfl
theorem meth_sum (p : Option Addr) (W : World) : (method 256 127 (.pointer p) "Sum32").run Tryd.prog W = .ok (112, .pointer p) W := by kernel_rfl
/-- The partition of a key. -/
def partOf (key : List UInt8) (m : Nat) : Nat := (fnvL key).toNat % m
theorem hash_any (tr : Value) (key : List UInt8) (hk : key.length < 1000) (A : Option Addr) (c m : Nat) (hm : 1 ≤ m ∧ m ≤ 1000) (w : World) (hA : KeyAt w A key) (hAl : ∀ b, A = some b → b.block < w.heap.size) :
    Calls Tryd.prog 52 #[tr, .slice A key.length c, .int .i64 (m : Nat)] w fun e w' => e = .returned (.string (strOf (dig (partOf key m)))) ∧ Below w.heap.size w w' := by
  have HA := Lib.hid hA
  have HAL := Lib.hid hAl
  have e0 : ((m : Int) == 0) = false := beq_eq_false_iff_ne.2 (by omega)
  have e1 : (m == 0) = false := beq_eq_false_iff_ne.2 (by omega)
  have hrg := fnv_range key
  obtain ⟨H, hH⟩ : ∃ H : Nat, fnvL key = (H : Int) := ⟨(fnvL key).toNat, by omega⟩
  have hpo : partOf key m = H % m := by unfold partOf; rw [hH]; rfl
  rw [hH] at hrg
  rw [hpo]
  have HH := Lib.hid hH
  clear hA hAl hpo hH
  go_enter Tryd.func52, Tryd.ntmps52
  go_wp2_with fail
  refine (new32_any w).mono ?_
  rintro e w1 ⟨rfl, hc, hb⟩
  have HB := Lib.hid hb
  have HC := Lib.hid hc
  clear hb hc
  have mw := meth_write
  have ms := meth_sum
  have hA1 : KeyAt w1 A key := fun j hj => by
    obtain ⟨b, rfl, hb⟩ := HA.out j hj
    refine ⟨b, rfl, ?_⟩
    have hbl := HAL.out b rfl
    rw [HB.out.cell (p := b.add j) (by unfold Addr.add; split <;> exact hbl)]
    exact hb
  have HW := Lib.hid (fnvwrite_any key hk A c w.heap.size w1 HC.out hA1)
  clear hA1
  rw [HH.out] at HW
  have HB2 : Hid (Below w.heap.size w (w1.setCell ⟨w.heap.size, 0, none⟩ (.int .u32 (H : Int)))) := Lib.hid (HB.out.setCell (p := ⟨w.heap.size, 0, none⟩) (Nat.le_refl _) _)
  have hc2 : (w1.setCell ⟨w.heap.size, 0, none⟩ (.int .u32 (H : Int))).cell? ⟨w.heap.size, 0, none⟩ = some (.int .u32 (H : Int)) := World.cell?_setCell_same' _ _ _ (by rw [HC.out.1]; rfl)
  obtain ⟨W2, hW2⟩ : ∃ W2, W2 = w1.setCell ⟨w.heap.size, 0, none⟩ (.int .u32 (H : Int)) := ⟨_, rfl⟩
  rw [← hW2] at HB2 hc2 HW
  have HS := Lib.hid (sum32_any w.heap.size H W2 hc2)
  have hI := itoa_any (H % m) (Nat.lt_of_le_of_lt (Nat.mod_le _ _) (by omega)) W2
  rw [show (((H % m : Nat)) : Int) = (H : Int) % (m : Int) from rfl] at hI
  have hml := Nat.mod_lt H (show 0 < m by omega)
  have hwr : wrap64 ((H : Int) % (m : Int)) = (H : Int) % (m : Int) := by
    rw [show (H : Int) % (m : Int) = ((H % m : Nat) : Int) from rfl]
    exact IntWalk.wrap64_in _ ⟨by omega, by omega⟩
  rw [← hwr] at hI
  have HI := Lib.hid hI
  have wm : IntKind.u32.wrap (m : Int) = (m : Int) := IntWalk.u32_in _ ⟨by omega, by omega⟩
  clear hW2 hc2 hI HC HA HAL HB HH hwr hml
  go_wp2_with fail
  refine HW.out.mono ?_
  rintro e W3 ⟨⟨n, rfl⟩, rfl⟩
  go_wp2_with fail
  refine HS.out.mono ?_
  rintro e W4 ⟨rfl, rfl⟩
  go_wp2_with fail
  refine HI.out.mono ?_
  rintro e W5 ⟨rfl, hb⟩
  have HB5 := Lib.hid (HB2.out.trans (hb.mono HB2.out.size))
  clear hb
  go_wp2_with fail
  go_ret
  exact ⟨rfl, HB5.out⟩
end Go.Proofs.YtpiceaehfpljnaaDoor
