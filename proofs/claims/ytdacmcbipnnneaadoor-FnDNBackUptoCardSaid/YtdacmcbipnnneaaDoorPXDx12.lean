-- Printed by a program of this session (wip/tools/xprint.py), which turns the kit's print: functions by contract are left out. Lean checks it.
import Derived.Test.YtdacmcbipnnneaaDoorPXDx0
import Derived.Test.YtdacmcbipnnneaaDoorPXDx10
import Derived.Test.YtdacmcbipnnneaaDoorPXDx11
namespace Go.Proofs.YtdacmcbipnnneaaDoor.PXD
open Go.RowKit Go.Proofs.YtdacmcbipnnneaaDoorW.PrintWords Go.Proofs.YtdacmcbipnnneaaDoorW.PrintLast Go.Proofs.YtdacmcbipnnneaaDoorW.PrintMore
attribute [local go_sem] max2_int min2_int max_two min_two max_three min_three max_four min_four   -- for this text's walks alone
set_option linter.unusedVariables false
set_option linter.unusedSimpArgs false

/-! ### spec_WriteDN: function 8 -/
mutual
noncomputable def spec_WriteDN.l0 : Nat → ByteArray → List (List (S34)) → Int → Int → Option (ByteArray × Bool)
  | 0, _, _, _, _ => none
  | k + 1, x4, x11, x12, x13 => if x13 < x12 then (if 0 ≤ x13 then (if x13 < (x11.length : Int) then (if x13 > 0 then (if x4.size + 1 ≤ 9223372036854775807 then (spec_WriteDN.j1 k (x4 ++ (⟨#[44]⟩ : ByteArray)) (rd_L2 x11 x13) x11 x12 x13) else (none)) else (spec_WriteDN.j1 k x4 (rd_L2 x11 x13) x11 x12 x13)) else (none)) else (none)) else (some (x4, true))
noncomputable def spec_WriteDN.j1 : Nat → ByteArray → List (S34) → List (List (S34)) → Int → Int → Option (ByteArray × Bool)
  | 0, _, _, _, _, _ => none
  | k + 1, x4, x6, x11, x12, x13 => spec_WriteDN.l1 k x4 x6 x11 x12 x13 x6 (x6.length : Int) 0
noncomputable def spec_WriteDN.l1 : Nat → ByteArray → List (S34) → List (List (S34)) → Int → Int → List (S34) → Int → Int → Option (ByteArray × Bool)
  | 0, _, _, _, _, _, _, _, _ => none
  | k + 1, x4, x6, x11, x12, x13, x22, x23, x24 => if x24 < x23 then (if 0 ≤ x24 then (if x24 < (x22.length : Int) then (if x24 > 0 then (if x4.size + 1 ≤ 9223372036854775807 then (spec_WriteDN.j3 k (x4 ++ (⟨#[43]⟩ : ByteArray)) x6 x11 x12 x13 x22 x23 x24 ((rd_T34 x22 x24).f0) ((rd_T34 x22 x24).f1)) else (none)) else (spec_WriteDN.j3 k x4 x6 x11 x12 x13 x22 x23 x24 ((rd_T34 x22 x24).f0) ((rd_T34 x22 x24).f1))) else (none)) else (none)) else (if (x6.length : Int) = 0 then (some ((⟨#[]⟩ : ByteArray), false)) else (spec_WriteDN.l0 k x4 x11 x12 (wrap64 (x13 + 1))))
noncomputable def spec_WriteDN.j3 : Nat → ByteArray → List (S34) → List (List (S34)) → Int → Int → List (S34) → Int → Int → ByteArray → ByteArray → Option (ByteArray × Bool)
  | 0, _, _, _, _, _, _, _, _, _, _ => none
  | k + 1, x4, x6, x11, x12, x13, x22, x23, x24, x223000, x223001 => (spec_dnType.f k x223000).bind fun t223 => (if t223 = true then (spec_WriteDN.j4 k x4 x6 x11 x12 x13 x22 x23 x24 (x223001.toList == ([] : List UInt8)) x223000 x223001) else (spec_WriteDN.j4 k x4 x6 x11 x12 x13 x22 x23 x24 true x223000 x223001))
noncomputable def spec_WriteDN.j4 : Nat → ByteArray → List (S34) → List (List (S34)) → Int → Int → List (S34) → Int → Int → Bool → ByteArray → ByteArray → Option (ByteArray × Bool)
  | 0, _, _, _, _, _, _, _, _, _, _, _ => none
  | k + 1, x4, x6, x11, x12, x13, x22, x23, x24, x41, x223000, x223001 => if x41 = true then (some ((⟨#[]⟩ : ByteArray), false)) else (if x223000.size + 1 ≤ 9223372036854775807 then (if x4.size + (x223000 ++ (⟨#[61]⟩ : ByteArray)).size ≤ 9223372036854775807 then (spec_WriteDN.l2 k (x4 ++ (x223000 ++ (⟨#[61]⟩ : ByteArray))) x6 0 x11 x12 x13 x22 x23 x24 x223000 x223001) else (none)) else (none))
noncomputable def spec_WriteDN.l2 : Nat → ByteArray → List (S34) → Int → List (List (S34)) → Int → Int → List (S34) → Int → Int → ByteArray → ByteArray → Option (ByteArray × Bool)
  | 0, _, _, _, _, _, _, _, _, _, _, _ => none
  | k + 1, x4, x6, x9, x11, x12, x13, x22, x23, x24, x223000, x223001 => if x9 < (x223001.size : Int) then (if 0 ≤ x9 then (if (bt x223001 x9) < 32 then (spec_WriteDN.j6 k x4 x6 x9 (bt x223001 x9) x11 x12 x13 x22 x23 x24 true x223000 x223001) else (spec_WriteDN.j6 k x4 x6 x9 (bt x223001 x9) x11 x12 x13 x22 x23 x24 (decide ((bt x223001 x9) > 126)) x223000 x223001)) else (none)) else (spec_WriteDN.l1 k x4 x6 x11 x12 x13 x22 x23 (wrap64 (x24 + 1)))
noncomputable def spec_WriteDN.j6 : Nat → ByteArray → List (S34) → Int → Int → List (List (S34)) → Int → Int → List (S34) → Int → Int → Bool → ByteArray → ByteArray → Option (ByteArray × Bool)
  | 0, _, _, _, _, _, _, _, _, _, _, _, _, _ => none
  | k + 1, x4, x6, x9, x10, x11, x12, x13, x22, x23, x24, x66, x223000, x223001 => if x66 = true then (if 0 ≤ (x10 / 16) then (if (x10 / 16) ≤ (((x10 / 16) + 1) % 256) then (if (((x10 / 16) + 1) % 256) ≤ 16 then (if 1 + ((⟨#[48, 49, 50, 51, 52, 53, 54, 55, 56, 57, 97, 98, 99, 100, 101, 102]⟩ : ByteArray).extract ((x10 / 16) : Int).toNat ((((x10 / 16) + 1) % 256) : Int).toNat).size ≤ 9223372036854775807 then (if 0 ≤ (Go.bits .and .u8 x10 15) then (if (Go.bits .and .u8 x10 15) ≤ (((Go.bits .and .u8 x10 15) + 1) % 256) then (if (((Go.bits .and .u8 x10 15) + 1) % 256) ≤ 16 then (if ((⟨#[92]⟩ : ByteArray) ++ ((⟨#[48, 49, 50, 51, 52, 53, 54, 55, 56, 57, 97, 98, 99, 100, 101, 102]⟩ : ByteArray).extract ((x10 / 16) : Int).toNat ((((x10 / 16) + 1) % 256) : Int).toNat)).size + ((⟨#[48, 49, 50, 51, 52, 53, 54, 55, 56, 57, 97, 98, 99, 100, 101, 102]⟩ : ByteArray).extract ((Go.bits .and .u8 x10 15) : Int).toNat ((((Go.bits .and .u8 x10 15) + 1) % 256) : Int).toNat).size ≤ 9223372036854775807 then (if x4.size + (((⟨#[92]⟩ : ByteArray) ++ ((⟨#[48, 49, 50, 51, 52, 53, 54, 55, 56, 57, 97, 98, 99, 100, 101, 102]⟩ : ByteArray).extract ((x10 / 16) : Int).toNat ((((x10 / 16) + 1) % 256) : Int).toNat)) ++ ((⟨#[48, 49, 50, 51, 52, 53, 54, 55, 56, 57, 97, 98, 99, 100, 101, 102]⟩ : ByteArray).extract ((Go.bits .and .u8 x10 15) : Int).toNat ((((Go.bits .and .u8 x10 15) + 1) % 256) : Int).toNat)).size ≤ 9223372036854775807 then (spec_WriteDN.l2 k (x4 ++ (((⟨#[92]⟩ : ByteArray) ++ ((⟨#[48, 49, 50, 51, 52, 53, 54, 55, 56, 57, 97, 98, 99, 100, 101, 102]⟩ : ByteArray).extract ((x10 / 16) : Int).toNat ((((x10 / 16) + 1) % 256) : Int).toNat)) ++ ((⟨#[48, 49, 50, 51, 52, 53, 54, 55, 56, 57, 97, 98, 99, 100, 101, 102]⟩ : ByteArray).extract ((Go.bits .and .u8 x10 15) : Int).toNat ((((Go.bits .and .u8 x10 15) + 1) % 256) : Int).toNat))) x6 (wrap64 (x9 + 1)) x11 x12 x13 x22 x23 x24 x223000 x223001) else (none)) else (none)) else (none)) else (none)) else (none)) else (none)) else (none)) else (none)) else (none)) else ((spec_dnSpecial.f x10).bind fun t224 => (if t224 = true then (if 0 ≤ x9 then (if x9 ≤ (wrap64 (x9 + 1)) then (if (wrap64 (x9 + 1)) ≤ (x223001.size : Int) then (if 1 + (x223001.extract (x9 : Int).toNat ((wrap64 (x9 + 1)) : Int).toNat).size ≤ 9223372036854775807 then (if x4.size + ((⟨#[92]⟩ : ByteArray) ++ (x223001.extract (x9 : Int).toNat ((wrap64 (x9 + 1)) : Int).toNat)).size ≤ 9223372036854775807 then (spec_WriteDN.l2 k (x4 ++ ((⟨#[92]⟩ : ByteArray) ++ (x223001.extract (x9 : Int).toNat ((wrap64 (x9 + 1)) : Int).toNat))) x6 (wrap64 (x9 + 1)) x11 x12 x13 x22 x23 x24 x223000 x223001) else (none)) else (none)) else (none)) else (none)) else (none)) else (if x10 = 61 then (if 0 ≤ x9 then (if x9 ≤ (wrap64 (x9 + 1)) then (if (wrap64 (x9 + 1)) ≤ (x223001.size : Int) then (if 1 + (x223001.extract (x9 : Int).toNat ((wrap64 (x9 + 1)) : Int).toNat).size ≤ 9223372036854775807 then (if x4.size + ((⟨#[92]⟩ : ByteArray) ++ (x223001.extract (x9 : Int).toNat ((wrap64 (x9 + 1)) : Int).toNat)).size ≤ 9223372036854775807 then (spec_WriteDN.l2 k (x4 ++ ((⟨#[92]⟩ : ByteArray) ++ (x223001.extract (x9 : Int).toNat ((wrap64 (x9 + 1)) : Int).toNat))) x6 (wrap64 (x9 + 1)) x11 x12 x13 x22 x23 x24 x223000 x223001) else (none)) else (none)) else (none)) else (none)) else (none)) else (if x10 = 32 then (if x9 = 0 then (if 0 ≤ x9 then (if x9 ≤ (wrap64 (x9 + 1)) then (if (wrap64 (x9 + 1)) ≤ (x223001.size : Int) then (if 1 + (x223001.extract (x9 : Int).toNat ((wrap64 (x9 + 1)) : Int).toNat).size ≤ 9223372036854775807 then (if x4.size + ((⟨#[92]⟩ : ByteArray) ++ (x223001.extract (x9 : Int).toNat ((wrap64 (x9 + 1)) : Int).toNat)).size ≤ 9223372036854775807 then (spec_WriteDN.l2 k (x4 ++ ((⟨#[92]⟩ : ByteArray) ++ (x223001.extract (x9 : Int).toNat ((wrap64 (x9 + 1)) : Int).toNat))) x6 (wrap64 (x9 + 1)) x11 x12 x13 x22 x23 x24 x223000 x223001) else (none)) else (none)) else (none)) else (none)) else (none)) else (if x9 = (wrap64 ((x223001.size : Int) - 1)) then (if 0 ≤ x9 then (if x9 ≤ (wrap64 (x9 + 1)) then (if (wrap64 (x9 + 1)) ≤ (x223001.size : Int) then (if 1 + (x223001.extract (x9 : Int).toNat ((wrap64 (x9 + 1)) : Int).toNat).size ≤ 9223372036854775807 then (if x4.size + ((⟨#[92]⟩ : ByteArray) ++ (x223001.extract (x9 : Int).toNat ((wrap64 (x9 + 1)) : Int).toNat)).size ≤ 9223372036854775807 then (spec_WriteDN.l2 k (x4 ++ ((⟨#[92]⟩ : ByteArray) ++ (x223001.extract (x9 : Int).toNat ((wrap64 (x9 + 1)) : Int).toNat))) x6 (wrap64 (x9 + 1)) x11 x12 x13 x22 x23 x24 x223000 x223001) else (none)) else (none)) else (none)) else (none)) else (none)) else (if x10 = 35 then (if 0 ≤ x9 then (if x9 ≤ (wrap64 (x9 + 1)) then (if (wrap64 (x9 + 1)) ≤ (x223001.size : Int) then (if x4.size + (x223001.extract (x9 : Int).toNat ((wrap64 (x9 + 1)) : Int).toNat).size ≤ 9223372036854775807 then (spec_WriteDN.l2 k (x4 ++ (x223001.extract (x9 : Int).toNat ((wrap64 (x9 + 1)) : Int).toNat)) x6 (wrap64 (x9 + 1)) x11 x12 x13 x22 x23 x24 x223000 x223001) else (none)) else (none)) else (none)) else (none)) else (if 0 ≤ x9 then (if x9 ≤ (wrap64 (x9 + 1)) then (if (wrap64 (x9 + 1)) ≤ (x223001.size : Int) then (if x4.size + (x223001.extract (x9 : Int).toNat ((wrap64 (x9 + 1)) : Int).toNat).size ≤ 9223372036854775807 then (spec_WriteDN.l2 k (x4 ++ (x223001.extract (x9 : Int).toNat ((wrap64 (x9 + 1)) : Int).toNat)) x6 (wrap64 (x9 + 1)) x11 x12 x13 x22 x23 x24 x223000 x223001) else (none)) else (none)) else (none)) else (none))))) else (if x10 = 35 then (if x9 = 0 then (if 0 ≤ x9 then (if x9 ≤ (wrap64 (x9 + 1)) then (if (wrap64 (x9 + 1)) ≤ (x223001.size : Int) then (if 1 + (x223001.extract (x9 : Int).toNat ((wrap64 (x9 + 1)) : Int).toNat).size ≤ 9223372036854775807 then (if x4.size + ((⟨#[92]⟩ : ByteArray) ++ (x223001.extract (x9 : Int).toNat ((wrap64 (x9 + 1)) : Int).toNat)).size ≤ 9223372036854775807 then (spec_WriteDN.l2 k (x4 ++ ((⟨#[92]⟩ : ByteArray) ++ (x223001.extract (x9 : Int).toNat ((wrap64 (x9 + 1)) : Int).toNat))) x6 (wrap64 (x9 + 1)) x11 x12 x13 x22 x23 x24 x223000 x223001) else (none)) else (none)) else (none)) else (none)) else (none)) else (if 0 ≤ x9 then (if x9 ≤ (wrap64 (x9 + 1)) then (if (wrap64 (x9 + 1)) ≤ (x223001.size : Int) then (if x4.size + (x223001.extract (x9 : Int).toNat ((wrap64 (x9 + 1)) : Int).toNat).size ≤ 9223372036854775807 then (spec_WriteDN.l2 k (x4 ++ (x223001.extract (x9 : Int).toNat ((wrap64 (x9 + 1)) : Int).toNat)) x6 (wrap64 (x9 + 1)) x11 x12 x13 x22 x23 x24 x223000 x223001) else (none)) else (none)) else (none)) else (none))) else (if 0 ≤ x9 then (if x9 ≤ (wrap64 (x9 + 1)) then (if (wrap64 (x9 + 1)) ≤ (x223001.size : Int) then (if x4.size + (x223001.extract (x9 : Int).toNat ((wrap64 (x9 + 1)) : Int).toNat).size ≤ 9223372036854775807 then (spec_WriteDN.l2 k (x4 ++ (x223001.extract (x9 : Int).toNat ((wrap64 (x9 + 1)) : Int).toNat)) x6 (wrap64 (x9 + 1)) x11 x12 x13 x22 x23 x24 x223000 x223001) else (none)) else (none)) else (none)) else (none)))))))
end
noncomputable def spec_WriteDN.f (k : Nat) (l0 : List (List (S34))) : Option (ByteArray × Bool) := spec_WriteDN.l0 k (⟨#[]⟩ : ByteArray) l0 (l0.length : Int) 0
theorem spec_WriteDN.mono_l : ∀ k, (∀ y0 y1 y2 y3, LeO (spec_WriteDN.l0 k y0 y1 y2 y3) (spec_WriteDN.l0 (k + 1) y0 y1 y2 y3)) ∧ (∀ y0 y1 y2 y3 y4, LeO (spec_WriteDN.j1 k y0 y1 y2 y3 y4) (spec_WriteDN.j1 (k + 1) y0 y1 y2 y3 y4)) ∧ (∀ y0 y1 y2 y3 y4 y5 y6 y7, LeO (spec_WriteDN.l1 k y0 y1 y2 y3 y4 y5 y6 y7) (spec_WriteDN.l1 (k + 1) y0 y1 y2 y3 y4 y5 y6 y7)) ∧ (∀ y0 y1 y2 y3 y4 y5 y6 y7 y8 y9, LeO (spec_WriteDN.j3 k y0 y1 y2 y3 y4 y5 y6 y7 y8 y9) (spec_WriteDN.j3 (k + 1) y0 y1 y2 y3 y4 y5 y6 y7 y8 y9)) ∧ (∀ y0 y1 y2 y3 y4 y5 y6 y7 y8 y9 y10, LeO (spec_WriteDN.j4 k y0 y1 y2 y3 y4 y5 y6 y7 y8 y9 y10) (spec_WriteDN.j4 (k + 1) y0 y1 y2 y3 y4 y5 y6 y7 y8 y9 y10)) ∧ (∀ y0 y1 y2 y3 y4 y5 y6 y7 y8 y9 y10, LeO (spec_WriteDN.l2 k y0 y1 y2 y3 y4 y5 y6 y7 y8 y9 y10) (spec_WriteDN.l2 (k + 1) y0 y1 y2 y3 y4 y5 y6 y7 y8 y9 y10)) ∧ (∀ y0 y1 y2 y3 y4 y5 y6 y7 y8 y9 y10 y11 y12, LeO (spec_WriteDN.j6 k y0 y1 y2 y3 y4 y5 y6 y7 y8 y9 y10 y11 y12) (spec_WriteDN.j6 (k + 1) y0 y1 y2 y3 y4 y5 y6 y7 y8 y9 y10 y11 y12))
  | 0 => ⟨fun _ _ _ _ r h => by simp [spec_WriteDN.l0] at h, fun _ _ _ _ _ r h => by simp [spec_WriteDN.j1] at h, fun _ _ _ _ _ _ _ _ r h => by simp [spec_WriteDN.l1] at h, fun _ _ _ _ _ _ _ _ _ _ r h => by simp [spec_WriteDN.j3] at h, fun _ _ _ _ _ _ _ _ _ _ _ r h => by simp [spec_WriteDN.j4] at h, fun _ _ _ _ _ _ _ _ _ _ _ r h => by simp [spec_WriteDN.l2] at h, fun _ _ _ _ _ _ _ _ _ _ _ _ _ r h => by simp [spec_WriteDN.j6] at h⟩
  | k + 1 => by
    obtain ⟨ih0, ih1, ih2, ih3, ih4, ih5, ih6⟩ := spec_WriteDN.mono_l k
    refine ⟨?_, ?_, ?_, ?_, ?_, ?_, ?_⟩
    · intro y0 y1 y2 y3
      unfold spec_WriteDN.l0
      repeat' first
      | (with_reducible exact ih0 _ _ _ _)
      | (with_reducible exact ih1 _ _ _ _ _)
      | (with_reducible exact ih2 _ _ _ _ _ _ _ _)
      | (with_reducible exact ih3 _ _ _ _ _ _ _ _ _ _)
      | (with_reducible exact ih4 _ _ _ _ _ _ _ _ _ _ _)
      | (with_reducible exact ih5 _ _ _ _ _ _ _ _ _ _ _)
      | (with_reducible exact ih6 _ _ _ _ _ _ _ _ _ _ _ _ _)
      | (with_reducible exact spec_dnType.mono _ _)
      | (with_reducible exact LeO.refl _)
      | (with_reducible exact LeO.none _)
      | (with_reducible refine LeO.ite ?_ ?_)
      | (with_reducible refine LeO.bind ?_ (fun _ => ?_))
      | exact ih0 _ _ _ _
      | exact ih1 _ _ _ _ _
      | exact ih2 _ _ _ _ _ _ _ _
      | exact ih3 _ _ _ _ _ _ _ _ _ _
      | exact ih4 _ _ _ _ _ _ _ _ _ _ _
      | exact ih5 _ _ _ _ _ _ _ _ _ _ _
      | exact ih6 _ _ _ _ _ _ _ _ _ _ _ _ _
      | exact spec_dnType.mono _ _
      | exact LeO.none _
      | refine LeO.ite ?_ ?_
      | refine LeO.bind ?_ (fun _ => ?_)
    · intro y0 y1 y2 y3 y4
      unfold spec_WriteDN.j1
      repeat' first
      | (with_reducible exact ih0 _ _ _ _)
      | (with_reducible exact ih1 _ _ _ _ _)
      | (with_reducible exact ih2 _ _ _ _ _ _ _ _)
      | (with_reducible exact ih3 _ _ _ _ _ _ _ _ _ _)
      | (with_reducible exact ih4 _ _ _ _ _ _ _ _ _ _ _)
      | (with_reducible exact ih5 _ _ _ _ _ _ _ _ _ _ _)
      | (with_reducible exact ih6 _ _ _ _ _ _ _ _ _ _ _ _ _)
      | (with_reducible exact spec_dnType.mono _ _)
      | (with_reducible exact LeO.refl _)
      | (with_reducible exact LeO.none _)
      | (with_reducible refine LeO.ite ?_ ?_)
      | (with_reducible refine LeO.bind ?_ (fun _ => ?_))
      | exact ih0 _ _ _ _
      | exact ih1 _ _ _ _ _
      | exact ih2 _ _ _ _ _ _ _ _
      | exact ih3 _ _ _ _ _ _ _ _ _ _
      | exact ih4 _ _ _ _ _ _ _ _ _ _ _
      | exact ih5 _ _ _ _ _ _ _ _ _ _ _
      | exact ih6 _ _ _ _ _ _ _ _ _ _ _ _ _
      | exact spec_dnType.mono _ _
      | exact LeO.none _
      | refine LeO.ite ?_ ?_
      | refine LeO.bind ?_ (fun _ => ?_)
    · intro y0 y1 y2 y3 y4 y5 y6 y7
      unfold spec_WriteDN.l1
      repeat' first
      | (with_reducible exact ih0 _ _ _ _)
      | (with_reducible exact ih1 _ _ _ _ _)
      | (with_reducible exact ih2 _ _ _ _ _ _ _ _)
      | (with_reducible exact ih3 _ _ _ _ _ _ _ _ _ _)
      | (with_reducible exact ih4 _ _ _ _ _ _ _ _ _ _ _)
      | (with_reducible exact ih5 _ _ _ _ _ _ _ _ _ _ _)
      | (with_reducible exact ih6 _ _ _ _ _ _ _ _ _ _ _ _ _)
      | (with_reducible exact spec_dnType.mono _ _)
      | (with_reducible exact LeO.refl _)
      | (with_reducible exact LeO.none _)
      | (with_reducible refine LeO.ite ?_ ?_)
      | (with_reducible refine LeO.bind ?_ (fun _ => ?_))
      | exact ih0 _ _ _ _
      | exact ih1 _ _ _ _ _
      | exact ih2 _ _ _ _ _ _ _ _
      | exact ih3 _ _ _ _ _ _ _ _ _ _
      | exact ih4 _ _ _ _ _ _ _ _ _ _ _
      | exact ih5 _ _ _ _ _ _ _ _ _ _ _
      | exact ih6 _ _ _ _ _ _ _ _ _ _ _ _ _
      | exact spec_dnType.mono _ _
      | exact LeO.none _
      | refine LeO.ite ?_ ?_
      | refine LeO.bind ?_ (fun _ => ?_)
    · intro y0 y1 y2 y3 y4 y5 y6 y7 y8 y9
      unfold spec_WriteDN.j3
      repeat' first
      | (with_reducible exact ih0 _ _ _ _)
      | (with_reducible exact ih1 _ _ _ _ _)
      | (with_reducible exact ih2 _ _ _ _ _ _ _ _)
      | (with_reducible exact ih3 _ _ _ _ _ _ _ _ _ _)
      | (with_reducible exact ih4 _ _ _ _ _ _ _ _ _ _ _)
      | (with_reducible exact ih5 _ _ _ _ _ _ _ _ _ _ _)
      | (with_reducible exact ih6 _ _ _ _ _ _ _ _ _ _ _ _ _)
      | (with_reducible exact spec_dnType.mono _ _)
      | (with_reducible exact LeO.refl _)
      | (with_reducible exact LeO.none _)
      | (with_reducible refine LeO.ite ?_ ?_)
      | (with_reducible refine LeO.bind ?_ (fun _ => ?_))
      | exact ih0 _ _ _ _
      | exact ih1 _ _ _ _ _
      | exact ih2 _ _ _ _ _ _ _ _
      | exact ih3 _ _ _ _ _ _ _ _ _ _
      | exact ih4 _ _ _ _ _ _ _ _ _ _ _
      | exact ih5 _ _ _ _ _ _ _ _ _ _ _
      | exact ih6 _ _ _ _ _ _ _ _ _ _ _ _ _
      | exact spec_dnType.mono _ _
      | exact LeO.none _
      | refine LeO.ite ?_ ?_
      | refine LeO.bind ?_ (fun _ => ?_)
    · intro y0 y1 y2 y3 y4 y5 y6 y7 y8 y9 y10
      unfold spec_WriteDN.j4
      repeat' first
      | (with_reducible exact ih0 _ _ _ _)
      | (with_reducible exact ih1 _ _ _ _ _)
      | (with_reducible exact ih2 _ _ _ _ _ _ _ _)
      | (with_reducible exact ih3 _ _ _ _ _ _ _ _ _ _)
      | (with_reducible exact ih4 _ _ _ _ _ _ _ _ _ _ _)
      | (with_reducible exact ih5 _ _ _ _ _ _ _ _ _ _ _)
      | (with_reducible exact ih6 _ _ _ _ _ _ _ _ _ _ _ _ _)
      | (with_reducible exact spec_dnType.mono _ _)
      | (with_reducible exact LeO.refl _)
      | (with_reducible exact LeO.none _)
      | (with_reducible refine LeO.ite ?_ ?_)
      | (with_reducible refine LeO.bind ?_ (fun _ => ?_))
      | exact ih0 _ _ _ _
      | exact ih1 _ _ _ _ _
      | exact ih2 _ _ _ _ _ _ _ _
      | exact ih3 _ _ _ _ _ _ _ _ _ _
      | exact ih4 _ _ _ _ _ _ _ _ _ _ _
      | exact ih5 _ _ _ _ _ _ _ _ _ _ _
      | exact ih6 _ _ _ _ _ _ _ _ _ _ _ _ _
      | exact spec_dnType.mono _ _
      | exact LeO.none _
      | refine LeO.ite ?_ ?_
      | refine LeO.bind ?_ (fun _ => ?_)
    · intro y0 y1 y2 y3 y4 y5 y6 y7 y8 y9 y10
      unfold spec_WriteDN.l2
      repeat' first
      | (with_reducible exact ih0 _ _ _ _)
      | (with_reducible exact ih1 _ _ _ _ _)
      | (with_reducible exact ih2 _ _ _ _ _ _ _ _)
      | (with_reducible exact ih3 _ _ _ _ _ _ _ _ _ _)
      | (with_reducible exact ih4 _ _ _ _ _ _ _ _ _ _ _)
      | (with_reducible exact ih5 _ _ _ _ _ _ _ _ _ _ _)
      | (with_reducible exact ih6 _ _ _ _ _ _ _ _ _ _ _ _ _)
      | (with_reducible exact spec_dnType.mono _ _)
      | (with_reducible exact LeO.refl _)
      | (with_reducible exact LeO.none _)
      | (with_reducible refine LeO.ite ?_ ?_)
      | (with_reducible refine LeO.bind ?_ (fun _ => ?_))
      | exact ih0 _ _ _ _
      | exact ih1 _ _ _ _ _
      | exact ih2 _ _ _ _ _ _ _ _
      | exact ih3 _ _ _ _ _ _ _ _ _ _
      | exact ih4 _ _ _ _ _ _ _ _ _ _ _
      | exact ih5 _ _ _ _ _ _ _ _ _ _ _
      | exact ih6 _ _ _ _ _ _ _ _ _ _ _ _ _
      | exact spec_dnType.mono _ _
      | exact LeO.none _
      | refine LeO.ite ?_ ?_
      | refine LeO.bind ?_ (fun _ => ?_)
    · intro y0 y1 y2 y3 y4 y5 y6 y7 y8 y9 y10 y11 y12
      unfold spec_WriteDN.j6
      repeat' first
      | (with_reducible exact ih0 _ _ _ _)
      | (with_reducible exact ih1 _ _ _ _ _)
      | (with_reducible exact ih2 _ _ _ _ _ _ _ _)
      | (with_reducible exact ih3 _ _ _ _ _ _ _ _ _ _)
      | (with_reducible exact ih4 _ _ _ _ _ _ _ _ _ _ _)
      | (with_reducible exact ih5 _ _ _ _ _ _ _ _ _ _ _)
      | (with_reducible exact ih6 _ _ _ _ _ _ _ _ _ _ _ _ _)
      | (with_reducible exact spec_dnType.mono _ _)
      | (with_reducible exact LeO.refl _)
      | (with_reducible exact LeO.none _)
      | (with_reducible refine LeO.ite ?_ ?_)
      | (with_reducible refine LeO.bind ?_ (fun _ => ?_))
      | exact ih0 _ _ _ _
      | exact ih1 _ _ _ _ _
      | exact ih2 _ _ _ _ _ _ _ _
      | exact ih3 _ _ _ _ _ _ _ _ _ _
      | exact ih4 _ _ _ _ _ _ _ _ _ _ _
      | exact ih5 _ _ _ _ _ _ _ _ _ _ _
      | exact ih6 _ _ _ _ _ _ _ _ _ _ _ _ _
      | exact spec_dnType.mono _ _
      | exact LeO.none _
      | refine LeO.ite ?_ ?_
      | refine LeO.bind ?_ (fun _ => ?_)
theorem spec_WriteDN.mono : ∀ a0 k, LeO (spec_WriteDN.f k a0) (spec_WriteDN.f (k + 1) a0) := by
  intro a0 k
  obtain ⟨ih0, ih1, ih2, ih3, ih4, ih5, ih6⟩ := spec_WriteDN.mono_l k
  unfold spec_WriteDN.f
  repeat' first
      | (with_reducible exact ih0 _ _ _ _)
      | (with_reducible exact ih1 _ _ _ _ _)
      | (with_reducible exact ih2 _ _ _ _ _ _ _ _)
      | (with_reducible exact ih3 _ _ _ _ _ _ _ _ _ _)
      | (with_reducible exact ih4 _ _ _ _ _ _ _ _ _ _ _)
      | (with_reducible exact ih5 _ _ _ _ _ _ _ _ _ _ _)
      | (with_reducible exact ih6 _ _ _ _ _ _ _ _ _ _ _ _ _)
      | (with_reducible exact spec_dnType.mono _ _)
      | (with_reducible exact LeO.refl _)
      | (with_reducible exact LeO.none _)
      | (with_reducible refine LeO.ite ?_ ?_)
      | (with_reducible refine LeO.bind ?_ (fun _ => ?_))
      | exact ih0 _ _ _ _
      | exact ih1 _ _ _ _ _
      | exact ih2 _ _ _ _ _ _ _ _
      | exact ih3 _ _ _ _ _ _ _ _ _ _
      | exact ih4 _ _ _ _ _ _ _ _ _ _ _
      | exact ih5 _ _ _ _ _ _ _ _ _ _ _
      | exact ih6 _ _ _ _ _ _ _ _ _ _ _ _ _
      | exact spec_dnType.mono _ _
      | exact LeO.none _
      | refine LeO.ite ?_ ?_
      | refine LeO.bind ?_ (fun _ => ?_)
set_option maxHeartbeats 8000000 in
set_option maxRecDepth 100000 in
theorem spec_WriteDN.calls (k : Nat) (A0 : Option Addr) (c0 : Nat) (l0 : List (List (S34))) (r1 : ByteArray) (r2 : Bool) (w : World) (hr0 : Kd.C (Kd.slice 34 k34) w A0 l0.length l0) (hc0 : l0.length ≤ c0) (h : spec_WriteDN.f k l0 = some (r1, r2)) :
    Calls Tryd.prog 8 #[.slice A0 l0.length c0] w fun e w' => e = .returned (.tuple #[.string r1, .bool r2]) ∧ Below w.heap.size w w' := by
  have hu34 := Tryd.underlying34
  have HR0 := Aside0.mk hr0
  have HC0 := Aside0.mk hc0
  clear hr0 hc0
  have HB := Aside0.mk (Below.refl w.heap.size w)
  have H : (spec_WriteDN.l0 k (⟨#[]⟩ : ByteArray) l0 (l0.length : Int) 0) = some (r1, r2) := h
  clear h
  have H' := Aside0.mk H
  clear H
  go_enter Tryd.func8, Tryd.ntmps8
  go_wp2
  repeat (go_quiet (fail); try go_wp2)
  go_loopg [4, 13] k (fun kq v4 v13 w' => ∃ (x4_1 : ByteArray) (x13_1 : Int), v4 = .string x4_1 ∧ v13 = .int .i64 x13_1 ∧ Aside0 (spec_WriteDN.l0 kq x4_1 l0 (l0.length : Int) x13_1 = some (r1, r2)) ∧ Aside0 (kq ≤ k) ∧ Aside0 (Below w.heap.size w w'))
  case atStart => exact ⟨((⟨#[]⟩ : ByteArray)), (0), (by first | rfl | (simp; done) | (simp [*]; done)), (by first | rfl | (simp; done) | (simp [*]; done)), H', ⟨Nat.le_refl _⟩, ⟨by repeat (first | (with_reducible first | exact HB.out | apply below_alloc | apply pw_below_drewN | apply below_drew1) | exact HB.out)⟩⟩
  case round =>
    clear H'
    obtain ⟨x4_1, x13_1, rfl, rfl, HA, HK1, HB⟩ := hrel
    cases gk with
    | zero => exact absurd HA.out (by simp [spec_WriteDN.l0])
    | succ k1 =>
      have H := HA.out
      clear HA
      simp only [spec_WriteDN.l0] at H
      by_cases c2 : x13_1 < (l0.length : Int)
      · rw [if_pos c2] at H
        have c2b0 : decide (x13_1 < (l0.length : Int)) = true := decide_eq_true c2
        clear c2
        by_cases c3 : 0 ≤ x13_1
        · rw [if_pos c3] at H
          have c3b0 : decide (0 ≤ x13_1) = true := decide_eq_true c3
          clear c3
          by_cases c4 : x13_1 < (l0.length : Int)
          · rw [if_pos c4] at H
            have c4b0 : decide (x13_1 < (l0.length : Int)) = true := decide_eq_true c4
            clear c4
            have HC5 := Aside0.mk H
            clear H
            have p220 : 0 ≤ (x13_1 : Int) := of_decide_eq_true (by first | (with_reducible assumption) | assumption)
            have q220 : x13_1 < (l0.length : Int) := of_decide_eq_true (by first | (with_reducible assumption) | assumption)
            obtain ⟨ad220, A220_0, c220_0, e220, hx220_0, hl220_0, hi220_0⟩ := at_L2 HR0.out x13_1 p220 q220
            cases e220
            replace hx220_0 := (HB.out.cell (World.block_lt_of_cell? w _ hx220_0)).trans hx220_0
            have HR220_0 := Aside0.mk hi220_0
            have HC220_0 := Aside0.mk hl220_0
            clear hi220_0 hl220_0
            replace p220 := eq_true p220
            replace q220 := eq_true q220
            go_upto_if 19 with (fail)
            repeat (go_quiet (fail); go_upto_if 19 with (fail))
            go_cut [4] (fun v4 wc => ∃ (kq : Nat) (x4_4 : ByteArray), v4 = .string x4_4 ∧ Aside0 (spec_WriteDN.j1 kq x4_4 (rd_L2 l0 x13_1) l0 (l0.length : Int) x13_1 = some (r1, r2)) ∧ Aside0 (kq ≤ k1) ∧ Aside0 (Below w.heap.size w wc))
            case first =>
              have H := HC5.out
              clear HC5
              by_cases c6 : x13_1 > 0
              · rw [if_pos c6] at H
                have c6b0 : decide (0 < x13_1) = true := decide_eq_true c6
                clear c6
                (first | rw [c6b0] | (simp only [i64_w, i32_w]; rw [c6b0]) | skip)
                by_cases c7 : x4_1.size + 1 ≤ 9223372036854775807
                · rw [if_pos c7] at H
                  have c7b0 := eq_true c7
                  have c7b1 : decide (x4_1.size + 1 ≤ 9223372036854775807) = true := decide_eq_true c7
                  try have c7b2 : (9223372036854775807 < x4_1.size + 1) = False := eq_false (Nat.not_lt.2 c7)
                  have H' := Aside0.mk H
                  clear H
                  go_wp2
                  repeat (go_quiet (fail); try go_wp2)
                  go_meet
                  case rel => exact ⟨_, (x4_1 ++ (⟨#[44]⟩ : ByteArray)), (by first | rfl | (simp; done) | (simp [*]; done)), H', ⟨by have := HK1.out; first | omega | exact Nat.le_refl _⟩, ⟨by repeat (first | (with_reducible first | exact HB.out | apply below_alloc | apply pw_below_drewN | apply below_drew1) | exact HB.out)⟩⟩
                · rw [if_neg c7] at H
                  exact absurd H (by simp)
              · rw [if_neg c6] at H
                have c6b0 : decide (0 < x13_1) = false := decide_eq_false c6
                clear c6
                (first | rw [c6b0] | (simp only [i64_w, i32_w]; rw [c6b0]) | skip)
                have H' := Aside0.mk H
                clear H
                go_wp2
                repeat (go_quiet (fail); try go_wp2)
                go_meet
                case rel => exact ⟨_, (x4_1), (by first | rfl | (simp; done) | (simp [*]; done)), H', ⟨by have := HK1.out; first | omega | exact Nat.le_refl _⟩, ⟨by repeat (first | (with_reducible first | exact HB.out | apply below_alloc | apply pw_below_drewN | apply below_drew1) | exact HB.out)⟩⟩
            case rest =>
              clear HC5
              try clear c2
              try clear c2b0
              try clear p2
              try clear q2
              try clear hx2
              try clear c3
              try clear c3b0
              try clear c4
              try clear c4b0
              try clear c6
              try clear c6b0
              try clear c7
              try clear c7b0
              try clear c7b1
              try clear c7b2
              try clear hx220_0
              try clear p220
              try clear q220
              obtain ⟨kq, x4_4, rfl, HA, HJ4, HB⟩ := hcut
              cases kq with
              | zero => exact absurd HA.out (by simp [spec_WriteDN.j1])
              | succ kj4 =>
                have H := HA.out
                clear HA
                simp only [spec_WriteDN.j1] at H
                have H' := Aside0.mk H
                clear H
                go_wp2
                repeat (go_quiet (fail); try go_wp2)
                go_loopg [4, 24] kj4 (fun kq v4 v24 w' => ∃ (x4_3 : ByteArray) (x24_3 : Int), v4 = .string x4_3 ∧ v24 = .int .i64 x24_3 ∧ Aside0 (spec_WriteDN.l1 kq x4_3 (rd_L2 l0 x13_1) l0 (l0.length : Int) x13_1 (rd_L2 l0 x13_1) ((rd_L2 l0 x13_1).length : Int) x24_3 = some (r1, r2)) ∧ Aside0 (kq ≤ kj4) ∧ Aside0 (Below w.heap.size w w'))
                case atStart => exact ⟨(x4_4), (0), (by first | rfl | (simp; done) | (simp [*]; done)), (by first | rfl | (simp; done) | (simp [*]; done)), H', ⟨Nat.le_refl _⟩, ⟨by repeat (first | (with_reducible first | exact HB.out | apply below_alloc | apply pw_below_drewN | apply below_drew1) | exact HB.out)⟩⟩
                case round =>
                  clear H'
                  try clear c2
                  try clear c2b0
                  try clear p2
                  try clear q2
                  try clear hx2
                  try clear c3
                  try clear c3b0
                  try clear c4
                  try clear c4b0
                  try clear c6
                  try clear c6b0
                  try clear c7
                  try clear c7b0
                  try clear c7b1
                  try clear c7b2
                  try clear hx220_0
                  try clear p2
                  try clear p220
                  try clear q2
                  try clear q220
                  obtain ⟨x4_3, x24_3, rfl, rfl, HA, HK3, HB⟩ := hrel
                  cases gk with
                  | zero => exact absurd HA.out (by simp [spec_WriteDN.l1])
                  | succ k3 =>
                    have H := HA.out
                    clear HA
                    simp only [spec_WriteDN.l1] at H
                    by_cases c8 : x24_3 < ((rd_L2 l0 x13_1).length : Int)
                    · rw [if_pos c8] at H
                      have c8b0 : decide (x24_3 < ((rd_L2 l0 x13_1).length : Int)) = true := decide_eq_true c8
                      clear c8
                      by_cases c9 : 0 ≤ x24_3
                      · rw [if_pos c9] at H
                        have c9b0 : decide (0 ≤ x24_3) = true := decide_eq_true c9
                        clear c9
                        by_cases c10 : x24_3 < ((rd_L2 l0 x13_1).length : Int)
                        · rw [if_pos c10] at H
                          have c10b0 : decide (x24_3 < ((rd_L2 l0 x13_1).length : Int)) = true := decide_eq_true c10
                          clear c10
                          have HC11 := Aside0.mk H
                          clear H
                          have p221 : 0 ≤ (x24_3 : Int) := of_decide_eq_true (by first | (with_reducible assumption) | assumption)
                          have q221 : x24_3 < ((rd_L2 l0 x13_1).length : Int) := of_decide_eq_true (by first | (with_reducible assumption) | assumption)
                          obtain ⟨ad221, e221, hx221_0, hx221_1⟩ := at_T34 HR220_0.out x24_3 p221 q221
                          cases e221
                          replace hx221_0 := (HB.out.cell (World.block_lt_of_cell? w _ hx221_0)).trans hx221_0
                          replace hx221_1 := (HB.out.cell (World.block_lt_of_cell? w _ hx221_1)).trans hx221_1
                          replace p221 := eq_true p221
                          replace q221 := eq_true q221
                          go_upto_if 30 with (first | ((with_reducible refine gate_dst (N := 8) rfl ?_); (try (refine gate_guard (by rfl) ?_; dsimp only)); refine box_event ?hg (N := 8) ?hd (cs := #[.string (⟨#[]⟩ : ByteArray), .string (⟨#[]⟩ : ByteArray)]) (t := 34) ?hr ?_; (case hd => rfl); (case hg => rfl); (case hr => first | (go_simp; done) | (go_simp; rfl)); intro gb222 hg w12 hbox hb; have n0_ := Aside0.mk (below_step (by repeat (first | (with_reducible first | exact HB.out | apply below_alloc | apply pw_below_drewN | apply below_drew1) | exact HB.out)) hb); have n1_ := Aside0.mk (hbox); have n2_ := Aside0.mk ((by rw [hg]; exact (below_size (by repeat (first | (with_reducible first | exact HB.out | apply below_alloc | apply pw_below_drewN | apply below_drew1) | exact HB.out))) : w.heap.size ≤ gb222)); have n3_ := Aside0.mk ((by rw [hg]; exact (below_size (by repeat (first | (with_reducible first | exact HB.out | apply below_alloc | apply pw_below_drewN | apply below_drew1) | exact HB.out))) : w.heap.size ≤ gb222)); clear HB; have HB := n0_; have BK222 := n1_; have GW222 := n2_; have GE222 := n3_; clear n0_ n1_ n2_ n3_; clear hb hbox hg; have hcz13_0 : w12.cell? ⟨gb222, 0, none⟩ = some (.string (⟨#[]⟩ : ByteArray)) := (blk_cell BK222.out 0).trans rfl; have hcz13_1 : w12.cell? ⟨gb222, 1, none⟩ = some (.string (⟨#[]⟩ : ByteArray)) := (blk_cell BK222.out 1).trans rfl; have hfz13_0 := blk_frozen BK222.out 0; have hfz13_1 := blk_frozen BK222.out 1))
                          repeat (go_quiet (first | ((with_reducible refine gate_dst (N := 8) rfl ?_); (try (refine gate_guard (by rfl) ?_; dsimp only)); refine box_event ?hg (N := 8) ?hd (cs := #[.string (⟨#[]⟩ : ByteArray), .string (⟨#[]⟩ : ByteArray)]) (t := 34) ?hr ?_; (case hd => rfl); (case hg => rfl); (case hr => first | (go_simp; done) | (go_simp; rfl)); intro gb222 hg w12 hbox hb; have n0_ := Aside0.mk (below_step (by repeat (first | (with_reducible first | exact HB.out | apply below_alloc | apply pw_below_drewN | apply below_drew1) | exact HB.out)) hb); have n1_ := Aside0.mk (hbox); have n2_ := Aside0.mk ((by rw [hg]; exact (below_size (by repeat (first | (with_reducible first | exact HB.out | apply below_alloc | apply pw_below_drewN | apply below_drew1) | exact HB.out))) : w.heap.size ≤ gb222)); have n3_ := Aside0.mk ((by rw [hg]; exact (below_size (by repeat (first | (with_reducible first | exact HB.out | apply below_alloc | apply pw_below_drewN | apply below_drew1) | exact HB.out))) : w.heap.size ≤ gb222)); clear HB; have HB := n0_; have BK222 := n1_; have GW222 := n2_; have GE222 := n3_; clear n0_ n1_ n2_ n3_; clear hb hbox hg; have hcz13_0 : w12.cell? ⟨gb222, 0, none⟩ = some (.string (⟨#[]⟩ : ByteArray)) := (blk_cell BK222.out 0).trans rfl; have hcz13_1 : w12.cell? ⟨gb222, 1, none⟩ = some (.string (⟨#[]⟩ : ByteArray)) := (blk_cell BK222.out 1).trans rfl; have hfz13_0 := blk_frozen BK222.out 0; have hfz13_1 := blk_frozen BK222.out 1)); go_upto_if 30 with (first | ((with_reducible refine gate_dst (N := 8) rfl ?_); (try (refine gate_guard (by rfl) ?_; dsimp only)); refine box_event ?hg (N := 8) ?hd (cs := #[.string (⟨#[]⟩ : ByteArray), .string (⟨#[]⟩ : ByteArray)]) (t := 34) ?hr ?_; (case hd => rfl); (case hg => rfl); (case hr => first | (go_simp; done) | (go_simp; rfl)); intro gb222 hg w12 hbox hb; have n0_ := Aside0.mk (below_step (by repeat (first | (with_reducible first | exact HB.out | apply below_alloc | apply pw_below_drewN | apply below_drew1) | exact HB.out)) hb); have n1_ := Aside0.mk (hbox); have n2_ := Aside0.mk ((by rw [hg]; exact (below_size (by repeat (first | (with_reducible first | exact HB.out | apply below_alloc | apply pw_below_drewN | apply below_drew1) | exact HB.out))) : w.heap.size ≤ gb222)); have n3_ := Aside0.mk ((by rw [hg]; exact (below_size (by repeat (first | (with_reducible first | exact HB.out | apply below_alloc | apply pw_below_drewN | apply below_drew1) | exact HB.out))) : w.heap.size ≤ gb222)); clear HB; have HB := n0_; have BK222 := n1_; have GW222 := n2_; have GE222 := n3_; clear n0_ n1_ n2_ n3_; clear hb hbox hg; have hcz13_0 : w12.cell? ⟨gb222, 0, none⟩ = some (.string (⟨#[]⟩ : ByteArray)) := (blk_cell BK222.out 0).trans rfl; have hcz13_1 : w12.cell? ⟨gb222, 1, none⟩ = some (.string (⟨#[]⟩ : ByteArray)) := (blk_cell BK222.out 1).trans rfl; have hfz13_0 := blk_frozen BK222.out 0; have hfz13_1 := blk_frozen BK222.out 1)))
                          (try simp only [Act.put, List.setIfInBounds_toArray, List.set_cons_zero, List.set_cons_succ])
                          go_cut [4] (fun v4 wc => ∃ (kq : Nat) (x4_10 : ByteArray), v4 = .string x4_10 ∧ Aside0 (spec_WriteDN.j3 kq x4_10 (rd_L2 l0 x13_1) l0 (l0.length : Int) x13_1 (rd_L2 l0 x13_1) ((rd_L2 l0 x13_1).length : Int) x24_3 ((rd_T34 (rd_L2 l0 x13_1) x24_3).f0) ((rd_T34 (rd_L2 l0 x13_1) x24_3).f1) = some (r1, r2)) ∧ Aside0 (kq ≤ k3) ∧ Aside0 (wc.heap[gb222]? = some (.cells #[.string ((rd_T34 (rd_L2 l0 x13_1) x24_3).f0), .string ((rd_T34 (rd_L2 l0 x13_1) x24_3).f1)] 34 (0, 0))) ∧ Aside0 (Below w.heap.size w wc))
                          case first =>
                            have H := HC11.out
                            clear HC11
                            by_cases c14 : x24_3 > 0
                            · rw [if_pos c14] at H
                              have c14b0 : decide (0 < x24_3) = true := decide_eq_true c14
                              clear c14
                              (first | rw [c14b0] | (simp only [i64_w, i32_w]; rw [c14b0]) | skip)
                              by_cases c15 : x4_3.size + 1 ≤ 9223372036854775807
                              · rw [if_pos c15] at H
                                have c15b0 := eq_true c15
                                have c15b1 : decide (x4_3.size + 1 ≤ 9223372036854775807) = true := decide_eq_true c15
                                try have c15b2 : (9223372036854775807 < x4_3.size + 1) = False := eq_false (Nat.not_lt.2 c15)
                                have H' := Aside0.mk H
                                clear H
                                go_wp2
                                repeat (go_quiet (fail); try go_wp2)
                                go_meet
                                case rel => exact ⟨_, (x4_3 ++ (⟨#[43]⟩ : ByteArray)), (by first | rfl | (simp; done) | (simp [*]; done)), H', ⟨by have := HK1.out; have := HJ4.out; have := HK3.out; first | omega | exact Nat.le_refl _⟩, ⟨by (with_reducible repeat (first | refine blk_drewN ?_ _ | refine blk_drew ?_ | refine blk_alloc ?_ _)); refine blk_put (cs := #[.string ((rd_T34 (rd_L2 l0 x13_1) x24_3).f0), .string (⟨#[]⟩ : ByteArray)]) ?_ 1 _ rfl; (with_reducible repeat (first | refine blk_drewN ?_ _ | refine blk_drew ?_ | refine blk_alloc ?_ _)); refine blk_put (cs := #[.string (⟨#[]⟩ : ByteArray), .string (⟨#[]⟩ : ByteArray)]) ?_ 0 _ rfl; (with_reducible repeat (first | refine blk_drewN ?_ _ | refine blk_drew ?_ | refine blk_alloc ?_ _)); exact BK222.out⟩, ⟨by repeat (first | (with_reducible first | exact HB.out | apply below_alloc | apply pw_below_drewN | apply below_drew1 | refine below_set ?_ GE222.out) | exact HB.out)⟩⟩
                              · rw [if_neg c15] at H
                                exact absurd H (by simp)
                            · rw [if_neg c14] at H
                              have c14b0 : decide (0 < x24_3) = false := decide_eq_false c14
                              clear c14
                              (first | rw [c14b0] | (simp only [i64_w, i32_w]; rw [c14b0]) | skip)
                              have H' := Aside0.mk H
                              clear H
                              go_wp2
                              repeat (go_quiet (fail); try go_wp2)
                              go_meet
                              case rel => exact ⟨_, (x4_3), (by first | rfl | (simp; done) | (simp [*]; done)), H', ⟨by have := HK1.out; have := HJ4.out; have := HK3.out; first | omega | exact Nat.le_refl _⟩, ⟨by (with_reducible repeat (first | refine blk_drewN ?_ _ | refine blk_drew ?_ | refine blk_alloc ?_ _)); refine blk_put (cs := #[.string ((rd_T34 (rd_L2 l0 x13_1) x24_3).f0), .string (⟨#[]⟩ : ByteArray)]) ?_ 1 _ rfl; (with_reducible repeat (first | refine blk_drewN ?_ _ | refine blk_drew ?_ | refine blk_alloc ?_ _)); refine blk_put (cs := #[.string (⟨#[]⟩ : ByteArray), .string (⟨#[]⟩ : ByteArray)]) ?_ 0 _ rfl; (with_reducible repeat (first | refine blk_drewN ?_ _ | refine blk_drew ?_ | refine blk_alloc ?_ _)); exact BK222.out⟩, ⟨by repeat (first | (with_reducible first | exact HB.out | apply below_alloc | apply pw_below_drewN | apply below_drew1 | refine below_set ?_ GE222.out) | exact HB.out)⟩⟩
                          case rest =>
                            clear HC11
                            try clear c1
                            try clear c2
                            try clear c2b0
                            try clear p2
                            try clear q2
                            try clear hx2
                            try clear c3
                            try clear c3b0
                            try clear c4
                            try clear c4b0
                            try clear c6
                            try clear c6b0
                            try clear c7
                            try clear c7b0
                            try clear c7b1
                            try clear c7b2
                            try clear c8
                            try clear c8b0
                            try clear c9
                            try clear c9b0
                            try clear c10
                            try clear c10b0
                            try clear c14
                            try clear c14b0
                            try clear c15
                            try clear c15b0
                            try clear c15b1
                            try clear c15b2
                            try clear hcz13_0
                            try clear hcz13_1
                            try clear hfz13_0
                            try clear hfz13_1
                            try clear hx220_0
                            try clear hx221_0
                            try clear hx221_1
                            try clear p2
                            try clear p220
                            try clear p221
                            try clear q2
                            try clear q220
                            try clear q221
                            obtain ⟨kq, x4_10, rfl, HA, HJ10, BK222, HB⟩ := hcut
                            cases kq with
                            | zero => exact absurd HA.out (by simp [spec_WriteDN.j3])
                            | succ kj10 =>
                              have H := HA.out
                              clear HA
                              simp only [spec_WriteDN.j3] at H
                              have HC16 := Aside0.mk H
                              clear H
                              go_upto_region 12 with (fail)
                              repeat (go_quiet (fail); go_upto_region 12 with (fail))
                              go_cut [41] (fun v41 wc => ∃ (kq : Nat) (x41_15 : Bool), v41 = .bool x41_15 ∧ Aside0 (spec_WriteDN.j4 kq x4_10 (rd_L2 l0 x13_1) l0 (l0.length : Int) x13_1 (rd_L2 l0 x13_1) ((rd_L2 l0 x13_1).length : Int) x24_3 x41_15 ((rd_T34 (rd_L2 l0 x13_1) x24_3).f0) ((rd_T34 (rd_L2 l0 x13_1) x24_3).f1) = some (r1, r2)) ∧ Aside0 (kq ≤ kj10) ∧ Aside0 (wc.heap[gb222]? = some (.cells #[.string ((rd_T34 (rd_L2 l0 x13_1) x24_3).f0), .string ((rd_T34 (rd_L2 l0 x13_1) x24_3).f1)] 34 (0, 0))) ∧ Aside0 (Below w.heap.size w wc))
                              case first =>
                                have H := HC16.out
                                clear HC16
                                replace H := Option.bind_eq_some_iff.mp H
                                obtain ⟨t223, A170, H⟩ := H
                                replace H : (if t223 = true then (spec_WriteDN.j4 kj10 x4_10 (rd_L2 l0 x13_1) l0 (l0.length : Int) x13_1 (rd_L2 l0 x13_1) ((rd_L2 l0 x13_1).length : Int) x24_3 (((rd_T34 (rd_L2 l0 x13_1) x24_3).f1).toList == ([] : List UInt8)) ((rd_T34 (rd_L2 l0 x13_1) x24_3).f0) ((rd_T34 (rd_L2 l0 x13_1) x24_3).f1)) else (spec_WriteDN.j4 kj10 x4_10 (rd_L2 l0 x13_1) l0 (l0.length : Int) x13_1 (rd_L2 l0 x13_1) ((rd_L2 l0 x13_1).length : Int) x24_3 true ((rd_T34 (rd_L2 l0 x13_1) x24_3).f0) ((rd_T34 (rd_L2 l0 x13_1) x24_3).f1))) = some (r1, r2) := H
                                have A17 := Aside0.mk A170
                                clear A170
                                by_cases c18 : t223 = true
                                · subst c18
                                  have H1 : (spec_WriteDN.j4 kj10 x4_10 (rd_L2 l0 x13_1) l0 (l0.length : Int) x13_1 (rd_L2 l0 x13_1) ((rd_L2 l0 x13_1).length : Int) x24_3 (((rd_T34 (rd_L2 l0 x13_1) x24_3).f1).toList == ([] : List UInt8)) ((rd_T34 (rd_L2 l0 x13_1) x24_3).f0) ((rd_T34 (rd_L2 l0 x13_1) x24_3).f1)) = some (r1, r2) := by rw [if_pos rfl] at H; exact H
                                  clear H
                                  have H := H1
                                  clear H1
                                  have H' := Aside0.mk H
                                  clear H
                                  have hcz19_0 : wc.cell? ⟨gb222, 0, none⟩ = some (.string ((rd_T34 (rd_L2 l0 x13_1) x24_3).f0)) := (blk_cell BK222.out 0).trans rfl
                                  have hcz19_1 : wc.cell? ⟨gb222, 1, none⟩ = some (.string ((rd_T34 (rd_L2 l0 x13_1) x24_3).f1)) := (blk_cell BK222.out 1).trans rfl
                                  have hfz19_0 := blk_frozen BK222.out 0
                                  have hfz19_1 := blk_frozen BK222.out 1
                                  go_wp2_with (first | (go_at_call 22; (with_reducible refine (spec_dnType.calls kj10 ((rd_T34 (rd_L2 l0 x13_1) x24_3).f0) true _ A17.out).mono ?_); rintro e w' ⟨rfl, ⟨nd, rfl⟩⟩; (try first | exact ⟨rfl, _, World.drewN_drewN _ _ _⟩ | exact ⟨rfl, _, Eq.trans (World.drewN_drewN _ _ _) (congrArg (World.drewN _) (Nat.add_assoc _ _ _))⟩)))
                                  repeat (go_quiet (first | (go_at_call 22; (with_reducible refine (spec_dnType.calls kj10 ((rd_T34 (rd_L2 l0 x13_1) x24_3).f0) true _ A17.out).mono ?_); rintro e w' ⟨rfl, ⟨nd, rfl⟩⟩; (try first | exact ⟨rfl, _, World.drewN_drewN _ _ _⟩ | exact ⟨rfl, _, Eq.trans (World.drewN_drewN _ _ _) (congrArg (World.drewN _) (Nat.add_assoc _ _ _))⟩))); try go_wp2_with (first | (go_at_call 22; (with_reducible refine (spec_dnType.calls kj10 ((rd_T34 (rd_L2 l0 x13_1) x24_3).f0) true _ A17.out).mono ?_); rintro e w' ⟨rfl, ⟨nd, rfl⟩⟩; (try first | exact ⟨rfl, _, World.drewN_drewN _ _ _⟩ | exact ⟨rfl, _, Eq.trans (World.drewN_drewN _ _ _) (congrArg (World.drewN _) (Nat.add_assoc _ _ _))⟩))))
                                  go_meet
                                  case rel => exact ⟨_, ((((rd_T34 (rd_L2 l0 x13_1) x24_3).f1).toList == ([] : List UInt8))), (by first | rfl | (simp; done) | (simp [*]; done)), H', ⟨by have := HK1.out; have := HJ4.out; have := HK3.out; have := HJ10.out; first | omega | exact Nat.le_refl _⟩, ⟨by (with_reducible repeat (first | refine blk_drewN ?_ _ | refine blk_drew ?_ | refine blk_alloc ?_ _)); exact BK222.out⟩, ⟨by repeat (first | (with_reducible first | exact HB.out | apply below_alloc | apply pw_below_drewN | apply below_drew1 | refine below_set ?_ GE222.out) | exact HB.out)⟩⟩
                                · replace c18 := Bool.eq_false_iff.mpr c18
                                  subst c18
                                  have H1 : (spec_WriteDN.j4 kj10 x4_10 (rd_L2 l0 x13_1) l0 (l0.length : Int) x13_1 (rd_L2 l0 x13_1) ((rd_L2 l0 x13_1).length : Int) x24_3 true ((rd_T34 (rd_L2 l0 x13_1) x24_3).f0) ((rd_T34 (rd_L2 l0 x13_1) x24_3).f1)) = some (r1, r2) := by rw [if_neg (show ¬ (false = true) by decide)] at H; exact H
                                  clear H
                                  have H := H1
                                  clear H1
                                  have H' := Aside0.mk H
                                  clear H
                                  have hcz20_0 : wc.cell? ⟨gb222, 0, none⟩ = some (.string ((rd_T34 (rd_L2 l0 x13_1) x24_3).f0)) := (blk_cell BK222.out 0).trans rfl
                                  have hcz20_1 : wc.cell? ⟨gb222, 1, none⟩ = some (.string ((rd_T34 (rd_L2 l0 x13_1) x24_3).f1)) := (blk_cell BK222.out 1).trans rfl
                                  have hfz20_0 := blk_frozen BK222.out 0
                                  have hfz20_1 := blk_frozen BK222.out 1
                                  go_wp2_with (first | (go_at_call 22; (with_reducible refine (spec_dnType.calls kj10 ((rd_T34 (rd_L2 l0 x13_1) x24_3).f0) false _ A17.out).mono ?_); rintro e w' ⟨rfl, ⟨nd, rfl⟩⟩; (try first | exact ⟨rfl, _, World.drewN_drewN _ _ _⟩ | exact ⟨rfl, _, Eq.trans (World.drewN_drewN _ _ _) (congrArg (World.drewN _) (Nat.add_assoc _ _ _))⟩)))
                                  repeat (go_quiet (first | (go_at_call 22; (with_reducible refine (spec_dnType.calls kj10 ((rd_T34 (rd_L2 l0 x13_1) x24_3).f0) false _ A17.out).mono ?_); rintro e w' ⟨rfl, ⟨nd, rfl⟩⟩; (try first | exact ⟨rfl, _, World.drewN_drewN _ _ _⟩ | exact ⟨rfl, _, Eq.trans (World.drewN_drewN _ _ _) (congrArg (World.drewN _) (Nat.add_assoc _ _ _))⟩))); try go_wp2_with (first | (go_at_call 22; (with_reducible refine (spec_dnType.calls kj10 ((rd_T34 (rd_L2 l0 x13_1) x24_3).f0) false _ A17.out).mono ?_); rintro e w' ⟨rfl, ⟨nd, rfl⟩⟩; (try first | exact ⟨rfl, _, World.drewN_drewN _ _ _⟩ | exact ⟨rfl, _, Eq.trans (World.drewN_drewN _ _ _) (congrArg (World.drewN _) (Nat.add_assoc _ _ _))⟩))))
                                  go_meet
                                  case rel => exact ⟨_, (true), (by first | rfl | (simp; done) | (simp [*]; done)), H', ⟨by have := HK1.out; have := HJ4.out; have := HK3.out; have := HJ10.out; first | omega | exact Nat.le_refl _⟩, ⟨by (with_reducible repeat (first | refine blk_drewN ?_ _ | refine blk_drew ?_ | refine blk_alloc ?_ _)); exact BK222.out⟩, ⟨by repeat (first | (with_reducible first | exact HB.out | apply below_alloc | apply pw_below_drewN | apply below_drew1 | refine below_set ?_ GE222.out) | exact HB.out)⟩⟩
                              case rest =>
                                clear HC16
                                try clear c1
                                try clear c2
                                try clear c2b0
                                try clear p2
                                try clear q2
                                try clear hx2
                                try clear c3
                                try clear c3b0
                                try clear c4
                                try clear c4b0
                                try clear c6
                                try clear c6b0
                                try clear c7
                                try clear c7b0
                                try clear c7b1
                                try clear c7b2
                                try clear c8
                                try clear c8b0
                                try clear c9
                                try clear c9b0
                                try clear c10
                                try clear c10b0
                                try clear c14
                                try clear c14b0
                                try clear c15
                                try clear c15b0
                                try clear c15b1
                                try clear c15b2
                                try clear c18
                                try clear hcz13_0
                                try clear hcz13_1
                                try clear hcz19_0
                                try clear hcz19_1
                                try clear hcz20_0
                                try clear hcz20_1
                                try clear hfz13_0
                                try clear hfz13_1
                                try clear hfz19_0
                                try clear hfz19_1
                                try clear hfz20_0
                                try clear hfz20_1
                                try clear hx220_0
                                try clear hx221_0
                                try clear hx221_1
                                try clear p2
                                try clear p220
                                try clear p221
                                try clear q2
                                try clear q220
                                try clear q221
                                obtain ⟨kq, x41_15, rfl, HA, HJ15, BK222, HB⟩ := hcut
                                cases kq with
                                | zero => exact absurd HA.out (by simp [spec_WriteDN.j4])
                                | succ kj15 =>
                                  have H := HA.out
                                  clear HA
                                  simp only [spec_WriteDN.j4] at H
                                  by_cases c21 : x41_15 = true
                                  · subst c21
                                    have H1 : (some ((⟨#[]⟩ : ByteArray), false)) = some (r1, r2) := by rw [if_pos rfl] at H; exact H
                                    clear H
                                    have H := H1
                                    clear H1
                                    simp only [Option.some.injEq, Prod.mk.injEq] at H
                                    obtain ⟨rfl, rfl⟩ := H
                                    go_wp2
                                    repeat (go_quiet (fail); try go_wp2)
                                    go_ret2
                                    exact ⟨by first | rfl | (simp [errW_none, errW_some] <;> rfl) | (simp [*, errW_none, errW_some] <;> rfl), by repeat (first | (with_reducible first | exact HB.out | apply below_alloc | apply pw_below_drewN | apply below_drew1 | refine below_set ?_ GE222.out) | exact HB.out)⟩
                                  · replace c21 := Bool.eq_false_iff.mpr c21
                                    subst c21
                                    have H1 : (if ((rd_T34 (rd_L2 l0 x13_1) x24_3).f0).size + 1 ≤ 9223372036854775807 then (if x4_10.size + (((rd_T34 (rd_L2 l0 x13_1) x24_3).f0) ++ (⟨#[61]⟩ : ByteArray)).size ≤ 9223372036854775807 then (spec_WriteDN.l2 kj15 (x4_10 ++ (((rd_T34 (rd_L2 l0 x13_1) x24_3).f0) ++ (⟨#[61]⟩ : ByteArray))) (rd_L2 l0 x13_1) 0 l0 (l0.length : Int) x13_1 (rd_L2 l0 x13_1) ((rd_L2 l0 x13_1).length : Int) x24_3 ((rd_T34 (rd_L2 l0 x13_1) x24_3).f0) ((rd_T34 (rd_L2 l0 x13_1) x24_3).f1)) else (none)) else (none)) = some (r1, r2) := by rw [if_neg (show ¬ (false = true) by decide)] at H; exact H
                                    clear H
                                    have H := H1
                                    clear H1
                                    by_cases c22 : ((rd_T34 (rd_L2 l0 x13_1) x24_3).f0).size + 1 ≤ 9223372036854775807
                                    · rw [if_pos c22] at H
                                      have c22b0 := eq_true c22
                                      have c22b1 : decide (((rd_T34 (rd_L2 l0 x13_1) x24_3).f0).size + 1 ≤ 9223372036854775807) = true := decide_eq_true c22
                                      try have c22b2 : (9223372036854775807 < ((rd_T34 (rd_L2 l0 x13_1) x24_3).f0).size + 1) = False := eq_false (Nat.not_lt.2 c22)
                                      by_cases c23 : x4_10.size + (((rd_T34 (rd_L2 l0 x13_1) x24_3).f0) ++ (⟨#[61]⟩ : ByteArray)).size ≤ 9223372036854775807
                                      · rw [if_pos c23] at H
                                        have c23b0 := eq_true c23
                                        have c23b1 : decide (x4_10.size + (((rd_T34 (rd_L2 l0 x13_1) x24_3).f0) ++ (⟨#[61]⟩ : ByteArray)).size ≤ 9223372036854775807) = true := decide_eq_true c23
                                        try have c23b2 : (9223372036854775807 < x4_10.size + (((rd_T34 (rd_L2 l0 x13_1) x24_3).f0) ++ (⟨#[61]⟩ : ByteArray)).size) = False := eq_false (Nat.not_lt.2 c23)
                                        have H' := Aside0.mk H
                                        clear H
                                        have hcz24_0 : wc.cell? ⟨gb222, 0, none⟩ = some (.string ((rd_T34 (rd_L2 l0 x13_1) x24_3).f0)) := (blk_cell BK222.out 0).trans rfl
                                        have hcz24_1 : wc.cell? ⟨gb222, 1, none⟩ = some (.string ((rd_T34 (rd_L2 l0 x13_1) x24_3).f1)) := (blk_cell BK222.out 1).trans rfl
                                        have hfz24_0 := blk_frozen BK222.out 0
                                        have hfz24_1 := blk_frozen BK222.out 1
                                        go_wp2
                                        repeat (go_quiet (fail); try go_wp2)
                                        go_loopg [4, 9] kj15 (fun kq v4 v9 w' => ∃ (x4_6 : ByteArray) (x9_6 : Int), v4 = .string x4_6 ∧ v9 = .int .i64 x9_6 ∧ Aside0 (spec_WriteDN.l2 kq x4_6 (rd_L2 l0 x13_1) x9_6 l0 (l0.length : Int) x13_1 (rd_L2 l0 x13_1) ((rd_L2 l0 x13_1).length : Int) x24_3 ((rd_T34 (rd_L2 l0 x13_1) x24_3).f0) ((rd_T34 (rd_L2 l0 x13_1) x24_3).f1) = some (r1, r2)) ∧ Aside0 (kq ≤ kj15) ∧ Aside0 (w'.heap[gb222]? = some (.cells #[.string ((rd_T34 (rd_L2 l0 x13_1) x24_3).f0), .string ((rd_T34 (rd_L2 l0 x13_1) x24_3).f1)] 34 (0, 0))) ∧ Aside0 (Below w.heap.size w w'))
                                        case atStart => exact ⟨(x4_10 ++ (((rd_T34 (rd_L2 l0 x13_1) x24_3).f0) ++ (⟨#[61]⟩ : ByteArray))), (0), (by first | rfl | (simp; done) | (simp [*]; done)), (by first | rfl | (simp; done) | (simp [*]; done)), H', ⟨Nat.le_refl _⟩, ⟨by (with_reducible repeat (first | refine blk_drewN ?_ _ | refine blk_drew ?_ | refine blk_alloc ?_ _)); exact BK222.out⟩, ⟨by repeat (first | (with_reducible first | exact HB.out | apply below_alloc | apply pw_below_drewN | apply below_drew1 | refine below_set ?_ GE222.out) | exact HB.out)⟩⟩
                                        case round =>
                                          clear H'
                                          try clear c1
                                          try clear c2
                                          try clear c2b0
                                          try clear p2
                                          try clear q2
                                          try clear hx2
                                          try clear c3
                                          try clear c3b0
                                          try clear c4
                                          try clear c4b0
                                          try clear c6
                                          try clear c6b0
                                          try clear c7
                                          try clear c7b0
                                          try clear c7b1
                                          try clear c7b2
                                          try clear c8
                                          try clear c8b0
                                          try clear c9
                                          try clear c9b0
                                          try clear c10
                                          try clear c10b0
                                          try clear c14
                                          try clear c14b0
                                          try clear c15
                                          try clear c15b0
                                          try clear c15b1
                                          try clear c15b2
                                          try clear c18
                                          try clear c21
                                          try clear c22
                                          try clear c22b0
                                          try clear c22b1
                                          try clear c22b2
                                          try clear p22
                                          try clear q22
                                          try clear hx22
                                          try clear c23
                                          try clear c23b0
                                          try clear c23b1
                                          try clear c23b2
                                          try clear hcz13_0
                                          try clear hcz13_1
                                          try clear hcz19_0
                                          try clear hcz19_1
                                          try clear hcz20_0
                                          try clear hcz20_1
                                          try clear hcz24_0
                                          try clear hcz24_1
                                          try clear hfz13_0
                                          try clear hfz13_1
                                          try clear hfz19_0
                                          try clear hfz19_1
                                          try clear hfz20_0
                                          try clear hfz20_1
                                          try clear hfz24_0
                                          try clear hfz24_1
                                          try clear hx220_0
                                          try clear hx221_0
                                          try clear hx221_1
                                          try clear p2
                                          try clear p220
                                          try clear p221
                                          try clear q2
                                          try clear q220
                                          try clear q221
                                          obtain ⟨x4_6, x9_6, rfl, rfl, HA, HK6, BK222, HB⟩ := hrel
                                          cases gk with
                                          | zero => exact absurd HA.out (by simp [spec_WriteDN.l2])
                                          | succ k6 =>
                                            have H := HA.out
                                            clear HA
                                            simp only [spec_WriteDN.l2] at H
                                            by_cases c25 : x9_6 < (((rd_T34 (rd_L2 l0 x13_1) x24_3).f1).size : Int)
                                            · rw [if_pos c25] at H
                                              have c25b0 : decide (x9_6 < (((rd_T34 (rd_L2 l0 x13_1) x24_3).f1).size : Int)) = true := decide_eq_true c25
                                              clear c25
                                              by_cases c26 : 0 ≤ x9_6
                                              · rw [if_pos c26] at H
                                                have c26b0 : decide (0 ≤ x9_6) = true := decide_eq_true c26
                                                clear c26
                                                have HC28 := Aside0.mk H
                                                clear H
                                                have hcz29_0 : wr.cell? ⟨gb222, 0, none⟩ = some (.string ((rd_T34 (rd_L2 l0 x13_1) x24_3).f0)) := (blk_cell BK222.out 0).trans rfl
                                                have hcz29_1 : wr.cell? ⟨gb222, 1, none⟩ = some (.string ((rd_T34 (rd_L2 l0 x13_1) x24_3).f1)) := (blk_cell BK222.out 1).trans rfl
                                                have hfz29_0 := blk_frozen BK222.out 0
                                                have hfz29_1 := blk_frozen BK222.out 1
                                                have p27 : 0 ≤ (x9_6 : Int) := of_decide_eq_true (by first | (with_reducible assumption) | assumption)
                                                have q27 : x9_6 < (((rd_T34 (rd_L2 l0 x13_1) x24_3).f1).size : Int) := of_decide_eq_true (by first | (with_reducible assumption) | assumption)
                                                have hx27 := bt_at ((rd_T34 (rd_L2 l0 x13_1) x24_3).f1) x9_6
                                                replace p27 := eq_true p27
                                                replace q27 := eq_true q27
                                                go_upto_region 20 with (fail)
                                                repeat (go_quiet (fail); go_upto_region 20 with (fail))
                                                go_cut [66] (fun v66 wc => ∃ (kq : Nat) (x66_27 : Bool), v66 = .bool x66_27 ∧ Aside0 (spec_WriteDN.j6 kq x4_6 (rd_L2 l0 x13_1) x9_6 (bt ((rd_T34 (rd_L2 l0 x13_1) x24_3).f1) x9_6) l0 (l0.length : Int) x13_1 (rd_L2 l0 x13_1) ((rd_L2 l0 x13_1).length : Int) x24_3 x66_27 ((rd_T34 (rd_L2 l0 x13_1) x24_3).f0) ((rd_T34 (rd_L2 l0 x13_1) x24_3).f1) = some (r1, r2)) ∧ Aside0 (kq ≤ k6) ∧ Aside0 (wc.heap[gb222]? = some (.cells #[.string ((rd_T34 (rd_L2 l0 x13_1) x24_3).f0), .string ((rd_T34 (rd_L2 l0 x13_1) x24_3).f1)] 34 (0, 0))) ∧ Aside0 (Below w.heap.size w wc))
                                                case first =>
                                                  have H := HC28.out
                                                  clear HC28
                                                  by_cases c30 : (bt ((rd_T34 (rd_L2 l0 x13_1) x24_3).f1) x9_6) < 32
                                                  · rw [if_pos c30] at H
                                                    have c30b0 : decide ((bt ((rd_T34 (rd_L2 l0 x13_1) x24_3).f1) x9_6) < 32) = true := decide_eq_true c30
                                                    clear c30
                                                    (first | rw [c30b0] | (simp only [i64_w, i32_w]; rw [c30b0]) | skip)
                                                    have H' := Aside0.mk H
                                                    clear H
                                                    go_wp2
                                                    repeat (go_quiet (fail); try go_wp2)
                                                    go_meet
                                                    case rel => exact ⟨_, (true), (by first | rfl | (simp; done) | (simp [*]; done)), H', ⟨by have := HK1.out; have := HJ4.out; have := HK3.out; have := HJ10.out; have := HJ15.out; have := HK6.out; first | omega | exact Nat.le_refl _⟩, ⟨by (with_reducible repeat (first | refine blk_drewN ?_ _ | refine blk_drew ?_ | refine blk_alloc ?_ _)); exact BK222.out⟩, ⟨by repeat (first | (with_reducible first | exact HB.out | apply below_alloc | apply pw_below_drewN | apply below_drew1 | refine below_set ?_ GE222.out) | exact HB.out)⟩⟩
                                                  · rw [if_neg c30] at H
                                                    have c30b0 : decide ((bt ((rd_T34 (rd_L2 l0 x13_1) x24_3).f1) x9_6) < 32) = false := decide_eq_false c30
                                                    clear c30
                                                    (first | rw [c30b0] | (simp only [i64_w, i32_w]; rw [c30b0]) | skip)
                                                    have H' := Aside0.mk H
                                                    clear H
                                                    go_wp2
                                                    repeat (go_quiet (fail); try go_wp2)
                                                    go_meet
                                                    case rel => exact ⟨_, (decide ((bt ((rd_T34 (rd_L2 l0 x13_1) x24_3).f1) x9_6) > 126)), (by first | rfl | (simp; done) | (simp [*]; done)), H', ⟨by have := HK1.out; have := HJ4.out; have := HK3.out; have := HJ10.out; have := HJ15.out; have := HK6.out; first | omega | exact Nat.le_refl _⟩, ⟨by (with_reducible repeat (first | refine blk_drewN ?_ _ | refine blk_drew ?_ | refine blk_alloc ?_ _)); exact BK222.out⟩, ⟨by repeat (first | (with_reducible first | exact HB.out | apply below_alloc | apply pw_below_drewN | apply below_drew1 | refine below_set ?_ GE222.out) | exact HB.out)⟩⟩
                                                case rest =>
                                                  clear HC28
                                                  try clear c1
                                                  try clear c2
                                                  try clear c2b0
                                                  try clear p2
                                                  try clear q2
                                                  try clear hx2
                                                  try clear c3
                                                  try clear c3b0
                                                  try clear c4
                                                  try clear c4b0
                                                  try clear c6
                                                  try clear c6b0
                                                  try clear c7
                                                  try clear c7b0
                                                  try clear c7b1
                                                  try clear c7b2
                                                  try clear c8
                                                  try clear c8b0
                                                  try clear c9
                                                  try clear c9b0
                                                  try clear c10
                                                  try clear c10b0
                                                  try clear c14
                                                  try clear c14b0
                                                  try clear c15
                                                  try clear c15b0
                                                  try clear c15b1
                                                  try clear c15b2
                                                  try clear c18
                                                  try clear c21
                                                  try clear c22
                                                  try clear c22b0
                                                  try clear c22b1
                                                  try clear c22b2
                                                  try clear p22
                                                  try clear q22
                                                  try clear hx22
                                                  try clear c23
                                                  try clear c23b0
                                                  try clear c23b1
                                                  try clear c23b2
                                                  try clear c25
                                                  try clear c25b0
                                                  try clear c26
                                                  try clear c26b0
                                                  try clear p27
                                                  try clear q27
                                                  try clear hx27
                                                  try clear c30
                                                  try clear c30b0
                                                  try clear hcz13_0
                                                  try clear hcz13_1
                                                  try clear hcz19_0
                                                  try clear hcz19_1
                                                  try clear hcz20_0
                                                  try clear hcz20_1
                                                  try clear hcz24_0
                                                  try clear hcz24_1
                                                  try clear hcz29_0
                                                  try clear hcz29_1
                                                  try clear hfz13_0
                                                  try clear hfz13_1
                                                  try clear hfz19_0
                                                  try clear hfz19_1
                                                  try clear hfz20_0
                                                  try clear hfz20_1
                                                  try clear hfz24_0
                                                  try clear hfz24_1
                                                  try clear hfz29_0
                                                  try clear hfz29_1
                                                  try clear hx220_0
                                                  try clear hx221_0
                                                  try clear hx221_1
                                                  try clear p2
                                                  try clear p22
                                                  try clear p220
                                                  try clear p221
                                                  try clear p27
                                                  try clear q2
                                                  try clear q22
                                                  try clear q220
                                                  try clear q221
                                                  try clear q27
                                                  obtain ⟨kq, x66_27, rfl, HA, HJ27, BK222, HB⟩ := hcut
                                                  cases kq with
                                                  | zero => exact absurd HA.out (by simp [spec_WriteDN.j6])
                                                  | succ kj27 =>
                                                    have H := HA.out
                                                    clear HA
                                                    simp only [spec_WriteDN.j6] at H
                                                    by_cases c31 : x66_27 = true
                                                    · subst c31
                                                      have H1 : (if 0 ≤ ((bt ((rd_T34 (rd_L2 l0 x13_1) x24_3).f1) x9_6) / 16) then (if ((bt ((rd_T34 (rd_L2 l0 x13_1) x24_3).f1) x9_6) / 16) ≤ ((((bt ((rd_T34 (rd_L2 l0 x13_1) x24_3).f1) x9_6) / 16) + 1) % 256) then (if ((((bt ((rd_T34 (rd_L2 l0 x13_1) x24_3).f1) x9_6) / 16) + 1) % 256) ≤ 16 then (if 1 + ((⟨#[48, 49, 50, 51, 52, 53, 54, 55, 56, 57, 97, 98, 99, 100, 101, 102]⟩ : ByteArray).extract (((bt ((rd_T34 (rd_L2 l0 x13_1) x24_3).f1) x9_6) / 16) : Int).toNat (((((bt ((rd_T34 (rd_L2 l0 x13_1) x24_3).f1) x9_6) / 16) + 1) % 256) : Int).toNat).size ≤ 9223372036854775807 then (if 0 ≤ (Go.bits .and .u8 (bt ((rd_T34 (rd_L2 l0 x13_1) x24_3).f1) x9_6) 15) then (if (Go.bits .and .u8 (bt ((rd_T34 (rd_L2 l0 x13_1) x24_3).f1) x9_6) 15) ≤ (((Go.bits .and .u8 (bt ((rd_T34 (rd_L2 l0 x13_1) x24_3).f1) x9_6) 15) + 1) % 256) then (if (((Go.bits .and .u8 (bt ((rd_T34 (rd_L2 l0 x13_1) x24_3).f1) x9_6) 15) + 1) % 256) ≤ 16 then (if ((⟨#[92]⟩ : ByteArray) ++ ((⟨#[48, 49, 50, 51, 52, 53, 54, 55, 56, 57, 97, 98, 99, 100, 101, 102]⟩ : ByteArray).extract (((bt ((rd_T34 (rd_L2 l0 x13_1) x24_3).f1) x9_6) / 16) : Int).toNat (((((bt ((rd_T34 (rd_L2 l0 x13_1) x24_3).f1) x9_6) / 16) + 1) % 256) : Int).toNat)).size + ((⟨#[48, 49, 50, 51, 52, 53, 54, 55, 56, 57, 97, 98, 99, 100, 101, 102]⟩ : ByteArray).extract ((Go.bits .and .u8 (bt ((rd_T34 (rd_L2 l0 x13_1) x24_3).f1) x9_6) 15) : Int).toNat ((((Go.bits .and .u8 (bt ((rd_T34 (rd_L2 l0 x13_1) x24_3).f1) x9_6) 15) + 1) % 256) : Int).toNat).size ≤ 9223372036854775807 then (if x4_6.size + (((⟨#[92]⟩ : ByteArray) ++ ((⟨#[48, 49, 50, 51, 52, 53, 54, 55, 56, 57, 97, 98, 99, 100, 101, 102]⟩ : ByteArray).extract (((bt ((rd_T34 (rd_L2 l0 x13_1) x24_3).f1) x9_6) / 16) : Int).toNat (((((bt ((rd_T34 (rd_L2 l0 x13_1) x24_3).f1) x9_6) / 16) + 1) % 256) : Int).toNat)) ++ ((⟨#[48, 49, 50, 51, 52, 53, 54, 55, 56, 57, 97, 98, 99, 100, 101, 102]⟩ : ByteArray).extract ((Go.bits .and .u8 (bt ((rd_T34 (rd_L2 l0 x13_1) x24_3).f1) x9_6) 15) : Int).toNat ((((Go.bits .and .u8 (bt ((rd_T34 (rd_L2 l0 x13_1) x24_3).f1) x9_6) 15) + 1) % 256) : Int).toNat)).size ≤ 9223372036854775807 then (spec_WriteDN.l2 kj27 (x4_6 ++ (((⟨#[92]⟩ : ByteArray) ++ ((⟨#[48, 49, 50, 51, 52, 53, 54, 55, 56, 57, 97, 98, 99, 100, 101, 102]⟩ : ByteArray).extract (((bt ((rd_T34 (rd_L2 l0 x13_1) x24_3).f1) x9_6) / 16) : Int).toNat (((((bt ((rd_T34 (rd_L2 l0 x13_1) x24_3).f1) x9_6) / 16) + 1) % 256) : Int).toNat)) ++ ((⟨#[48, 49, 50, 51, 52, 53, 54, 55, 56, 57, 97, 98, 99, 100, 101, 102]⟩ : ByteArray).extract ((Go.bits .and .u8 (bt ((rd_T34 (rd_L2 l0 x13_1) x24_3).f1) x9_6) 15) : Int).toNat ((((Go.bits .and .u8 (bt ((rd_T34 (rd_L2 l0 x13_1) x24_3).f1) x9_6) 15) + 1) % 256) : Int).toNat))) (rd_L2 l0 x13_1) (wrap64 (x9_6 + 1)) l0 (l0.length : Int) x13_1 (rd_L2 l0 x13_1) ((rd_L2 l0 x13_1).length : Int) x24_3 ((rd_T34 (rd_L2 l0 x13_1) x24_3).f0) ((rd_T34 (rd_L2 l0 x13_1) x24_3).f1)) else (none)) else (none)) else (none)) else (none)) else (none)) else (none)) else (none)) else (none)) else (none)) = some (r1, r2) := by rw [if_pos rfl] at H; exact H
                                                      clear H
                                                      have H := H1
                                                      clear H1
                                                      obtain ⟨ji32, hji32⟩ : ∃ j_ : Int, ((bt ((rd_T34 (rd_L2 l0 x13_1) x24_3).f1) x9_6) / 16) = j_ := ⟨_, rfl⟩
                                                      replace H : (if 0 ≤ (ji32) then (if (ji32) ≤ (((ji32) + 1) % 256) then (if (((ji32) + 1) % 256) ≤ 16 then (if 1 + ((⟨#[48, 49, 50, 51, 52, 53, 54, 55, 56, 57, 97, 98, 99, 100, 101, 102]⟩ : ByteArray).extract ((ji32) : Int).toNat ((((ji32) + 1) % 256) : Int).toNat).size ≤ 9223372036854775807 then (if 0 ≤ (Go.bits .and .u8 (bt ((rd_T34 (rd_L2 l0 x13_1) x24_3).f1) x9_6) 15) then (if (Go.bits .and .u8 (bt ((rd_T34 (rd_L2 l0 x13_1) x24_3).f1) x9_6) 15) ≤ (((Go.bits .and .u8 (bt ((rd_T34 (rd_L2 l0 x13_1) x24_3).f1) x9_6) 15) + 1) % 256) then (if (((Go.bits .and .u8 (bt ((rd_T34 (rd_L2 l0 x13_1) x24_3).f1) x9_6) 15) + 1) % 256) ≤ 16 then (if ((⟨#[92]⟩ : ByteArray) ++ ((⟨#[48, 49, 50, 51, 52, 53, 54, 55, 56, 57, 97, 98, 99, 100, 101, 102]⟩ : ByteArray).extract ((ji32) : Int).toNat ((((ji32) + 1) % 256) : Int).toNat)).size + ((⟨#[48, 49, 50, 51, 52, 53, 54, 55, 56, 57, 97, 98, 99, 100, 101, 102]⟩ : ByteArray).extract ((Go.bits .and .u8 (bt ((rd_T34 (rd_L2 l0 x13_1) x24_3).f1) x9_6) 15) : Int).toNat ((((Go.bits .and .u8 (bt ((rd_T34 (rd_L2 l0 x13_1) x24_3).f1) x9_6) 15) + 1) % 256) : Int).toNat).size ≤ 9223372036854775807 then (if x4_6.size + (((⟨#[92]⟩ : ByteArray) ++ ((⟨#[48, 49, 50, 51, 52, 53, 54, 55, 56, 57, 97, 98, 99, 100, 101, 102]⟩ : ByteArray).extract ((ji32) : Int).toNat ((((ji32) + 1) % 256) : Int).toNat)) ++ ((⟨#[48, 49, 50, 51, 52, 53, 54, 55, 56, 57, 97, 98, 99, 100, 101, 102]⟩ : ByteArray).extract ((Go.bits .and .u8 (bt ((rd_T34 (rd_L2 l0 x13_1) x24_3).f1) x9_6) 15) : Int).toNat ((((Go.bits .and .u8 (bt ((rd_T34 (rd_L2 l0 x13_1) x24_3).f1) x9_6) 15) + 1) % 256) : Int).toNat)).size ≤ 9223372036854775807 then (spec_WriteDN.l2 kj27 (x4_6 ++ (((⟨#[92]⟩ : ByteArray) ++ ((⟨#[48, 49, 50, 51, 52, 53, 54, 55, 56, 57, 97, 98, 99, 100, 101, 102]⟩ : ByteArray).extract ((ji32) : Int).toNat ((((ji32) + 1) % 256) : Int).toNat)) ++ ((⟨#[48, 49, 50, 51, 52, 53, 54, 55, 56, 57, 97, 98, 99, 100, 101, 102]⟩ : ByteArray).extract ((Go.bits .and .u8 (bt ((rd_T34 (rd_L2 l0 x13_1) x24_3).f1) x9_6) 15) : Int).toNat ((((Go.bits .and .u8 (bt ((rd_T34 (rd_L2 l0 x13_1) x24_3).f1) x9_6) 15) + 1) % 256) : Int).toNat))) (rd_L2 l0 x13_1) (wrap64 (x9_6 + 1)) l0 (l0.length : Int) x13_1 (rd_L2 l0 x13_1) ((rd_L2 l0 x13_1).length : Int) x24_3 ((rd_T34 (rd_L2 l0 x13_1) x24_3).f0) ((rd_T34 (rd_L2 l0 x13_1) x24_3).f1)) else (none)) else (none)) else (none)) else (none)) else (none)) else (none)) else (none)) else (none)) else (none)) = some (r1, r2) := by first | (rw [hji32] at H; exact H) | (simp only [hji32] at H ⊢; exact H)
                                                      by_cases c33 : 0 ≤ (ji32)
                                                      · rw [if_pos c33] at H
                                                        have c33b0 := eq_true c33
                                                        have c33b1 : decide (0 ≤ (ji32)) = true := decide_eq_true c33
                                                        clear c33
                                                        by_cases c34 : (ji32) ≤ (((ji32) + 1) % 256)
                                                        · rw [if_pos c34] at H
                                                          have c34b0 := eq_true c34
                                                          have c34b1 : decide ((ji32) ≤ (((ji32) + 1) % 256)) = true := decide_eq_true c34
                                                          by_cases c35 : (((ji32) + 1) % 256) ≤ 16
                                                          · rw [if_pos c35] at H
                                                            have c35b0 := eq_true c35
                                                            have c35b1 : decide ((((ji32) + 1) % 256) ≤ 16) = true := decide_eq_true c35
                                                            by_cases c36 : 1 + ((⟨#[48, 49, 50, 51, 52, 53, 54, 55, 56, 57, 97, 98, 99, 100, 101, 102]⟩ : ByteArray).extract ((ji32) : Int).toNat ((((ji32) + 1) % 256) : Int).toNat).size ≤ 9223372036854775807
                                                            · rw [if_pos c36] at H
                                                              have c36b0 := eq_true c36
                                                              have c36b1 : decide (1 + ((⟨#[48, 49, 50, 51, 52, 53, 54, 55, 56, 57, 97, 98, 99, 100, 101, 102]⟩ : ByteArray).extract ((ji32) : Int).toNat ((((ji32) + 1) % 256) : Int).toNat).size ≤ 9223372036854775807) = true := decide_eq_true c36
                                                              try have c36b2 : (9223372036854775807 < 1 + ((⟨#[48, 49, 50, 51, 52, 53, 54, 55, 56, 57, 97, 98, 99, 100, 101, 102]⟩ : ByteArray).extract ((ji32) : Int).toNat ((((ji32) + 1) % 256) : Int).toNat).size) = False := eq_false (Nat.not_lt.2 c36)
                                                              by_cases c37 : 0 ≤ (Go.bits .and .u8 (bt ((rd_T34 (rd_L2 l0 x13_1) x24_3).f1) x9_6) 15)
                                                              · rw [if_pos c37] at H
                                                                have c37b0 := eq_true c37
                                                                have c37b1 : decide (0 ≤ (Go.bits .and .u8 (bt ((rd_T34 (rd_L2 l0 x13_1) x24_3).f1) x9_6) 15)) = true := decide_eq_true c37
                                                                clear c37
                                                                by_cases c38 : (Go.bits .and .u8 (bt ((rd_T34 (rd_L2 l0 x13_1) x24_3).f1) x9_6) 15) ≤ (((Go.bits .and .u8 (bt ((rd_T34 (rd_L2 l0 x13_1) x24_3).f1) x9_6) 15) + 1) % 256)
                                                                · rw [if_pos c38] at H
                                                                  have c38b0 := eq_true c38
                                                                  have c38b1 : decide ((Go.bits .and .u8 (bt ((rd_T34 (rd_L2 l0 x13_1) x24_3).f1) x9_6) 15) ≤ (((Go.bits .and .u8 (bt ((rd_T34 (rd_L2 l0 x13_1) x24_3).f1) x9_6) 15) + 1) % 256)) = true := decide_eq_true c38
                                                                  by_cases c39 : (((Go.bits .and .u8 (bt ((rd_T34 (rd_L2 l0 x13_1) x24_3).f1) x9_6) 15) + 1) % 256) ≤ 16
                                                                  · rw [if_pos c39] at H
                                                                    have c39b0 := eq_true c39
                                                                    have c39b1 : decide ((((Go.bits .and .u8 (bt ((rd_T34 (rd_L2 l0 x13_1) x24_3).f1) x9_6) 15) + 1) % 256) ≤ 16) = true := decide_eq_true c39
                                                                    by_cases c40 : ((⟨#[92]⟩ : ByteArray) ++ ((⟨#[48, 49, 50, 51, 52, 53, 54, 55, 56, 57, 97, 98, 99, 100, 101, 102]⟩ : ByteArray).extract ((ji32) : Int).toNat ((((ji32) + 1) % 256) : Int).toNat)).size + ((⟨#[48, 49, 50, 51, 52, 53, 54, 55, 56, 57, 97, 98, 99, 100, 101, 102]⟩ : ByteArray).extract ((Go.bits .and .u8 (bt ((rd_T34 (rd_L2 l0 x13_1) x24_3).f1) x9_6) 15) : Int).toNat ((((Go.bits .and .u8 (bt ((rd_T34 (rd_L2 l0 x13_1) x24_3).f1) x9_6) 15) + 1) % 256) : Int).toNat).size ≤ 9223372036854775807
                                                                    · rw [if_pos c40] at H
                                                                      have c40b0 := eq_true c40
                                                                      have c40b1 : decide (((⟨#[92]⟩ : ByteArray) ++ ((⟨#[48, 49, 50, 51, 52, 53, 54, 55, 56, 57, 97, 98, 99, 100, 101, 102]⟩ : ByteArray).extract ((ji32) : Int).toNat ((((ji32) + 1) % 256) : Int).toNat)).size + ((⟨#[48, 49, 50, 51, 52, 53, 54, 55, 56, 57, 97, 98, 99, 100, 101, 102]⟩ : ByteArray).extract ((Go.bits .and .u8 (bt ((rd_T34 (rd_L2 l0 x13_1) x24_3).f1) x9_6) 15) : Int).toNat ((((Go.bits .and .u8 (bt ((rd_T34 (rd_L2 l0 x13_1) x24_3).f1) x9_6) 15) + 1) % 256) : Int).toNat).size ≤ 9223372036854775807) = true := decide_eq_true c40
                                                                      try have c40b2 : (9223372036854775807 < ((⟨#[92]⟩ : ByteArray) ++ ((⟨#[48, 49, 50, 51, 52, 53, 54, 55, 56, 57, 97, 98, 99, 100, 101, 102]⟩ : ByteArray).extract ((ji32) : Int).toNat ((((ji32) + 1) % 256) : Int).toNat)).size + ((⟨#[48, 49, 50, 51, 52, 53, 54, 55, 56, 57, 97, 98, 99, 100, 101, 102]⟩ : ByteArray).extract ((Go.bits .and .u8 (bt ((rd_T34 (rd_L2 l0 x13_1) x24_3).f1) x9_6) 15) : Int).toNat ((((Go.bits .and .u8 (bt ((rd_T34 (rd_L2 l0 x13_1) x24_3).f1) x9_6) 15) + 1) % 256) : Int).toNat).size) = False := eq_false (Nat.not_lt.2 c40)
                                                                      by_cases c41 : x4_6.size + (((⟨#[92]⟩ : ByteArray) ++ ((⟨#[48, 49, 50, 51, 52, 53, 54, 55, 56, 57, 97, 98, 99, 100, 101, 102]⟩ : ByteArray).extract ((ji32) : Int).toNat ((((ji32) + 1) % 256) : Int).toNat)) ++ ((⟨#[48, 49, 50, 51, 52, 53, 54, 55, 56, 57, 97, 98, 99, 100, 101, 102]⟩ : ByteArray).extract ((Go.bits .and .u8 (bt ((rd_T34 (rd_L2 l0 x13_1) x24_3).f1) x9_6) 15) : Int).toNat ((((Go.bits .and .u8 (bt ((rd_T34 (rd_L2 l0 x13_1) x24_3).f1) x9_6) 15) + 1) % 256) : Int).toNat)).size ≤ 9223372036854775807
                                                                      · rw [if_pos c41] at H
                                                                        have c41b0 := eq_true c41
                                                                        have c41b1 : decide (x4_6.size + (((⟨#[92]⟩ : ByteArray) ++ ((⟨#[48, 49, 50, 51, 52, 53, 54, 55, 56, 57, 97, 98, 99, 100, 101, 102]⟩ : ByteArray).extract ((ji32) : Int).toNat ((((ji32) + 1) % 256) : Int).toNat)) ++ ((⟨#[48, 49, 50, 51, 52, 53, 54, 55, 56, 57, 97, 98, 99, 100, 101, 102]⟩ : ByteArray).extract ((Go.bits .and .u8 (bt ((rd_T34 (rd_L2 l0 x13_1) x24_3).f1) x9_6) 15) : Int).toNat ((((Go.bits .and .u8 (bt ((rd_T34 (rd_L2 l0 x13_1) x24_3).f1) x9_6) 15) + 1) % 256) : Int).toNat)).size ≤ 9223372036854775807) = true := decide_eq_true c41
                                                                        try have c41b2 : (9223372036854775807 < x4_6.size + (((⟨#[92]⟩ : ByteArray) ++ ((⟨#[48, 49, 50, 51, 52, 53, 54, 55, 56, 57, 97, 98, 99, 100, 101, 102]⟩ : ByteArray).extract ((ji32) : Int).toNat ((((ji32) + 1) % 256) : Int).toNat)) ++ ((⟨#[48, 49, 50, 51, 52, 53, 54, 55, 56, 57, 97, 98, 99, 100, 101, 102]⟩ : ByteArray).extract ((Go.bits .and .u8 (bt ((rd_T34 (rd_L2 l0 x13_1) x24_3).f1) x9_6) 15) : Int).toNat ((((Go.bits .and .u8 (bt ((rd_T34 (rd_L2 l0 x13_1) x24_3).f1) x9_6) 15) + 1) % 256) : Int).toNat)).size) = False := eq_false (Nat.not_lt.2 c41)
                                                                        have H' := Aside0.mk H
                                                                        clear H
                                                                        go_wp2
                                                                        repeat (go_quiet (fail); try go_wp2)
                                                                        go_roundg kj27
                                                                        case measure => have := HK1.out; have := HJ4.out; have := HK3.out; have := HJ10.out; have := HJ15.out; have := HK6.out; have := HJ27.out; omega
                                                                        case rel => exact ⟨(x4_6 ++ (((⟨#[92]⟩ : ByteArray) ++ ((⟨#[48, 49, 50, 51, 52, 53, 54, 55, 56, 57, 97, 98, 99, 100, 101, 102]⟩ : ByteArray).extract ((ji32) : Int).toNat ((((ji32) + 1) % 256) : Int).toNat)) ++ ((⟨#[48, 49, 50, 51, 52, 53, 54, 55, 56, 57, 97, 98, 99, 100, 101, 102]⟩ : ByteArray).extract ((Go.bits .and .u8 (bt ((rd_T34 (rd_L2 l0 x13_1) x24_3).f1) x9_6) 15) : Int).toNat ((((Go.bits .and .u8 (bt ((rd_T34 (rd_L2 l0 x13_1) x24_3).f1) x9_6) 15) + 1) % 256) : Int).toNat))), (wrap64 (x9_6 + 1)), (by first | rfl | (simp; done) | (simp only [← hji32] <;> (first | rfl | simp)) | (simp [*]; done)), (by first | rfl | (simp; done) | (simp [*]; done)), H', ⟨by have := HK1.out; have := HJ4.out; have := HK3.out; have := HJ10.out; have := HJ15.out; have := HK6.out; have := HJ27.out; omega⟩, ⟨by (with_reducible repeat (first | refine blk_drewN ?_ _ | refine blk_drew ?_ | refine blk_alloc ?_ _)); exact BK222.out⟩, ⟨by repeat (first | (with_reducible first | exact HB.out | apply below_alloc | apply pw_below_drewN | apply below_drew1 | refine below_set ?_ GE222.out) | exact HB.out)⟩⟩
                                                                      · rw [if_neg c41] at H
                                                                        exact absurd H (by simp)
                                                                    · rw [if_neg c40] at H
                                                                      exact absurd H (by simp)
                                                                  · rw [if_neg c39] at H
                                                                    exact absurd H (by simp)
                                                                · rw [if_neg c38] at H
                                                                  exact absurd H (by simp)
                                                              · rw [if_neg c37] at H
                                                                exact absurd H (by simp)
                                                            · rw [if_neg c36] at H
                                                              exact absurd H (by simp)
                                                          · rw [if_neg c35] at H
                                                            exact absurd H (by simp)
                                                        · rw [if_neg c34] at H
                                                          exact absurd H (by simp)
                                                      · rw [if_neg c33] at H
                                                        exact absurd H (by simp)
                                                    · replace c31 := Bool.eq_false_iff.mpr c31
                                                      subst c31
                                                      have H1 : ((spec_dnSpecial.f (bt ((rd_T34 (rd_L2 l0 x13_1) x24_3).f1) x9_6)).bind fun t224 => (if t224 = true then (if 0 ≤ x9_6 then (if x9_6 ≤ (wrap64 (x9_6 + 1)) then (if (wrap64 (x9_6 + 1)) ≤ (((rd_T34 (rd_L2 l0 x13_1) x24_3).f1).size : Int) then (if 1 + (((rd_T34 (rd_L2 l0 x13_1) x24_3).f1).extract (x9_6 : Int).toNat ((wrap64 (x9_6 + 1)) : Int).toNat).size ≤ 9223372036854775807 then (if x4_6.size + ((⟨#[92]⟩ : ByteArray) ++ (((rd_T34 (rd_L2 l0 x13_1) x24_3).f1).extract (x9_6 : Int).toNat ((wrap64 (x9_6 + 1)) : Int).toNat)).size ≤ 9223372036854775807 then (spec_WriteDN.l2 kj27 (x4_6 ++ ((⟨#[92]⟩ : ByteArray) ++ (((rd_T34 (rd_L2 l0 x13_1) x24_3).f1).extract (x9_6 : Int).toNat ((wrap64 (x9_6 + 1)) : Int).toNat))) (rd_L2 l0 x13_1) (wrap64 (x9_6 + 1)) l0 (l0.length : Int) x13_1 (rd_L2 l0 x13_1) ((rd_L2 l0 x13_1).length : Int) x24_3 ((rd_T34 (rd_L2 l0 x13_1) x24_3).f0) ((rd_T34 (rd_L2 l0 x13_1) x24_3).f1)) else (none)) else (none)) else (none)) else (none)) else (none)) else (if (bt ((rd_T34 (rd_L2 l0 x13_1) x24_3).f1) x9_6) = 61 then (if 0 ≤ x9_6 then (if x9_6 ≤ (wrap64 (x9_6 + 1)) then (if (wrap64 (x9_6 + 1)) ≤ (((rd_T34 (rd_L2 l0 x13_1) x24_3).f1).size : Int) then (if 1 + (((rd_T34 (rd_L2 l0 x13_1) x24_3).f1).extract (x9_6 : Int).toNat ((wrap64 (x9_6 + 1)) : Int).toNat).size ≤ 9223372036854775807 then (if x4_6.size + ((⟨#[92]⟩ : ByteArray) ++ (((rd_T34 (rd_L2 l0 x13_1) x24_3).f1).extract (x9_6 : Int).toNat ((wrap64 (x9_6 + 1)) : Int).toNat)).size ≤ 9223372036854775807 then (spec_WriteDN.l2 kj27 (x4_6 ++ ((⟨#[92]⟩ : ByteArray) ++ (((rd_T34 (rd_L2 l0 x13_1) x24_3).f1).extract (x9_6 : Int).toNat ((wrap64 (x9_6 + 1)) : Int).toNat))) (rd_L2 l0 x13_1) (wrap64 (x9_6 + 1)) l0 (l0.length : Int) x13_1 (rd_L2 l0 x13_1) ((rd_L2 l0 x13_1).length : Int) x24_3 ((rd_T34 (rd_L2 l0 x13_1) x24_3).f0) ((rd_T34 (rd_L2 l0 x13_1) x24_3).f1)) else (none)) else (none)) else (none)) else (none)) else (none)) else (if (bt ((rd_T34 (rd_L2 l0 x13_1) x24_3).f1) x9_6) = 32 then (if x9_6 = 0 then (if 0 ≤ x9_6 then (if x9_6 ≤ (wrap64 (x9_6 + 1)) then (if (wrap64 (x9_6 + 1)) ≤ (((rd_T34 (rd_L2 l0 x13_1) x24_3).f1).size : Int) then (if 1 + (((rd_T34 (rd_L2 l0 x13_1) x24_3).f1).extract (x9_6 : Int).toNat ((wrap64 (x9_6 + 1)) : Int).toNat).size ≤ 9223372036854775807 then (if x4_6.size + ((⟨#[92]⟩ : ByteArray) ++ (((rd_T34 (rd_L2 l0 x13_1) x24_3).f1).extract (x9_6 : Int).toNat ((wrap64 (x9_6 + 1)) : Int).toNat)).size ≤ 9223372036854775807 then (spec_WriteDN.l2 kj27 (x4_6 ++ ((⟨#[92]⟩ : ByteArray) ++ (((rd_T34 (rd_L2 l0 x13_1) x24_3).f1).extract (x9_6 : Int).toNat ((wrap64 (x9_6 + 1)) : Int).toNat))) (rd_L2 l0 x13_1) (wrap64 (x9_6 + 1)) l0 (l0.length : Int) x13_1 (rd_L2 l0 x13_1) ((rd_L2 l0 x13_1).length : Int) x24_3 ((rd_T34 (rd_L2 l0 x13_1) x24_3).f0) ((rd_T34 (rd_L2 l0 x13_1) x24_3).f1)) else (none)) else (none)) else (none)) else (none)) else (none)) else (if x9_6 = (wrap64 ((((rd_T34 (rd_L2 l0 x13_1) x24_3).f1).size : Int) - 1)) then (if 0 ≤ x9_6 then (if x9_6 ≤ (wrap64 (x9_6 + 1)) then (if (wrap64 (x9_6 + 1)) ≤ (((rd_T34 (rd_L2 l0 x13_1) x24_3).f1).size : Int) then (if 1 + (((rd_T34 (rd_L2 l0 x13_1) x24_3).f1).extract (x9_6 : Int).toNat ((wrap64 (x9_6 + 1)) : Int).toNat).size ≤ 9223372036854775807 then (if x4_6.size + ((⟨#[92]⟩ : ByteArray) ++ (((rd_T34 (rd_L2 l0 x13_1) x24_3).f1).extract (x9_6 : Int).toNat ((wrap64 (x9_6 + 1)) : Int).toNat)).size ≤ 9223372036854775807 then (spec_WriteDN.l2 kj27 (x4_6 ++ ((⟨#[92]⟩ : ByteArray) ++ (((rd_T34 (rd_L2 l0 x13_1) x24_3).f1).extract (x9_6 : Int).toNat ((wrap64 (x9_6 + 1)) : Int).toNat))) (rd_L2 l0 x13_1) (wrap64 (x9_6 + 1)) l0 (l0.length : Int) x13_1 (rd_L2 l0 x13_1) ((rd_L2 l0 x13_1).length : Int) x24_3 ((rd_T34 (rd_L2 l0 x13_1) x24_3).f0) ((rd_T34 (rd_L2 l0 x13_1) x24_3).f1)) else (none)) else (none)) else (none)) else (none)) else (none)) else (if (bt ((rd_T34 (rd_L2 l0 x13_1) x24_3).f1) x9_6) = 35 then (if 0 ≤ x9_6 then (if x9_6 ≤ (wrap64 (x9_6 + 1)) then (if (wrap64 (x9_6 + 1)) ≤ (((rd_T34 (rd_L2 l0 x13_1) x24_3).f1).size : Int) then (if x4_6.size + (((rd_T34 (rd_L2 l0 x13_1) x24_3).f1).extract (x9_6 : Int).toNat ((wrap64 (x9_6 + 1)) : Int).toNat).size ≤ 9223372036854775807 then (spec_WriteDN.l2 kj27 (x4_6 ++ (((rd_T34 (rd_L2 l0 x13_1) x24_3).f1).extract (x9_6 : Int).toNat ((wrap64 (x9_6 + 1)) : Int).toNat)) (rd_L2 l0 x13_1) (wrap64 (x9_6 + 1)) l0 (l0.length : Int) x13_1 (rd_L2 l0 x13_1) ((rd_L2 l0 x13_1).length : Int) x24_3 ((rd_T34 (rd_L2 l0 x13_1) x24_3).f0) ((rd_T34 (rd_L2 l0 x13_1) x24_3).f1)) else (none)) else (none)) else (none)) else (none)) else (if 0 ≤ x9_6 then (if x9_6 ≤ (wrap64 (x9_6 + 1)) then (if (wrap64 (x9_6 + 1)) ≤ (((rd_T34 (rd_L2 l0 x13_1) x24_3).f1).size : Int) then (if x4_6.size + (((rd_T34 (rd_L2 l0 x13_1) x24_3).f1).extract (x9_6 : Int).toNat ((wrap64 (x9_6 + 1)) : Int).toNat).size ≤ 9223372036854775807 then (spec_WriteDN.l2 kj27 (x4_6 ++ (((rd_T34 (rd_L2 l0 x13_1) x24_3).f1).extract (x9_6 : Int).toNat ((wrap64 (x9_6 + 1)) : Int).toNat)) (rd_L2 l0 x13_1) (wrap64 (x9_6 + 1)) l0 (l0.length : Int) x13_1 (rd_L2 l0 x13_1) ((rd_L2 l0 x13_1).length : Int) x24_3 ((rd_T34 (rd_L2 l0 x13_1) x24_3).f0) ((rd_T34 (rd_L2 l0 x13_1) x24_3).f1)) else (none)) else (none)) else (none)) else (none))))) else (if (bt ((rd_T34 (rd_L2 l0 x13_1) x24_3).f1) x9_6) = 35 then (if x9_6 = 0 then (if 0 ≤ x9_6 then (if x9_6 ≤ (wrap64 (x9_6 + 1)) then (if (wrap64 (x9_6 + 1)) ≤ (((rd_T34 (rd_L2 l0 x13_1) x24_3).f1).size : Int) then (if 1 + (((rd_T34 (rd_L2 l0 x13_1) x24_3).f1).extract (x9_6 : Int).toNat ((wrap64 (x9_6 + 1)) : Int).toNat).size ≤ 9223372036854775807 then (if x4_6.size + ((⟨#[92]⟩ : ByteArray) ++ (((rd_T34 (rd_L2 l0 x13_1) x24_3).f1).extract (x9_6 : Int).toNat ((wrap64 (x9_6 + 1)) : Int).toNat)).size ≤ 9223372036854775807 then (spec_WriteDN.l2 kj27 (x4_6 ++ ((⟨#[92]⟩ : ByteArray) ++ (((rd_T34 (rd_L2 l0 x13_1) x24_3).f1).extract (x9_6 : Int).toNat ((wrap64 (x9_6 + 1)) : Int).toNat))) (rd_L2 l0 x13_1) (wrap64 (x9_6 + 1)) l0 (l0.length : Int) x13_1 (rd_L2 l0 x13_1) ((rd_L2 l0 x13_1).length : Int) x24_3 ((rd_T34 (rd_L2 l0 x13_1) x24_3).f0) ((rd_T34 (rd_L2 l0 x13_1) x24_3).f1)) else (none)) else (none)) else (none)) else (none)) else (none)) else (if 0 ≤ x9_6 then (if x9_6 ≤ (wrap64 (x9_6 + 1)) then (if (wrap64 (x9_6 + 1)) ≤ (((rd_T34 (rd_L2 l0 x13_1) x24_3).f1).size : Int) then (if x4_6.size + (((rd_T34 (rd_L2 l0 x13_1) x24_3).f1).extract (x9_6 : Int).toNat ((wrap64 (x9_6 + 1)) : Int).toNat).size ≤ 9223372036854775807 then (spec_WriteDN.l2 kj27 (x4_6 ++ (((rd_T34 (rd_L2 l0 x13_1) x24_3).f1).extract (x9_6 : Int).toNat ((wrap64 (x9_6 + 1)) : Int).toNat)) (rd_L2 l0 x13_1) (wrap64 (x9_6 + 1)) l0 (l0.length : Int) x13_1 (rd_L2 l0 x13_1) ((rd_L2 l0 x13_1).length : Int) x24_3 ((rd_T34 (rd_L2 l0 x13_1) x24_3).f0) ((rd_T34 (rd_L2 l0 x13_1) x24_3).f1)) else (none)) else (none)) else (none)) else (none))) else (if 0 ≤ x9_6 then (if x9_6 ≤ (wrap64 (x9_6 + 1)) then (if (wrap64 (x9_6 + 1)) ≤ (((rd_T34 (rd_L2 l0 x13_1) x24_3).f1).size : Int) then (if x4_6.size + (((rd_T34 (rd_L2 l0 x13_1) x24_3).f1).extract (x9_6 : Int).toNat ((wrap64 (x9_6 + 1)) : Int).toNat).size ≤ 9223372036854775807 then (spec_WriteDN.l2 kj27 (x4_6 ++ (((rd_T34 (rd_L2 l0 x13_1) x24_3).f1).extract (x9_6 : Int).toNat ((wrap64 (x9_6 + 1)) : Int).toNat)) (rd_L2 l0 x13_1) (wrap64 (x9_6 + 1)) l0 (l0.length : Int) x13_1 (rd_L2 l0 x13_1) ((rd_L2 l0 x13_1).length : Int) x24_3 ((rd_T34 (rd_L2 l0 x13_1) x24_3).f0) ((rd_T34 (rd_L2 l0 x13_1) x24_3).f1)) else (none)) else (none)) else (none)) else (none))))))) = some (r1, r2) := by rw [if_neg (show ¬ (false = true) by decide)] at H; exact H
                                                      clear H
                                                      have H := H1
                                                      clear H1
                                                      replace H := Option.bind_eq_some_iff.mp H
                                                      obtain ⟨t224, A420, H⟩ := H
                                                      replace H : (if t224 = true then (if 0 ≤ x9_6 then (if x9_6 ≤ (wrap64 (x9_6 + 1)) then (if (wrap64 (x9_6 + 1)) ≤ (((rd_T34 (rd_L2 l0 x13_1) x24_3).f1).size : Int) then (if 1 + (((rd_T34 (rd_L2 l0 x13_1) x24_3).f1).extract (x9_6 : Int).toNat ((wrap64 (x9_6 + 1)) : Int).toNat).size ≤ 9223372036854775807 then (if x4_6.size + ((⟨#[92]⟩ : ByteArray) ++ (((rd_T34 (rd_L2 l0 x13_1) x24_3).f1).extract (x9_6 : Int).toNat ((wrap64 (x9_6 + 1)) : Int).toNat)).size ≤ 9223372036854775807 then (spec_WriteDN.l2 kj27 (x4_6 ++ ((⟨#[92]⟩ : ByteArray) ++ (((rd_T34 (rd_L2 l0 x13_1) x24_3).f1).extract (x9_6 : Int).toNat ((wrap64 (x9_6 + 1)) : Int).toNat))) (rd_L2 l0 x13_1) (wrap64 (x9_6 + 1)) l0 (l0.length : Int) x13_1 (rd_L2 l0 x13_1) ((rd_L2 l0 x13_1).length : Int) x24_3 ((rd_T34 (rd_L2 l0 x13_1) x24_3).f0) ((rd_T34 (rd_L2 l0 x13_1) x24_3).f1)) else (none)) else (none)) else (none)) else (none)) else (none)) else (if (bt ((rd_T34 (rd_L2 l0 x13_1) x24_3).f1) x9_6) = 61 then (if 0 ≤ x9_6 then (if x9_6 ≤ (wrap64 (x9_6 + 1)) then (if (wrap64 (x9_6 + 1)) ≤ (((rd_T34 (rd_L2 l0 x13_1) x24_3).f1).size : Int) then (if 1 + (((rd_T34 (rd_L2 l0 x13_1) x24_3).f1).extract (x9_6 : Int).toNat ((wrap64 (x9_6 + 1)) : Int).toNat).size ≤ 9223372036854775807 then (if x4_6.size + ((⟨#[92]⟩ : ByteArray) ++ (((rd_T34 (rd_L2 l0 x13_1) x24_3).f1).extract (x9_6 : Int).toNat ((wrap64 (x9_6 + 1)) : Int).toNat)).size ≤ 9223372036854775807 then (spec_WriteDN.l2 kj27 (x4_6 ++ ((⟨#[92]⟩ : ByteArray) ++ (((rd_T34 (rd_L2 l0 x13_1) x24_3).f1).extract (x9_6 : Int).toNat ((wrap64 (x9_6 + 1)) : Int).toNat))) (rd_L2 l0 x13_1) (wrap64 (x9_6 + 1)) l0 (l0.length : Int) x13_1 (rd_L2 l0 x13_1) ((rd_L2 l0 x13_1).length : Int) x24_3 ((rd_T34 (rd_L2 l0 x13_1) x24_3).f0) ((rd_T34 (rd_L2 l0 x13_1) x24_3).f1)) else (none)) else (none)) else (none)) else (none)) else (none)) else (if (bt ((rd_T34 (rd_L2 l0 x13_1) x24_3).f1) x9_6) = 32 then (if x9_6 = 0 then (if 0 ≤ x9_6 then (if x9_6 ≤ (wrap64 (x9_6 + 1)) then (if (wrap64 (x9_6 + 1)) ≤ (((rd_T34 (rd_L2 l0 x13_1) x24_3).f1).size : Int) then (if 1 + (((rd_T34 (rd_L2 l0 x13_1) x24_3).f1).extract (x9_6 : Int).toNat ((wrap64 (x9_6 + 1)) : Int).toNat).size ≤ 9223372036854775807 then (if x4_6.size + ((⟨#[92]⟩ : ByteArray) ++ (((rd_T34 (rd_L2 l0 x13_1) x24_3).f1).extract (x9_6 : Int).toNat ((wrap64 (x9_6 + 1)) : Int).toNat)).size ≤ 9223372036854775807 then (spec_WriteDN.l2 kj27 (x4_6 ++ ((⟨#[92]⟩ : ByteArray) ++ (((rd_T34 (rd_L2 l0 x13_1) x24_3).f1).extract (x9_6 : Int).toNat ((wrap64 (x9_6 + 1)) : Int).toNat))) (rd_L2 l0 x13_1) (wrap64 (x9_6 + 1)) l0 (l0.length : Int) x13_1 (rd_L2 l0 x13_1) ((rd_L2 l0 x13_1).length : Int) x24_3 ((rd_T34 (rd_L2 l0 x13_1) x24_3).f0) ((rd_T34 (rd_L2 l0 x13_1) x24_3).f1)) else (none)) else (none)) else (none)) else (none)) else (none)) else (if x9_6 = (wrap64 ((((rd_T34 (rd_L2 l0 x13_1) x24_3).f1).size : Int) - 1)) then (if 0 ≤ x9_6 then (if x9_6 ≤ (wrap64 (x9_6 + 1)) then (if (wrap64 (x9_6 + 1)) ≤ (((rd_T34 (rd_L2 l0 x13_1) x24_3).f1).size : Int) then (if 1 + (((rd_T34 (rd_L2 l0 x13_1) x24_3).f1).extract (x9_6 : Int).toNat ((wrap64 (x9_6 + 1)) : Int).toNat).size ≤ 9223372036854775807 then (if x4_6.size + ((⟨#[92]⟩ : ByteArray) ++ (((rd_T34 (rd_L2 l0 x13_1) x24_3).f1).extract (x9_6 : Int).toNat ((wrap64 (x9_6 + 1)) : Int).toNat)).size ≤ 9223372036854775807 then (spec_WriteDN.l2 kj27 (x4_6 ++ ((⟨#[92]⟩ : ByteArray) ++ (((rd_T34 (rd_L2 l0 x13_1) x24_3).f1).extract (x9_6 : Int).toNat ((wrap64 (x9_6 + 1)) : Int).toNat))) (rd_L2 l0 x13_1) (wrap64 (x9_6 + 1)) l0 (l0.length : Int) x13_1 (rd_L2 l0 x13_1) ((rd_L2 l0 x13_1).length : Int) x24_3 ((rd_T34 (rd_L2 l0 x13_1) x24_3).f0) ((rd_T34 (rd_L2 l0 x13_1) x24_3).f1)) else (none)) else (none)) else (none)) else (none)) else (none)) else (if (bt ((rd_T34 (rd_L2 l0 x13_1) x24_3).f1) x9_6) = 35 then (if 0 ≤ x9_6 then (if x9_6 ≤ (wrap64 (x9_6 + 1)) then (if (wrap64 (x9_6 + 1)) ≤ (((rd_T34 (rd_L2 l0 x13_1) x24_3).f1).size : Int) then (if x4_6.size + (((rd_T34 (rd_L2 l0 x13_1) x24_3).f1).extract (x9_6 : Int).toNat ((wrap64 (x9_6 + 1)) : Int).toNat).size ≤ 9223372036854775807 then (spec_WriteDN.l2 kj27 (x4_6 ++ (((rd_T34 (rd_L2 l0 x13_1) x24_3).f1).extract (x9_6 : Int).toNat ((wrap64 (x9_6 + 1)) : Int).toNat)) (rd_L2 l0 x13_1) (wrap64 (x9_6 + 1)) l0 (l0.length : Int) x13_1 (rd_L2 l0 x13_1) ((rd_L2 l0 x13_1).length : Int) x24_3 ((rd_T34 (rd_L2 l0 x13_1) x24_3).f0) ((rd_T34 (rd_L2 l0 x13_1) x24_3).f1)) else (none)) else (none)) else (none)) else (none)) else (if 0 ≤ x9_6 then (if x9_6 ≤ (wrap64 (x9_6 + 1)) then (if (wrap64 (x9_6 + 1)) ≤ (((rd_T34 (rd_L2 l0 x13_1) x24_3).f1).size : Int) then (if x4_6.size + (((rd_T34 (rd_L2 l0 x13_1) x24_3).f1).extract (x9_6 : Int).toNat ((wrap64 (x9_6 + 1)) : Int).toNat).size ≤ 9223372036854775807 then (spec_WriteDN.l2 kj27 (x4_6 ++ (((rd_T34 (rd_L2 l0 x13_1) x24_3).f1).extract (x9_6 : Int).toNat ((wrap64 (x9_6 + 1)) : Int).toNat)) (rd_L2 l0 x13_1) (wrap64 (x9_6 + 1)) l0 (l0.length : Int) x13_1 (rd_L2 l0 x13_1) ((rd_L2 l0 x13_1).length : Int) x24_3 ((rd_T34 (rd_L2 l0 x13_1) x24_3).f0) ((rd_T34 (rd_L2 l0 x13_1) x24_3).f1)) else (none)) else (none)) else (none)) else (none))))) else (if (bt ((rd_T34 (rd_L2 l0 x13_1) x24_3).f1) x9_6) = 35 then (if x9_6 = 0 then (if 0 ≤ x9_6 then (if x9_6 ≤ (wrap64 (x9_6 + 1)) then (if (wrap64 (x9_6 + 1)) ≤ (((rd_T34 (rd_L2 l0 x13_1) x24_3).f1).size : Int) then (if 1 + (((rd_T34 (rd_L2 l0 x13_1) x24_3).f1).extract (x9_6 : Int).toNat ((wrap64 (x9_6 + 1)) : Int).toNat).size ≤ 9223372036854775807 then (if x4_6.size + ((⟨#[92]⟩ : ByteArray) ++ (((rd_T34 (rd_L2 l0 x13_1) x24_3).f1).extract (x9_6 : Int).toNat ((wrap64 (x9_6 + 1)) : Int).toNat)).size ≤ 9223372036854775807 then (spec_WriteDN.l2 kj27 (x4_6 ++ ((⟨#[92]⟩ : ByteArray) ++ (((rd_T34 (rd_L2 l0 x13_1) x24_3).f1).extract (x9_6 : Int).toNat ((wrap64 (x9_6 + 1)) : Int).toNat))) (rd_L2 l0 x13_1) (wrap64 (x9_6 + 1)) l0 (l0.length : Int) x13_1 (rd_L2 l0 x13_1) ((rd_L2 l0 x13_1).length : Int) x24_3 ((rd_T34 (rd_L2 l0 x13_1) x24_3).f0) ((rd_T34 (rd_L2 l0 x13_1) x24_3).f1)) else (none)) else (none)) else (none)) else (none)) else (none)) else (if 0 ≤ x9_6 then (if x9_6 ≤ (wrap64 (x9_6 + 1)) then (if (wrap64 (x9_6 + 1)) ≤ (((rd_T34 (rd_L2 l0 x13_1) x24_3).f1).size : Int) then (if x4_6.size + (((rd_T34 (rd_L2 l0 x13_1) x24_3).f1).extract (x9_6 : Int).toNat ((wrap64 (x9_6 + 1)) : Int).toNat).size ≤ 9223372036854775807 then (spec_WriteDN.l2 kj27 (x4_6 ++ (((rd_T34 (rd_L2 l0 x13_1) x24_3).f1).extract (x9_6 : Int).toNat ((wrap64 (x9_6 + 1)) : Int).toNat)) (rd_L2 l0 x13_1) (wrap64 (x9_6 + 1)) l0 (l0.length : Int) x13_1 (rd_L2 l0 x13_1) ((rd_L2 l0 x13_1).length : Int) x24_3 ((rd_T34 (rd_L2 l0 x13_1) x24_3).f0) ((rd_T34 (rd_L2 l0 x13_1) x24_3).f1)) else (none)) else (none)) else (none)) else (none))) else (if 0 ≤ x9_6 then (if x9_6 ≤ (wrap64 (x9_6 + 1)) then (if (wrap64 (x9_6 + 1)) ≤ (((rd_T34 (rd_L2 l0 x13_1) x24_3).f1).size : Int) then (if x4_6.size + (((rd_T34 (rd_L2 l0 x13_1) x24_3).f1).extract (x9_6 : Int).toNat ((wrap64 (x9_6 + 1)) : Int).toNat).size ≤ 9223372036854775807 then (spec_WriteDN.l2 kj27 (x4_6 ++ (((rd_T34 (rd_L2 l0 x13_1) x24_3).f1).extract (x9_6 : Int).toNat ((wrap64 (x9_6 + 1)) : Int).toNat)) (rd_L2 l0 x13_1) (wrap64 (x9_6 + 1)) l0 (l0.length : Int) x13_1 (rd_L2 l0 x13_1) ((rd_L2 l0 x13_1).length : Int) x24_3 ((rd_T34 (rd_L2 l0 x13_1) x24_3).f0) ((rd_T34 (rd_L2 l0 x13_1) x24_3).f1)) else (none)) else (none)) else (none)) else (none)))))) = some (r1, r2) := H
                                                      have A42 := Aside0.mk A420
                                                      clear A420
                                                      by_cases c43 : t224 = true
                                                      · subst c43
                                                        have H1 : (if 0 ≤ x9_6 then (if x9_6 ≤ (wrap64 (x9_6 + 1)) then (if (wrap64 (x9_6 + 1)) ≤ (((rd_T34 (rd_L2 l0 x13_1) x24_3).f1).size : Int) then (if 1 + (((rd_T34 (rd_L2 l0 x13_1) x24_3).f1).extract (x9_6 : Int).toNat ((wrap64 (x9_6 + 1)) : Int).toNat).size ≤ 9223372036854775807 then (if x4_6.size + ((⟨#[92]⟩ : ByteArray) ++ (((rd_T34 (rd_L2 l0 x13_1) x24_3).f1).extract (x9_6 : Int).toNat ((wrap64 (x9_6 + 1)) : Int).toNat)).size ≤ 9223372036854775807 then (spec_WriteDN.l2 kj27 (x4_6 ++ ((⟨#[92]⟩ : ByteArray) ++ (((rd_T34 (rd_L2 l0 x13_1) x24_3).f1).extract (x9_6 : Int).toNat ((wrap64 (x9_6 + 1)) : Int).toNat))) (rd_L2 l0 x13_1) (wrap64 (x9_6 + 1)) l0 (l0.length : Int) x13_1 (rd_L2 l0 x13_1) ((rd_L2 l0 x13_1).length : Int) x24_3 ((rd_T34 (rd_L2 l0 x13_1) x24_3).f0) ((rd_T34 (rd_L2 l0 x13_1) x24_3).f1)) else (none)) else (none)) else (none)) else (none)) else (none)) = some (r1, r2) := by rw [if_pos rfl] at H; exact H
                                                        clear H
                                                        have H := H1
                                                        clear H1
                                                        by_cases c44 : 0 ≤ x9_6
                                                        · rw [if_pos c44] at H
                                                          have c44b0 := eq_true c44
                                                          have c44b1 : decide (0 ≤ x9_6) = true := decide_eq_true c44
                                                          clear c44
                                                          by_cases c45 : x9_6 ≤ (wrap64 (x9_6 + 1))
                                                          · rw [if_pos c45] at H
                                                            have c45b0 := eq_true c45
                                                            have c45b1 : decide (x9_6 ≤ (wrap64 (x9_6 + 1))) = true := decide_eq_true c45
                                                            by_cases c46 : (wrap64 (x9_6 + 1)) ≤ (((rd_T34 (rd_L2 l0 x13_1) x24_3).f1).size : Int)
                                                            · rw [if_pos c46] at H
                                                              have c46b0 := eq_true c46
                                                              have c46b1 : decide ((wrap64 (x9_6 + 1)) ≤ (((rd_T34 (rd_L2 l0 x13_1) x24_3).f1).size : Int)) = true := decide_eq_true c46
                                                              by_cases c47 : 1 + (((rd_T34 (rd_L2 l0 x13_1) x24_3).f1).extract (x9_6 : Int).toNat ((wrap64 (x9_6 + 1)) : Int).toNat).size ≤ 9223372036854775807
                                                              · rw [if_pos c47] at H
                                                                have c47b0 := eq_true c47
                                                                have c47b1 : decide (1 + (((rd_T34 (rd_L2 l0 x13_1) x24_3).f1).extract (x9_6 : Int).toNat ((wrap64 (x9_6 + 1)) : Int).toNat).size ≤ 9223372036854775807) = true := decide_eq_true c47
                                                                try have c47b2 : (9223372036854775807 < 1 + (((rd_T34 (rd_L2 l0 x13_1) x24_3).f1).extract (x9_6 : Int).toNat ((wrap64 (x9_6 + 1)) : Int).toNat).size) = False := eq_false (Nat.not_lt.2 c47)
                                                                have c47b3 : (9223372036854775807 < 1 + ((wrap64 (x9_6 + 1)).toNat - (x9_6).toNat)) = False := eq_false (by have z0 : 0 ≤ x9_6 := of_eq_true (by assumption); unfold wrap64; omega)
                                                                by_cases c48 : x4_6.size + ((⟨#[92]⟩ : ByteArray) ++ (((rd_T34 (rd_L2 l0 x13_1) x24_3).f1).extract (x9_6 : Int).toNat ((wrap64 (x9_6 + 1)) : Int).toNat)).size ≤ 9223372036854775807
                                                                · rw [if_pos c48] at H
                                                                  have c48b0 := eq_true c48
                                                                  have c48b1 : decide (x4_6.size + ((⟨#[92]⟩ : ByteArray) ++ (((rd_T34 (rd_L2 l0 x13_1) x24_3).f1).extract (x9_6 : Int).toNat ((wrap64 (x9_6 + 1)) : Int).toNat)).size ≤ 9223372036854775807) = true := decide_eq_true c48
                                                                  try have c48b2 : (9223372036854775807 < x4_6.size + ((⟨#[92]⟩ : ByteArray) ++ (((rd_T34 (rd_L2 l0 x13_1) x24_3).f1).extract (x9_6 : Int).toNat ((wrap64 (x9_6 + 1)) : Int).toNat)).size) = False := eq_false (Nat.not_lt.2 c48)
                                                                  have H' := Aside0.mk H
                                                                  clear H
                                                                  go_wp2_with (first | (go_at_call 23; (with_reducible refine (spec_dnSpecial.calls (bt ((rd_T34 (rd_L2 l0 x13_1) x24_3).f1) x9_6) true _ A42.out).mono ?_); rintro e w' ⟨rfl, ⟨nd, rfl⟩⟩; (try first | exact ⟨rfl, _, World.drewN_drewN _ _ _⟩ | exact ⟨rfl, _, Eq.trans (World.drewN_drewN _ _ _) (congrArg (World.drewN _) (Nat.add_assoc _ _ _))⟩); have hcz49_0 : wc.cell? ⟨gb222, 0, none⟩ = some (.string ((rd_T34 (rd_L2 l0 x13_1) x24_3).f0)) := (blk_cell BK222.out 0).trans rfl; have hcz49_1 : wc.cell? ⟨gb222, 1, none⟩ = some (.string ((rd_T34 (rd_L2 l0 x13_1) x24_3).f1)) := (blk_cell BK222.out 1).trans rfl; have hfz49_0 := blk_frozen BK222.out 0; have hfz49_1 := blk_frozen BK222.out 1))
                                                                  repeat (go_quiet (first | (go_at_call 23; (with_reducible refine (spec_dnSpecial.calls (bt ((rd_T34 (rd_L2 l0 x13_1) x24_3).f1) x9_6) true _ A42.out).mono ?_); rintro e w' ⟨rfl, ⟨nd, rfl⟩⟩; (try first | exact ⟨rfl, _, World.drewN_drewN _ _ _⟩ | exact ⟨rfl, _, Eq.trans (World.drewN_drewN _ _ _) (congrArg (World.drewN _) (Nat.add_assoc _ _ _))⟩); have hcz49_0 : wc.cell? ⟨gb222, 0, none⟩ = some (.string ((rd_T34 (rd_L2 l0 x13_1) x24_3).f0)) := (blk_cell BK222.out 0).trans rfl; have hcz49_1 : wc.cell? ⟨gb222, 1, none⟩ = some (.string ((rd_T34 (rd_L2 l0 x13_1) x24_3).f1)) := (blk_cell BK222.out 1).trans rfl; have hfz49_0 := blk_frozen BK222.out 0; have hfz49_1 := blk_frozen BK222.out 1)); try go_wp2_with (first | (go_at_call 23; (with_reducible refine (spec_dnSpecial.calls (bt ((rd_T34 (rd_L2 l0 x13_1) x24_3).f1) x9_6) true _ A42.out).mono ?_); rintro e w' ⟨rfl, ⟨nd, rfl⟩⟩; (try first | exact ⟨rfl, _, World.drewN_drewN _ _ _⟩ | exact ⟨rfl, _, Eq.trans (World.drewN_drewN _ _ _) (congrArg (World.drewN _) (Nat.add_assoc _ _ _))⟩); have hcz49_0 : wc.cell? ⟨gb222, 0, none⟩ = some (.string ((rd_T34 (rd_L2 l0 x13_1) x24_3).f0)) := (blk_cell BK222.out 0).trans rfl; have hcz49_1 : wc.cell? ⟨gb222, 1, none⟩ = some (.string ((rd_T34 (rd_L2 l0 x13_1) x24_3).f1)) := (blk_cell BK222.out 1).trans rfl; have hfz49_0 := blk_frozen BK222.out 0; have hfz49_1 := blk_frozen BK222.out 1)))
                                                                  go_roundg kj27
                                                                  case measure => have := HK1.out; have := HJ4.out; have := HK3.out; have := HJ10.out; have := HJ15.out; have := HK6.out; have := HJ27.out; omega
                                                                  case rel => exact ⟨(x4_6 ++ ((⟨#[92]⟩ : ByteArray) ++ (((rd_T34 (rd_L2 l0 x13_1) x24_3).f1).extract (x9_6 : Int).toNat ((wrap64 (x9_6 + 1)) : Int).toNat))), (wrap64 (x9_6 + 1)), (by first | rfl | (simp; done) | (simp [*]; done)), (by first | rfl | (simp; done) | (simp [*]; done)), H', ⟨by have := HK1.out; have := HJ4.out; have := HK3.out; have := HJ10.out; have := HJ15.out; have := HK6.out; have := HJ27.out; omega⟩, ⟨by (with_reducible repeat (first | refine blk_drewN ?_ _ | refine blk_drew ?_ | refine blk_alloc ?_ _)); exact BK222.out⟩, ⟨by repeat (first | (with_reducible first | exact HB.out | apply below_alloc | apply pw_below_drewN | apply below_drew1 | refine below_set ?_ GE222.out) | exact HB.out)⟩⟩
                                                                · rw [if_neg c48] at H
                                                                  exact absurd H (by simp)
                                                              · rw [if_neg c47] at H
                                                                exact absurd H (by simp)
                                                            · rw [if_neg c46] at H
                                                              exact absurd H (by simp)
                                                          · rw [if_neg c45] at H
                                                            exact absurd H (by simp)
                                                        · rw [if_neg c44] at H
                                                          exact absurd H (by simp)
                                                      · replace c43 := Bool.eq_false_iff.mpr c43
                                                        subst c43
                                                        have H1 : (if (bt ((rd_T34 (rd_L2 l0 x13_1) x24_3).f1) x9_6) = 61 then (if 0 ≤ x9_6 then (if x9_6 ≤ (wrap64 (x9_6 + 1)) then (if (wrap64 (x9_6 + 1)) ≤ (((rd_T34 (rd_L2 l0 x13_1) x24_3).f1).size : Int) then (if 1 + (((rd_T34 (rd_L2 l0 x13_1) x24_3).f1).extract (x9_6 : Int).toNat ((wrap64 (x9_6 + 1)) : Int).toNat).size ≤ 9223372036854775807 then (if x4_6.size + ((⟨#[92]⟩ : ByteArray) ++ (((rd_T34 (rd_L2 l0 x13_1) x24_3).f1).extract (x9_6 : Int).toNat ((wrap64 (x9_6 + 1)) : Int).toNat)).size ≤ 9223372036854775807 then (spec_WriteDN.l2 kj27 (x4_6 ++ ((⟨#[92]⟩ : ByteArray) ++ (((rd_T34 (rd_L2 l0 x13_1) x24_3).f1).extract (x9_6 : Int).toNat ((wrap64 (x9_6 + 1)) : Int).toNat))) (rd_L2 l0 x13_1) (wrap64 (x9_6 + 1)) l0 (l0.length : Int) x13_1 (rd_L2 l0 x13_1) ((rd_L2 l0 x13_1).length : Int) x24_3 ((rd_T34 (rd_L2 l0 x13_1) x24_3).f0) ((rd_T34 (rd_L2 l0 x13_1) x24_3).f1)) else (none)) else (none)) else (none)) else (none)) else (none)) else (if (bt ((rd_T34 (rd_L2 l0 x13_1) x24_3).f1) x9_6) = 32 then (if x9_6 = 0 then (if 0 ≤ x9_6 then (if x9_6 ≤ (wrap64 (x9_6 + 1)) then (if (wrap64 (x9_6 + 1)) ≤ (((rd_T34 (rd_L2 l0 x13_1) x24_3).f1).size : Int) then (if 1 + (((rd_T34 (rd_L2 l0 x13_1) x24_3).f1).extract (x9_6 : Int).toNat ((wrap64 (x9_6 + 1)) : Int).toNat).size ≤ 9223372036854775807 then (if x4_6.size + ((⟨#[92]⟩ : ByteArray) ++ (((rd_T34 (rd_L2 l0 x13_1) x24_3).f1).extract (x9_6 : Int).toNat ((wrap64 (x9_6 + 1)) : Int).toNat)).size ≤ 9223372036854775807 then (spec_WriteDN.l2 kj27 (x4_6 ++ ((⟨#[92]⟩ : ByteArray) ++ (((rd_T34 (rd_L2 l0 x13_1) x24_3).f1).extract (x9_6 : Int).toNat ((wrap64 (x9_6 + 1)) : Int).toNat))) (rd_L2 l0 x13_1) (wrap64 (x9_6 + 1)) l0 (l0.length : Int) x13_1 (rd_L2 l0 x13_1) ((rd_L2 l0 x13_1).length : Int) x24_3 ((rd_T34 (rd_L2 l0 x13_1) x24_3).f0) ((rd_T34 (rd_L2 l0 x13_1) x24_3).f1)) else (none)) else (none)) else (none)) else (none)) else (none)) else (if x9_6 = (wrap64 ((((rd_T34 (rd_L2 l0 x13_1) x24_3).f1).size : Int) - 1)) then (if 0 ≤ x9_6 then (if x9_6 ≤ (wrap64 (x9_6 + 1)) then (if (wrap64 (x9_6 + 1)) ≤ (((rd_T34 (rd_L2 l0 x13_1) x24_3).f1).size : Int) then (if 1 + (((rd_T34 (rd_L2 l0 x13_1) x24_3).f1).extract (x9_6 : Int).toNat ((wrap64 (x9_6 + 1)) : Int).toNat).size ≤ 9223372036854775807 then (if x4_6.size + ((⟨#[92]⟩ : ByteArray) ++ (((rd_T34 (rd_L2 l0 x13_1) x24_3).f1).extract (x9_6 : Int).toNat ((wrap64 (x9_6 + 1)) : Int).toNat)).size ≤ 9223372036854775807 then (spec_WriteDN.l2 kj27 (x4_6 ++ ((⟨#[92]⟩ : ByteArray) ++ (((rd_T34 (rd_L2 l0 x13_1) x24_3).f1).extract (x9_6 : Int).toNat ((wrap64 (x9_6 + 1)) : Int).toNat))) (rd_L2 l0 x13_1) (wrap64 (x9_6 + 1)) l0 (l0.length : Int) x13_1 (rd_L2 l0 x13_1) ((rd_L2 l0 x13_1).length : Int) x24_3 ((rd_T34 (rd_L2 l0 x13_1) x24_3).f0) ((rd_T34 (rd_L2 l0 x13_1) x24_3).f1)) else (none)) else (none)) else (none)) else (none)) else (none)) else (if (bt ((rd_T34 (rd_L2 l0 x13_1) x24_3).f1) x9_6) = 35 then (if 0 ≤ x9_6 then (if x9_6 ≤ (wrap64 (x9_6 + 1)) then (if (wrap64 (x9_6 + 1)) ≤ (((rd_T34 (rd_L2 l0 x13_1) x24_3).f1).size : Int) then (if x4_6.size + (((rd_T34 (rd_L2 l0 x13_1) x24_3).f1).extract (x9_6 : Int).toNat ((wrap64 (x9_6 + 1)) : Int).toNat).size ≤ 9223372036854775807 then (spec_WriteDN.l2 kj27 (x4_6 ++ (((rd_T34 (rd_L2 l0 x13_1) x24_3).f1).extract (x9_6 : Int).toNat ((wrap64 (x9_6 + 1)) : Int).toNat)) (rd_L2 l0 x13_1) (wrap64 (x9_6 + 1)) l0 (l0.length : Int) x13_1 (rd_L2 l0 x13_1) ((rd_L2 l0 x13_1).length : Int) x24_3 ((rd_T34 (rd_L2 l0 x13_1) x24_3).f0) ((rd_T34 (rd_L2 l0 x13_1) x24_3).f1)) else (none)) else (none)) else (none)) else (none)) else (if 0 ≤ x9_6 then (if x9_6 ≤ (wrap64 (x9_6 + 1)) then (if (wrap64 (x9_6 + 1)) ≤ (((rd_T34 (rd_L2 l0 x13_1) x24_3).f1).size : Int) then (if x4_6.size + (((rd_T34 (rd_L2 l0 x13_1) x24_3).f1).extract (x9_6 : Int).toNat ((wrap64 (x9_6 + 1)) : Int).toNat).size ≤ 9223372036854775807 then (spec_WriteDN.l2 kj27 (x4_6 ++ (((rd_T34 (rd_L2 l0 x13_1) x24_3).f1).extract (x9_6 : Int).toNat ((wrap64 (x9_6 + 1)) : Int).toNat)) (rd_L2 l0 x13_1) (wrap64 (x9_6 + 1)) l0 (l0.length : Int) x13_1 (rd_L2 l0 x13_1) ((rd_L2 l0 x13_1).length : Int) x24_3 ((rd_T34 (rd_L2 l0 x13_1) x24_3).f0) ((rd_T34 (rd_L2 l0 x13_1) x24_3).f1)) else (none)) else (none)) else (none)) else (none))))) else (if (bt ((rd_T34 (rd_L2 l0 x13_1) x24_3).f1) x9_6) = 35 then (if x9_6 = 0 then (if 0 ≤ x9_6 then (if x9_6 ≤ (wrap64 (x9_6 + 1)) then (if (wrap64 (x9_6 + 1)) ≤ (((rd_T34 (rd_L2 l0 x13_1) x24_3).f1).size : Int) then (if 1 + (((rd_T34 (rd_L2 l0 x13_1) x24_3).f1).extract (x9_6 : Int).toNat ((wrap64 (x9_6 + 1)) : Int).toNat).size ≤ 9223372036854775807 then (if x4_6.size + ((⟨#[92]⟩ : ByteArray) ++ (((rd_T34 (rd_L2 l0 x13_1) x24_3).f1).extract (x9_6 : Int).toNat ((wrap64 (x9_6 + 1)) : Int).toNat)).size ≤ 9223372036854775807 then (spec_WriteDN.l2 kj27 (x4_6 ++ ((⟨#[92]⟩ : ByteArray) ++ (((rd_T34 (rd_L2 l0 x13_1) x24_3).f1).extract (x9_6 : Int).toNat ((wrap64 (x9_6 + 1)) : Int).toNat))) (rd_L2 l0 x13_1) (wrap64 (x9_6 + 1)) l0 (l0.length : Int) x13_1 (rd_L2 l0 x13_1) ((rd_L2 l0 x13_1).length : Int) x24_3 ((rd_T34 (rd_L2 l0 x13_1) x24_3).f0) ((rd_T34 (rd_L2 l0 x13_1) x24_3).f1)) else (none)) else (none)) else (none)) else (none)) else (none)) else (if 0 ≤ x9_6 then (if x9_6 ≤ (wrap64 (x9_6 + 1)) then (if (wrap64 (x9_6 + 1)) ≤ (((rd_T34 (rd_L2 l0 x13_1) x24_3).f1).size : Int) then (if x4_6.size + (((rd_T34 (rd_L2 l0 x13_1) x24_3).f1).extract (x9_6 : Int).toNat ((wrap64 (x9_6 + 1)) : Int).toNat).size ≤ 9223372036854775807 then (spec_WriteDN.l2 kj27 (x4_6 ++ (((rd_T34 (rd_L2 l0 x13_1) x24_3).f1).extract (x9_6 : Int).toNat ((wrap64 (x9_6 + 1)) : Int).toNat)) (rd_L2 l0 x13_1) (wrap64 (x9_6 + 1)) l0 (l0.length : Int) x13_1 (rd_L2 l0 x13_1) ((rd_L2 l0 x13_1).length : Int) x24_3 ((rd_T34 (rd_L2 l0 x13_1) x24_3).f0) ((rd_T34 (rd_L2 l0 x13_1) x24_3).f1)) else (none)) else (none)) else (none)) else (none))) else (if 0 ≤ x9_6 then (if x9_6 ≤ (wrap64 (x9_6 + 1)) then (if (wrap64 (x9_6 + 1)) ≤ (((rd_T34 (rd_L2 l0 x13_1) x24_3).f1).size : Int) then (if x4_6.size + (((rd_T34 (rd_L2 l0 x13_1) x24_3).f1).extract (x9_6 : Int).toNat ((wrap64 (x9_6 + 1)) : Int).toNat).size ≤ 9223372036854775807 then (spec_WriteDN.l2 kj27 (x4_6 ++ (((rd_T34 (rd_L2 l0 x13_1) x24_3).f1).extract (x9_6 : Int).toNat ((wrap64 (x9_6 + 1)) : Int).toNat)) (rd_L2 l0 x13_1) (wrap64 (x9_6 + 1)) l0 (l0.length : Int) x13_1 (rd_L2 l0 x13_1) ((rd_L2 l0 x13_1).length : Int) x24_3 ((rd_T34 (rd_L2 l0 x13_1) x24_3).f0) ((rd_T34 (rd_L2 l0 x13_1) x24_3).f1)) else (none)) else (none)) else (none)) else (none))))) = some (r1, r2) := by rw [if_neg (show ¬ (false = true) by decide)] at H; exact H
                                                        clear H
                                                        have H := H1
                                                        clear H1
                                                        by_cases c50 : (bt ((rd_T34 (rd_L2 l0 x13_1) x24_3).f1) x9_6) = 61
                                                        · rw [if_pos c50] at H
                                                          have c50b0 : ((bt ((rd_T34 (rd_L2 l0 x13_1) x24_3).f1) x9_6) == 61) = true := beq_iff_eq.mpr c50
                                                          have c50b1 : ((bt ((rd_T34 (rd_L2 l0 x13_1) x24_3).f1) x9_6) != 61) = false := bne_eq_false_iff_eq.mpr c50
                                                          clear c50
                                                          by_cases c51 : 0 ≤ x9_6
                                                          · rw [if_pos c51] at H
                                                            have c51b0 := eq_true c51
                                                            have c51b1 : decide (0 ≤ x9_6) = true := decide_eq_true c51
                                                            clear c51
                                                            by_cases c52 : x9_6 ≤ (wrap64 (x9_6 + 1))
                                                            · rw [if_pos c52] at H
                                                              have c52b0 := eq_true c52
                                                              have c52b1 : decide (x9_6 ≤ (wrap64 (x9_6 + 1))) = true := decide_eq_true c52
                                                              by_cases c53 : (wrap64 (x9_6 + 1)) ≤ (((rd_T34 (rd_L2 l0 x13_1) x24_3).f1).size : Int)
                                                              · rw [if_pos c53] at H
                                                                have c53b0 := eq_true c53
                                                                have c53b1 : decide ((wrap64 (x9_6 + 1)) ≤ (((rd_T34 (rd_L2 l0 x13_1) x24_3).f1).size : Int)) = true := decide_eq_true c53
                                                                by_cases c54 : 1 + (((rd_T34 (rd_L2 l0 x13_1) x24_3).f1).extract (x9_6 : Int).toNat ((wrap64 (x9_6 + 1)) : Int).toNat).size ≤ 9223372036854775807
                                                                · rw [if_pos c54] at H
                                                                  have c54b0 := eq_true c54
                                                                  have c54b1 : decide (1 + (((rd_T34 (rd_L2 l0 x13_1) x24_3).f1).extract (x9_6 : Int).toNat ((wrap64 (x9_6 + 1)) : Int).toNat).size ≤ 9223372036854775807) = true := decide_eq_true c54
                                                                  try have c54b2 : (9223372036854775807 < 1 + (((rd_T34 (rd_L2 l0 x13_1) x24_3).f1).extract (x9_6 : Int).toNat ((wrap64 (x9_6 + 1)) : Int).toNat).size) = False := eq_false (Nat.not_lt.2 c54)
                                                                  have c54b3 : (9223372036854775807 < 1 + ((wrap64 (x9_6 + 1)).toNat - (x9_6).toNat)) = False := eq_false (by have z0 : 0 ≤ x9_6 := of_eq_true (by assumption); unfold wrap64; omega)
                                                                  by_cases c55 : x4_6.size + ((⟨#[92]⟩ : ByteArray) ++ (((rd_T34 (rd_L2 l0 x13_1) x24_3).f1).extract (x9_6 : Int).toNat ((wrap64 (x9_6 + 1)) : Int).toNat)).size ≤ 9223372036854775807
                                                                  · rw [if_pos c55] at H
                                                                    have c55b0 := eq_true c55
                                                                    have c55b1 : decide (x4_6.size + ((⟨#[92]⟩ : ByteArray) ++ (((rd_T34 (rd_L2 l0 x13_1) x24_3).f1).extract (x9_6 : Int).toNat ((wrap64 (x9_6 + 1)) : Int).toNat)).size ≤ 9223372036854775807) = true := decide_eq_true c55
                                                                    try have c55b2 : (9223372036854775807 < x4_6.size + ((⟨#[92]⟩ : ByteArray) ++ (((rd_T34 (rd_L2 l0 x13_1) x24_3).f1).extract (x9_6 : Int).toNat ((wrap64 (x9_6 + 1)) : Int).toNat)).size) = False := eq_false (Nat.not_lt.2 c55)
                                                                    have H' := Aside0.mk H
                                                                    clear H
                                                                    go_wp2_with (first | (go_at_call 23; (with_reducible refine (spec_dnSpecial.calls (bt ((rd_T34 (rd_L2 l0 x13_1) x24_3).f1) x9_6) false _ A42.out).mono ?_); rintro e w' ⟨rfl, ⟨nd, rfl⟩⟩; (try first | exact ⟨rfl, _, World.drewN_drewN _ _ _⟩ | exact ⟨rfl, _, Eq.trans (World.drewN_drewN _ _ _) (congrArg (World.drewN _) (Nat.add_assoc _ _ _))⟩); have hcz56_0 : wc.cell? ⟨gb222, 0, none⟩ = some (.string ((rd_T34 (rd_L2 l0 x13_1) x24_3).f0)) := (blk_cell BK222.out 0).trans rfl; have hcz56_1 : wc.cell? ⟨gb222, 1, none⟩ = some (.string ((rd_T34 (rd_L2 l0 x13_1) x24_3).f1)) := (blk_cell BK222.out 1).trans rfl; have hfz56_0 := blk_frozen BK222.out 0; have hfz56_1 := blk_frozen BK222.out 1))
                                                                    repeat (go_quiet (first | (go_at_call 23; (with_reducible refine (spec_dnSpecial.calls (bt ((rd_T34 (rd_L2 l0 x13_1) x24_3).f1) x9_6) false _ A42.out).mono ?_); rintro e w' ⟨rfl, ⟨nd, rfl⟩⟩; (try first | exact ⟨rfl, _, World.drewN_drewN _ _ _⟩ | exact ⟨rfl, _, Eq.trans (World.drewN_drewN _ _ _) (congrArg (World.drewN _) (Nat.add_assoc _ _ _))⟩); have hcz56_0 : wc.cell? ⟨gb222, 0, none⟩ = some (.string ((rd_T34 (rd_L2 l0 x13_1) x24_3).f0)) := (blk_cell BK222.out 0).trans rfl; have hcz56_1 : wc.cell? ⟨gb222, 1, none⟩ = some (.string ((rd_T34 (rd_L2 l0 x13_1) x24_3).f1)) := (blk_cell BK222.out 1).trans rfl; have hfz56_0 := blk_frozen BK222.out 0; have hfz56_1 := blk_frozen BK222.out 1)); try go_wp2_with (first | (go_at_call 23; (with_reducible refine (spec_dnSpecial.calls (bt ((rd_T34 (rd_L2 l0 x13_1) x24_3).f1) x9_6) false _ A42.out).mono ?_); rintro e w' ⟨rfl, ⟨nd, rfl⟩⟩; (try first | exact ⟨rfl, _, World.drewN_drewN _ _ _⟩ | exact ⟨rfl, _, Eq.trans (World.drewN_drewN _ _ _) (congrArg (World.drewN _) (Nat.add_assoc _ _ _))⟩); have hcz56_0 : wc.cell? ⟨gb222, 0, none⟩ = some (.string ((rd_T34 (rd_L2 l0 x13_1) x24_3).f0)) := (blk_cell BK222.out 0).trans rfl; have hcz56_1 : wc.cell? ⟨gb222, 1, none⟩ = some (.string ((rd_T34 (rd_L2 l0 x13_1) x24_3).f1)) := (blk_cell BK222.out 1).trans rfl; have hfz56_0 := blk_frozen BK222.out 0; have hfz56_1 := blk_frozen BK222.out 1)))
                                                                    go_roundg kj27
                                                                    case measure => have := HK1.out; have := HJ4.out; have := HK3.out; have := HJ10.out; have := HJ15.out; have := HK6.out; have := HJ27.out; omega
                                                                    case rel => exact ⟨(x4_6 ++ ((⟨#[92]⟩ : ByteArray) ++ (((rd_T34 (rd_L2 l0 x13_1) x24_3).f1).extract (x9_6 : Int).toNat ((wrap64 (x9_6 + 1)) : Int).toNat))), (wrap64 (x9_6 + 1)), (by first | rfl | (simp; done) | (simp [*]; done)), (by first | rfl | (simp; done) | (simp [*]; done)), H', ⟨by have := HK1.out; have := HJ4.out; have := HK3.out; have := HJ10.out; have := HJ15.out; have := HK6.out; have := HJ27.out; omega⟩, ⟨by (with_reducible repeat (first | refine blk_drewN ?_ _ | refine blk_drew ?_ | refine blk_alloc ?_ _)); exact BK222.out⟩, ⟨by repeat (first | (with_reducible first | exact HB.out | apply below_alloc | apply pw_below_drewN | apply below_drew1 | refine below_set ?_ GE222.out) | exact HB.out)⟩⟩
                                                                  · rw [if_neg c55] at H
                                                                    exact absurd H (by simp)
                                                                · rw [if_neg c54] at H
                                                                  exact absurd H (by simp)
                                                              · rw [if_neg c53] at H
                                                                exact absurd H (by simp)
                                                            · rw [if_neg c52] at H
                                                              exact absurd H (by simp)
                                                          · rw [if_neg c51] at H
                                                            exact absurd H (by simp)
                                                        · rw [if_neg c50] at H
                                                          have c50b0 : ((bt ((rd_T34 (rd_L2 l0 x13_1) x24_3).f1) x9_6) == 61) = false := beq_eq_false_iff_ne.mpr c50
                                                          have c50b1 : ((bt ((rd_T34 (rd_L2 l0 x13_1) x24_3).f1) x9_6) != 61) = true := bne_iff_ne.mpr c50
                                                          by_cases c57 : (bt ((rd_T34 (rd_L2 l0 x13_1) x24_3).f1) x9_6) = 32
                                                          · rw [if_pos c57] at H
                                                            have c57b0 : ((bt ((rd_T34 (rd_L2 l0 x13_1) x24_3).f1) x9_6) == 32) = true := beq_iff_eq.mpr c57
                                                            have c57b1 : ((bt ((rd_T34 (rd_L2 l0 x13_1) x24_3).f1) x9_6) != 32) = false := bne_eq_false_iff_eq.mpr c57
                                                            clear c57
                                                            by_cases c58 : x9_6 = 0
                                                            · rw [if_pos c58] at H
                                                              have c58b0 : (x9_6 == 0) = true := beq_iff_eq.mpr c58
                                                              have c58b1 : (x9_6 != 0) = false := bne_eq_false_iff_eq.mpr c58
                                                              clear c58
                                                              by_cases c59 : 0 ≤ x9_6
                                                              · rw [if_pos c59] at H
                                                                have c59b0 := eq_true c59
                                                                have c59b1 : decide (0 ≤ x9_6) = true := decide_eq_true c59
                                                                clear c59
                                                                by_cases c60 : x9_6 ≤ (wrap64 (x9_6 + 1))
                                                                · rw [if_pos c60] at H
                                                                  have c60b0 := eq_true c60
                                                                  have c60b1 : decide (x9_6 ≤ (wrap64 (x9_6 + 1))) = true := decide_eq_true c60
                                                                  by_cases c61 : (wrap64 (x9_6 + 1)) ≤ (((rd_T34 (rd_L2 l0 x13_1) x24_3).f1).size : Int)
                                                                  · rw [if_pos c61] at H
                                                                    have c61b0 := eq_true c61
                                                                    have c61b1 : decide ((wrap64 (x9_6 + 1)) ≤ (((rd_T34 (rd_L2 l0 x13_1) x24_3).f1).size : Int)) = true := decide_eq_true c61
                                                                    by_cases c62 : 1 + (((rd_T34 (rd_L2 l0 x13_1) x24_3).f1).extract (x9_6 : Int).toNat ((wrap64 (x9_6 + 1)) : Int).toNat).size ≤ 9223372036854775807
                                                                    · rw [if_pos c62] at H
                                                                      have c62b0 := eq_true c62
                                                                      have c62b1 : decide (1 + (((rd_T34 (rd_L2 l0 x13_1) x24_3).f1).extract (x9_6 : Int).toNat ((wrap64 (x9_6 + 1)) : Int).toNat).size ≤ 9223372036854775807) = true := decide_eq_true c62
                                                                      try have c62b2 : (9223372036854775807 < 1 + (((rd_T34 (rd_L2 l0 x13_1) x24_3).f1).extract (x9_6 : Int).toNat ((wrap64 (x9_6 + 1)) : Int).toNat).size) = False := eq_false (Nat.not_lt.2 c62)
                                                                      have c62b3 : (9223372036854775807 < 1 + ((wrap64 (x9_6 + 1)).toNat - (x9_6).toNat)) = False := eq_false (by have z0 : 0 ≤ x9_6 := of_eq_true (by assumption); unfold wrap64; omega)
                                                                      by_cases c63 : x4_6.size + ((⟨#[92]⟩ : ByteArray) ++ (((rd_T34 (rd_L2 l0 x13_1) x24_3).f1).extract (x9_6 : Int).toNat ((wrap64 (x9_6 + 1)) : Int).toNat)).size ≤ 9223372036854775807
                                                                      · rw [if_pos c63] at H
                                                                        have c63b0 := eq_true c63
                                                                        have c63b1 : decide (x4_6.size + ((⟨#[92]⟩ : ByteArray) ++ (((rd_T34 (rd_L2 l0 x13_1) x24_3).f1).extract (x9_6 : Int).toNat ((wrap64 (x9_6 + 1)) : Int).toNat)).size ≤ 9223372036854775807) = true := decide_eq_true c63
                                                                        try have c63b2 : (9223372036854775807 < x4_6.size + ((⟨#[92]⟩ : ByteArray) ++ (((rd_T34 (rd_L2 l0 x13_1) x24_3).f1).extract (x9_6 : Int).toNat ((wrap64 (x9_6 + 1)) : Int).toNat)).size) = False := eq_false (Nat.not_lt.2 c63)
                                                                        have H' := Aside0.mk H
                                                                        clear H
                                                                        go_wp2_with (first | (go_at_call 23; (with_reducible refine (spec_dnSpecial.calls (bt ((rd_T34 (rd_L2 l0 x13_1) x24_3).f1) x9_6) false _ A42.out).mono ?_); rintro e w' ⟨rfl, ⟨nd, rfl⟩⟩; (try first | exact ⟨rfl, _, World.drewN_drewN _ _ _⟩ | exact ⟨rfl, _, Eq.trans (World.drewN_drewN _ _ _) (congrArg (World.drewN _) (Nat.add_assoc _ _ _))⟩); have hcz64_0 : wc.cell? ⟨gb222, 0, none⟩ = some (.string ((rd_T34 (rd_L2 l0 x13_1) x24_3).f0)) := (blk_cell BK222.out 0).trans rfl; have hcz64_1 : wc.cell? ⟨gb222, 1, none⟩ = some (.string ((rd_T34 (rd_L2 l0 x13_1) x24_3).f1)) := (blk_cell BK222.out 1).trans rfl; have hfz64_0 := blk_frozen BK222.out 0; have hfz64_1 := blk_frozen BK222.out 1))
                                                                        repeat (go_quiet (first | (go_at_call 23; (with_reducible refine (spec_dnSpecial.calls (bt ((rd_T34 (rd_L2 l0 x13_1) x24_3).f1) x9_6) false _ A42.out).mono ?_); rintro e w' ⟨rfl, ⟨nd, rfl⟩⟩; (try first | exact ⟨rfl, _, World.drewN_drewN _ _ _⟩ | exact ⟨rfl, _, Eq.trans (World.drewN_drewN _ _ _) (congrArg (World.drewN _) (Nat.add_assoc _ _ _))⟩); have hcz64_0 : wc.cell? ⟨gb222, 0, none⟩ = some (.string ((rd_T34 (rd_L2 l0 x13_1) x24_3).f0)) := (blk_cell BK222.out 0).trans rfl; have hcz64_1 : wc.cell? ⟨gb222, 1, none⟩ = some (.string ((rd_T34 (rd_L2 l0 x13_1) x24_3).f1)) := (blk_cell BK222.out 1).trans rfl; have hfz64_0 := blk_frozen BK222.out 0; have hfz64_1 := blk_frozen BK222.out 1)); try go_wp2_with (first | (go_at_call 23; (with_reducible refine (spec_dnSpecial.calls (bt ((rd_T34 (rd_L2 l0 x13_1) x24_3).f1) x9_6) false _ A42.out).mono ?_); rintro e w' ⟨rfl, ⟨nd, rfl⟩⟩; (try first | exact ⟨rfl, _, World.drewN_drewN _ _ _⟩ | exact ⟨rfl, _, Eq.trans (World.drewN_drewN _ _ _) (congrArg (World.drewN _) (Nat.add_assoc _ _ _))⟩); have hcz64_0 : wc.cell? ⟨gb222, 0, none⟩ = some (.string ((rd_T34 (rd_L2 l0 x13_1) x24_3).f0)) := (blk_cell BK222.out 0).trans rfl; have hcz64_1 : wc.cell? ⟨gb222, 1, none⟩ = some (.string ((rd_T34 (rd_L2 l0 x13_1) x24_3).f1)) := (blk_cell BK222.out 1).trans rfl; have hfz64_0 := blk_frozen BK222.out 0; have hfz64_1 := blk_frozen BK222.out 1)))
                                                                        go_roundg kj27
                                                                        case measure => have := HK1.out; have := HJ4.out; have := HK3.out; have := HJ10.out; have := HJ15.out; have := HK6.out; have := HJ27.out; omega
                                                                        case rel => exact ⟨(x4_6 ++ ((⟨#[92]⟩ : ByteArray) ++ (((rd_T34 (rd_L2 l0 x13_1) x24_3).f1).extract (x9_6 : Int).toNat ((wrap64 (x9_6 + 1)) : Int).toNat))), (wrap64 (x9_6 + 1)), (by first | rfl | (simp; done) | (simp [*]; done)), (by first | rfl | (simp; done) | (simp [*]; done)), H', ⟨by have := HK1.out; have := HJ4.out; have := HK3.out; have := HJ10.out; have := HJ15.out; have := HK6.out; have := HJ27.out; omega⟩, ⟨by (with_reducible repeat (first | refine blk_drewN ?_ _ | refine blk_drew ?_ | refine blk_alloc ?_ _)); exact BK222.out⟩, ⟨by repeat (first | (with_reducible first | exact HB.out | apply below_alloc | apply pw_below_drewN | apply below_drew1 | refine below_set ?_ GE222.out) | exact HB.out)⟩⟩
                                                                      · rw [if_neg c63] at H
                                                                        exact absurd H (by simp)
                                                                    · rw [if_neg c62] at H
                                                                      exact absurd H (by simp)
                                                                  · rw [if_neg c61] at H
                                                                    exact absurd H (by simp)
                                                                · rw [if_neg c60] at H
                                                                  exact absurd H (by simp)
                                                              · rw [if_neg c59] at H
                                                                exact absurd H (by simp)
                                                            · rw [if_neg c58] at H
                                                              have c58b0 : (x9_6 == 0) = false := beq_eq_false_iff_ne.mpr c58
                                                              have c58b1 : (x9_6 != 0) = true := bne_iff_ne.mpr c58
                                                              by_cases c65 : x9_6 = (wrap64 ((((rd_T34 (rd_L2 l0 x13_1) x24_3).f1).size : Int) - 1))
                                                              · rw [if_pos c65] at H
                                                                have c65b0 : (x9_6 == (wrap64 ((((rd_T34 (rd_L2 l0 x13_1) x24_3).f1).size : Int) - 1))) = true := beq_iff_eq.mpr c65
                                                                have c65b1 : (x9_6 != (wrap64 ((((rd_T34 (rd_L2 l0 x13_1) x24_3).f1).size : Int) - 1))) = false := bne_eq_false_iff_eq.mpr c65
                                                                clear c65
                                                                by_cases c66 : 0 ≤ x9_6
                                                                · rw [if_pos c66] at H
                                                                  have c66b0 := eq_true c66
                                                                  have c66b1 : decide (0 ≤ x9_6) = true := decide_eq_true c66
                                                                  clear c66
                                                                  by_cases c67 : x9_6 ≤ (wrap64 (x9_6 + 1))
                                                                  · rw [if_pos c67] at H
                                                                    have c67b0 := eq_true c67
                                                                    have c67b1 : decide (x9_6 ≤ (wrap64 (x9_6 + 1))) = true := decide_eq_true c67
                                                                    by_cases c68 : (wrap64 (x9_6 + 1)) ≤ (((rd_T34 (rd_L2 l0 x13_1) x24_3).f1).size : Int)
                                                                    · rw [if_pos c68] at H
                                                                      have c68b0 := eq_true c68
                                                                      have c68b1 : decide ((wrap64 (x9_6 + 1)) ≤ (((rd_T34 (rd_L2 l0 x13_1) x24_3).f1).size : Int)) = true := decide_eq_true c68
                                                                      by_cases c69 : 1 + (((rd_T34 (rd_L2 l0 x13_1) x24_3).f1).extract (x9_6 : Int).toNat ((wrap64 (x9_6 + 1)) : Int).toNat).size ≤ 9223372036854775807
                                                                      · rw [if_pos c69] at H
                                                                        have c69b0 := eq_true c69
                                                                        have c69b1 : decide (1 + (((rd_T34 (rd_L2 l0 x13_1) x24_3).f1).extract (x9_6 : Int).toNat ((wrap64 (x9_6 + 1)) : Int).toNat).size ≤ 9223372036854775807) = true := decide_eq_true c69
                                                                        try have c69b2 : (9223372036854775807 < 1 + (((rd_T34 (rd_L2 l0 x13_1) x24_3).f1).extract (x9_6 : Int).toNat ((wrap64 (x9_6 + 1)) : Int).toNat).size) = False := eq_false (Nat.not_lt.2 c69)
                                                                        have c69b3 : (9223372036854775807 < 1 + ((wrap64 (x9_6 + 1)).toNat - (x9_6).toNat)) = False := eq_false (by have z0 : 0 ≤ x9_6 := of_eq_true (by assumption); unfold wrap64; omega)
                                                                        by_cases c70 : x4_6.size + ((⟨#[92]⟩ : ByteArray) ++ (((rd_T34 (rd_L2 l0 x13_1) x24_3).f1).extract (x9_6 : Int).toNat ((wrap64 (x9_6 + 1)) : Int).toNat)).size ≤ 9223372036854775807
                                                                        · rw [if_pos c70] at H
                                                                          have c70b0 := eq_true c70
                                                                          have c70b1 : decide (x4_6.size + ((⟨#[92]⟩ : ByteArray) ++ (((rd_T34 (rd_L2 l0 x13_1) x24_3).f1).extract (x9_6 : Int).toNat ((wrap64 (x9_6 + 1)) : Int).toNat)).size ≤ 9223372036854775807) = true := decide_eq_true c70
                                                                          try have c70b2 : (9223372036854775807 < x4_6.size + ((⟨#[92]⟩ : ByteArray) ++ (((rd_T34 (rd_L2 l0 x13_1) x24_3).f1).extract (x9_6 : Int).toNat ((wrap64 (x9_6 + 1)) : Int).toNat)).size) = False := eq_false (Nat.not_lt.2 c70)
                                                                          have H' := Aside0.mk H
                                                                          clear H
                                                                          go_wp2_with (first | (go_at_call 23; (with_reducible refine (spec_dnSpecial.calls (bt ((rd_T34 (rd_L2 l0 x13_1) x24_3).f1) x9_6) false _ A42.out).mono ?_); rintro e w' ⟨rfl, ⟨nd, rfl⟩⟩; (try first | exact ⟨rfl, _, World.drewN_drewN _ _ _⟩ | exact ⟨rfl, _, Eq.trans (World.drewN_drewN _ _ _) (congrArg (World.drewN _) (Nat.add_assoc _ _ _))⟩); have hcz71_0 : wc.cell? ⟨gb222, 0, none⟩ = some (.string ((rd_T34 (rd_L2 l0 x13_1) x24_3).f0)) := (blk_cell BK222.out 0).trans rfl; have hcz71_1 : wc.cell? ⟨gb222, 1, none⟩ = some (.string ((rd_T34 (rd_L2 l0 x13_1) x24_3).f1)) := (blk_cell BK222.out 1).trans rfl; have hfz71_0 := blk_frozen BK222.out 0; have hfz71_1 := blk_frozen BK222.out 1))
                                                                          repeat (go_quiet (first | (go_at_call 23; (with_reducible refine (spec_dnSpecial.calls (bt ((rd_T34 (rd_L2 l0 x13_1) x24_3).f1) x9_6) false _ A42.out).mono ?_); rintro e w' ⟨rfl, ⟨nd, rfl⟩⟩; (try first | exact ⟨rfl, _, World.drewN_drewN _ _ _⟩ | exact ⟨rfl, _, Eq.trans (World.drewN_drewN _ _ _) (congrArg (World.drewN _) (Nat.add_assoc _ _ _))⟩); have hcz71_0 : wc.cell? ⟨gb222, 0, none⟩ = some (.string ((rd_T34 (rd_L2 l0 x13_1) x24_3).f0)) := (blk_cell BK222.out 0).trans rfl; have hcz71_1 : wc.cell? ⟨gb222, 1, none⟩ = some (.string ((rd_T34 (rd_L2 l0 x13_1) x24_3).f1)) := (blk_cell BK222.out 1).trans rfl; have hfz71_0 := blk_frozen BK222.out 0; have hfz71_1 := blk_frozen BK222.out 1)); try go_wp2_with (first | (go_at_call 23; (with_reducible refine (spec_dnSpecial.calls (bt ((rd_T34 (rd_L2 l0 x13_1) x24_3).f1) x9_6) false _ A42.out).mono ?_); rintro e w' ⟨rfl, ⟨nd, rfl⟩⟩; (try first | exact ⟨rfl, _, World.drewN_drewN _ _ _⟩ | exact ⟨rfl, _, Eq.trans (World.drewN_drewN _ _ _) (congrArg (World.drewN _) (Nat.add_assoc _ _ _))⟩); have hcz71_0 : wc.cell? ⟨gb222, 0, none⟩ = some (.string ((rd_T34 (rd_L2 l0 x13_1) x24_3).f0)) := (blk_cell BK222.out 0).trans rfl; have hcz71_1 : wc.cell? ⟨gb222, 1, none⟩ = some (.string ((rd_T34 (rd_L2 l0 x13_1) x24_3).f1)) := (blk_cell BK222.out 1).trans rfl; have hfz71_0 := blk_frozen BK222.out 0; have hfz71_1 := blk_frozen BK222.out 1)))
                                                                          go_roundg kj27
                                                                          case measure => have := HK1.out; have := HJ4.out; have := HK3.out; have := HJ10.out; have := HJ15.out; have := HK6.out; have := HJ27.out; omega
                                                                          case rel => exact ⟨(x4_6 ++ ((⟨#[92]⟩ : ByteArray) ++ (((rd_T34 (rd_L2 l0 x13_1) x24_3).f1).extract (x9_6 : Int).toNat ((wrap64 (x9_6 + 1)) : Int).toNat))), (wrap64 (x9_6 + 1)), (by first | rfl | (simp; done) | (simp [*]; done)), (by first | rfl | (simp; done) | (simp [*]; done)), H', ⟨by have := HK1.out; have := HJ4.out; have := HK3.out; have := HJ10.out; have := HJ15.out; have := HK6.out; have := HJ27.out; omega⟩, ⟨by (with_reducible repeat (first | refine blk_drewN ?_ _ | refine blk_drew ?_ | refine blk_alloc ?_ _)); exact BK222.out⟩, ⟨by repeat (first | (with_reducible first | exact HB.out | apply below_alloc | apply pw_below_drewN | apply below_drew1 | refine below_set ?_ GE222.out) | exact HB.out)⟩⟩
                                                                        · rw [if_neg c70] at H
                                                                          exact absurd H (by simp)
                                                                      · rw [if_neg c69] at H
                                                                        exact absurd H (by simp)
                                                                    · rw [if_neg c68] at H
                                                                      exact absurd H (by simp)
                                                                  · rw [if_neg c67] at H
                                                                    exact absurd H (by simp)
                                                                · rw [if_neg c66] at H
                                                                  exact absurd H (by simp)
                                                              · rw [if_neg c65] at H
                                                                have c65b0 : (x9_6 == (wrap64 ((((rd_T34 (rd_L2 l0 x13_1) x24_3).f1).size : Int) - 1))) = false := beq_eq_false_iff_ne.mpr c65
                                                                have c65b1 : (x9_6 != (wrap64 ((((rd_T34 (rd_L2 l0 x13_1) x24_3).f1).size : Int) - 1))) = true := bne_iff_ne.mpr c65
                                                                by_cases c72 : (bt ((rd_T34 (rd_L2 l0 x13_1) x24_3).f1) x9_6) = 35
                                                                · rw [if_pos c72] at H
                                                                  have c72b0 : ((bt ((rd_T34 (rd_L2 l0 x13_1) x24_3).f1) x9_6) == 35) = true := beq_iff_eq.mpr c72
                                                                  have c72b1 : ((bt ((rd_T34 (rd_L2 l0 x13_1) x24_3).f1) x9_6) != 35) = false := bne_eq_false_iff_eq.mpr c72
                                                                  clear c72
                                                                  by_cases c73 : 0 ≤ x9_6
                                                                  · rw [if_pos c73] at H
                                                                    have c73b0 := eq_true c73
                                                                    have c73b1 : decide (0 ≤ x9_6) = true := decide_eq_true c73
                                                                    clear c73
                                                                    by_cases c74 : x9_6 ≤ (wrap64 (x9_6 + 1))
                                                                    · rw [if_pos c74] at H
                                                                      have c74b0 := eq_true c74
                                                                      have c74b1 : decide (x9_6 ≤ (wrap64 (x9_6 + 1))) = true := decide_eq_true c74
                                                                      by_cases c75 : (wrap64 (x9_6 + 1)) ≤ (((rd_T34 (rd_L2 l0 x13_1) x24_3).f1).size : Int)
                                                                      · rw [if_pos c75] at H
                                                                        have c75b0 := eq_true c75
                                                                        have c75b1 : decide ((wrap64 (x9_6 + 1)) ≤ (((rd_T34 (rd_L2 l0 x13_1) x24_3).f1).size : Int)) = true := decide_eq_true c75
                                                                        by_cases c76 : x4_6.size + (((rd_T34 (rd_L2 l0 x13_1) x24_3).f1).extract (x9_6 : Int).toNat ((wrap64 (x9_6 + 1)) : Int).toNat).size ≤ 9223372036854775807
                                                                        · rw [if_pos c76] at H
                                                                          have c76b0 := eq_true c76
                                                                          have c76b1 : decide (x4_6.size + (((rd_T34 (rd_L2 l0 x13_1) x24_3).f1).extract (x9_6 : Int).toNat ((wrap64 (x9_6 + 1)) : Int).toNat).size ≤ 9223372036854775807) = true := decide_eq_true c76
                                                                          try have c76b2 : (9223372036854775807 < x4_6.size + (((rd_T34 (rd_L2 l0 x13_1) x24_3).f1).extract (x9_6 : Int).toNat ((wrap64 (x9_6 + 1)) : Int).toNat).size) = False := eq_false (Nat.not_lt.2 c76)
                                                                          have H' := Aside0.mk H
                                                                          clear H
                                                                          go_wp2_with (first | (go_at_call 23; (with_reducible refine (spec_dnSpecial.calls (bt ((rd_T34 (rd_L2 l0 x13_1) x24_3).f1) x9_6) false _ A42.out).mono ?_); rintro e w' ⟨rfl, ⟨nd, rfl⟩⟩; (try first | exact ⟨rfl, _, World.drewN_drewN _ _ _⟩ | exact ⟨rfl, _, Eq.trans (World.drewN_drewN _ _ _) (congrArg (World.drewN _) (Nat.add_assoc _ _ _))⟩); have hcz77_0 : wc.cell? ⟨gb222, 0, none⟩ = some (.string ((rd_T34 (rd_L2 l0 x13_1) x24_3).f0)) := (blk_cell BK222.out 0).trans rfl; have hcz77_1 : wc.cell? ⟨gb222, 1, none⟩ = some (.string ((rd_T34 (rd_L2 l0 x13_1) x24_3).f1)) := (blk_cell BK222.out 1).trans rfl; have hfz77_0 := blk_frozen BK222.out 0; have hfz77_1 := blk_frozen BK222.out 1))
                                                                          repeat (go_quiet (first | (go_at_call 23; (with_reducible refine (spec_dnSpecial.calls (bt ((rd_T34 (rd_L2 l0 x13_1) x24_3).f1) x9_6) false _ A42.out).mono ?_); rintro e w' ⟨rfl, ⟨nd, rfl⟩⟩; (try first | exact ⟨rfl, _, World.drewN_drewN _ _ _⟩ | exact ⟨rfl, _, Eq.trans (World.drewN_drewN _ _ _) (congrArg (World.drewN _) (Nat.add_assoc _ _ _))⟩); have hcz77_0 : wc.cell? ⟨gb222, 0, none⟩ = some (.string ((rd_T34 (rd_L2 l0 x13_1) x24_3).f0)) := (blk_cell BK222.out 0).trans rfl; have hcz77_1 : wc.cell? ⟨gb222, 1, none⟩ = some (.string ((rd_T34 (rd_L2 l0 x13_1) x24_3).f1)) := (blk_cell BK222.out 1).trans rfl; have hfz77_0 := blk_frozen BK222.out 0; have hfz77_1 := blk_frozen BK222.out 1)); try go_wp2_with (first | (go_at_call 23; (with_reducible refine (spec_dnSpecial.calls (bt ((rd_T34 (rd_L2 l0 x13_1) x24_3).f1) x9_6) false _ A42.out).mono ?_); rintro e w' ⟨rfl, ⟨nd, rfl⟩⟩; (try first | exact ⟨rfl, _, World.drewN_drewN _ _ _⟩ | exact ⟨rfl, _, Eq.trans (World.drewN_drewN _ _ _) (congrArg (World.drewN _) (Nat.add_assoc _ _ _))⟩); have hcz77_0 : wc.cell? ⟨gb222, 0, none⟩ = some (.string ((rd_T34 (rd_L2 l0 x13_1) x24_3).f0)) := (blk_cell BK222.out 0).trans rfl; have hcz77_1 : wc.cell? ⟨gb222, 1, none⟩ = some (.string ((rd_T34 (rd_L2 l0 x13_1) x24_3).f1)) := (blk_cell BK222.out 1).trans rfl; have hfz77_0 := blk_frozen BK222.out 0; have hfz77_1 := blk_frozen BK222.out 1)))
                                                                          go_roundg kj27
                                                                          case measure => have := HK1.out; have := HJ4.out; have := HK3.out; have := HJ10.out; have := HJ15.out; have := HK6.out; have := HJ27.out; omega
                                                                          case rel => exact ⟨(x4_6 ++ (((rd_T34 (rd_L2 l0 x13_1) x24_3).f1).extract (x9_6 : Int).toNat ((wrap64 (x9_6 + 1)) : Int).toNat)), (wrap64 (x9_6 + 1)), (by first | rfl | (simp; done) | (simp [*]; done)), (by first | rfl | (simp; done) | (simp [*]; done)), H', ⟨by have := HK1.out; have := HJ4.out; have := HK3.out; have := HJ10.out; have := HJ15.out; have := HK6.out; have := HJ27.out; omega⟩, ⟨by (with_reducible repeat (first | refine blk_drewN ?_ _ | refine blk_drew ?_ | refine blk_alloc ?_ _)); exact BK222.out⟩, ⟨by repeat (first | (with_reducible first | exact HB.out | apply below_alloc | apply pw_below_drewN | apply below_drew1 | refine below_set ?_ GE222.out) | exact HB.out)⟩⟩
                                                                        · rw [if_neg c76] at H
                                                                          exact absurd H (by simp)
                                                                      · rw [if_neg c75] at H
                                                                        exact absurd H (by simp)
                                                                    · rw [if_neg c74] at H
                                                                      exact absurd H (by simp)
                                                                  · rw [if_neg c73] at H
                                                                    exact absurd H (by simp)
                                                                · rw [if_neg c72] at H
                                                                  have c72b0 : ((bt ((rd_T34 (rd_L2 l0 x13_1) x24_3).f1) x9_6) == 35) = false := beq_eq_false_iff_ne.mpr c72
                                                                  have c72b1 : ((bt ((rd_T34 (rd_L2 l0 x13_1) x24_3).f1) x9_6) != 35) = true := bne_iff_ne.mpr c72
                                                                  by_cases c78 : 0 ≤ x9_6
                                                                  · rw [if_pos c78] at H
                                                                    have c78b0 := eq_true c78
                                                                    have c78b1 : decide (0 ≤ x9_6) = true := decide_eq_true c78
                                                                    clear c78
                                                                    by_cases c79 : x9_6 ≤ (wrap64 (x9_6 + 1))
                                                                    · rw [if_pos c79] at H
                                                                      have c79b0 := eq_true c79
                                                                      have c79b1 : decide (x9_6 ≤ (wrap64 (x9_6 + 1))) = true := decide_eq_true c79
                                                                      by_cases c80 : (wrap64 (x9_6 + 1)) ≤ (((rd_T34 (rd_L2 l0 x13_1) x24_3).f1).size : Int)
                                                                      · rw [if_pos c80] at H
                                                                        have c80b0 := eq_true c80
                                                                        have c80b1 : decide ((wrap64 (x9_6 + 1)) ≤ (((rd_T34 (rd_L2 l0 x13_1) x24_3).f1).size : Int)) = true := decide_eq_true c80
                                                                        by_cases c81 : x4_6.size + (((rd_T34 (rd_L2 l0 x13_1) x24_3).f1).extract (x9_6 : Int).toNat ((wrap64 (x9_6 + 1)) : Int).toNat).size ≤ 9223372036854775807
                                                                        · rw [if_pos c81] at H
                                                                          have c81b0 := eq_true c81
                                                                          have c81b1 : decide (x4_6.size + (((rd_T34 (rd_L2 l0 x13_1) x24_3).f1).extract (x9_6 : Int).toNat ((wrap64 (x9_6 + 1)) : Int).toNat).size ≤ 9223372036854775807) = true := decide_eq_true c81
                                                                          try have c81b2 : (9223372036854775807 < x4_6.size + (((rd_T34 (rd_L2 l0 x13_1) x24_3).f1).extract (x9_6 : Int).toNat ((wrap64 (x9_6 + 1)) : Int).toNat).size) = False := eq_false (Nat.not_lt.2 c81)
                                                                          have H' := Aside0.mk H
                                                                          clear H
                                                                          go_wp2_with (first | (go_at_call 23; (with_reducible refine (spec_dnSpecial.calls (bt ((rd_T34 (rd_L2 l0 x13_1) x24_3).f1) x9_6) false _ A42.out).mono ?_); rintro e w' ⟨rfl, ⟨nd, rfl⟩⟩; (try first | exact ⟨rfl, _, World.drewN_drewN _ _ _⟩ | exact ⟨rfl, _, Eq.trans (World.drewN_drewN _ _ _) (congrArg (World.drewN _) (Nat.add_assoc _ _ _))⟩); have hcz82_0 : wc.cell? ⟨gb222, 0, none⟩ = some (.string ((rd_T34 (rd_L2 l0 x13_1) x24_3).f0)) := (blk_cell BK222.out 0).trans rfl; have hcz82_1 : wc.cell? ⟨gb222, 1, none⟩ = some (.string ((rd_T34 (rd_L2 l0 x13_1) x24_3).f1)) := (blk_cell BK222.out 1).trans rfl; have hfz82_0 := blk_frozen BK222.out 0; have hfz82_1 := blk_frozen BK222.out 1))
                                                                          repeat (go_quiet (first | (go_at_call 23; (with_reducible refine (spec_dnSpecial.calls (bt ((rd_T34 (rd_L2 l0 x13_1) x24_3).f1) x9_6) false _ A42.out).mono ?_); rintro e w' ⟨rfl, ⟨nd, rfl⟩⟩; (try first | exact ⟨rfl, _, World.drewN_drewN _ _ _⟩ | exact ⟨rfl, _, Eq.trans (World.drewN_drewN _ _ _) (congrArg (World.drewN _) (Nat.add_assoc _ _ _))⟩); have hcz82_0 : wc.cell? ⟨gb222, 0, none⟩ = some (.string ((rd_T34 (rd_L2 l0 x13_1) x24_3).f0)) := (blk_cell BK222.out 0).trans rfl; have hcz82_1 : wc.cell? ⟨gb222, 1, none⟩ = some (.string ((rd_T34 (rd_L2 l0 x13_1) x24_3).f1)) := (blk_cell BK222.out 1).trans rfl; have hfz82_0 := blk_frozen BK222.out 0; have hfz82_1 := blk_frozen BK222.out 1)); try go_wp2_with (first | (go_at_call 23; (with_reducible refine (spec_dnSpecial.calls (bt ((rd_T34 (rd_L2 l0 x13_1) x24_3).f1) x9_6) false _ A42.out).mono ?_); rintro e w' ⟨rfl, ⟨nd, rfl⟩⟩; (try first | exact ⟨rfl, _, World.drewN_drewN _ _ _⟩ | exact ⟨rfl, _, Eq.trans (World.drewN_drewN _ _ _) (congrArg (World.drewN _) (Nat.add_assoc _ _ _))⟩); have hcz82_0 : wc.cell? ⟨gb222, 0, none⟩ = some (.string ((rd_T34 (rd_L2 l0 x13_1) x24_3).f0)) := (blk_cell BK222.out 0).trans rfl; have hcz82_1 : wc.cell? ⟨gb222, 1, none⟩ = some (.string ((rd_T34 (rd_L2 l0 x13_1) x24_3).f1)) := (blk_cell BK222.out 1).trans rfl; have hfz82_0 := blk_frozen BK222.out 0; have hfz82_1 := blk_frozen BK222.out 1)))
                                                                          go_roundg kj27
                                                                          case measure => have := HK1.out; have := HJ4.out; have := HK3.out; have := HJ10.out; have := HJ15.out; have := HK6.out; have := HJ27.out; omega
                                                                          case rel => exact ⟨(x4_6 ++ (((rd_T34 (rd_L2 l0 x13_1) x24_3).f1).extract (x9_6 : Int).toNat ((wrap64 (x9_6 + 1)) : Int).toNat)), (wrap64 (x9_6 + 1)), (by first | rfl | (simp; done) | (simp [*]; done)), (by first | rfl | (simp; done) | (simp [*]; done)), H', ⟨by have := HK1.out; have := HJ4.out; have := HK3.out; have := HJ10.out; have := HJ15.out; have := HK6.out; have := HJ27.out; omega⟩, ⟨by (with_reducible repeat (first | refine blk_drewN ?_ _ | refine blk_drew ?_ | refine blk_alloc ?_ _)); exact BK222.out⟩, ⟨by repeat (first | (with_reducible first | exact HB.out | apply below_alloc | apply pw_below_drewN | apply below_drew1 | refine below_set ?_ GE222.out) | exact HB.out)⟩⟩
                                                                        · rw [if_neg c81] at H
                                                                          exact absurd H (by simp)
                                                                      · rw [if_neg c80] at H
                                                                        exact absurd H (by simp)
                                                                    · rw [if_neg c79] at H
                                                                      exact absurd H (by simp)
                                                                  · rw [if_neg c78] at H
                                                                    exact absurd H (by simp)
                                                          · rw [if_neg c57] at H
                                                            have c57b0 : ((bt ((rd_T34 (rd_L2 l0 x13_1) x24_3).f1) x9_6) == 32) = false := beq_eq_false_iff_ne.mpr c57
                                                            have c57b1 : ((bt ((rd_T34 (rd_L2 l0 x13_1) x24_3).f1) x9_6) != 32) = true := bne_iff_ne.mpr c57
                                                            by_cases c83 : (bt ((rd_T34 (rd_L2 l0 x13_1) x24_3).f1) x9_6) = 35
                                                            · rw [if_pos c83] at H
                                                              have c83b0 : ((bt ((rd_T34 (rd_L2 l0 x13_1) x24_3).f1) x9_6) == 35) = true := beq_iff_eq.mpr c83
                                                              have c83b1 : ((bt ((rd_T34 (rd_L2 l0 x13_1) x24_3).f1) x9_6) != 35) = false := bne_eq_false_iff_eq.mpr c83
                                                              clear c83
                                                              by_cases c84 : x9_6 = 0
                                                              · rw [if_pos c84] at H
                                                                have c84b0 : (x9_6 == 0) = true := beq_iff_eq.mpr c84
                                                                have c84b1 : (x9_6 != 0) = false := bne_eq_false_iff_eq.mpr c84
                                                                clear c84
                                                                by_cases c85 : 0 ≤ x9_6
                                                                · rw [if_pos c85] at H
                                                                  have c85b0 := eq_true c85
                                                                  have c85b1 : decide (0 ≤ x9_6) = true := decide_eq_true c85
                                                                  clear c85
                                                                  by_cases c86 : x9_6 ≤ (wrap64 (x9_6 + 1))
                                                                  · rw [if_pos c86] at H
                                                                    have c86b0 := eq_true c86
                                                                    have c86b1 : decide (x9_6 ≤ (wrap64 (x9_6 + 1))) = true := decide_eq_true c86
                                                                    by_cases c87 : (wrap64 (x9_6 + 1)) ≤ (((rd_T34 (rd_L2 l0 x13_1) x24_3).f1).size : Int)
                                                                    · rw [if_pos c87] at H
                                                                      have c87b0 := eq_true c87
                                                                      have c87b1 : decide ((wrap64 (x9_6 + 1)) ≤ (((rd_T34 (rd_L2 l0 x13_1) x24_3).f1).size : Int)) = true := decide_eq_true c87
                                                                      by_cases c88 : 1 + (((rd_T34 (rd_L2 l0 x13_1) x24_3).f1).extract (x9_6 : Int).toNat ((wrap64 (x9_6 + 1)) : Int).toNat).size ≤ 9223372036854775807
                                                                      · rw [if_pos c88] at H
                                                                        have c88b0 := eq_true c88
                                                                        have c88b1 : decide (1 + (((rd_T34 (rd_L2 l0 x13_1) x24_3).f1).extract (x9_6 : Int).toNat ((wrap64 (x9_6 + 1)) : Int).toNat).size ≤ 9223372036854775807) = true := decide_eq_true c88
                                                                        try have c88b2 : (9223372036854775807 < 1 + (((rd_T34 (rd_L2 l0 x13_1) x24_3).f1).extract (x9_6 : Int).toNat ((wrap64 (x9_6 + 1)) : Int).toNat).size) = False := eq_false (Nat.not_lt.2 c88)
                                                                        have c88b3 : (9223372036854775807 < 1 + ((wrap64 (x9_6 + 1)).toNat - (x9_6).toNat)) = False := eq_false (by have z0 : 0 ≤ x9_6 := of_eq_true (by assumption); unfold wrap64; omega)
                                                                        by_cases c89 : x4_6.size + ((⟨#[92]⟩ : ByteArray) ++ (((rd_T34 (rd_L2 l0 x13_1) x24_3).f1).extract (x9_6 : Int).toNat ((wrap64 (x9_6 + 1)) : Int).toNat)).size ≤ 9223372036854775807
                                                                        · rw [if_pos c89] at H
                                                                          have c89b0 := eq_true c89
                                                                          have c89b1 : decide (x4_6.size + ((⟨#[92]⟩ : ByteArray) ++ (((rd_T34 (rd_L2 l0 x13_1) x24_3).f1).extract (x9_6 : Int).toNat ((wrap64 (x9_6 + 1)) : Int).toNat)).size ≤ 9223372036854775807) = true := decide_eq_true c89
                                                                          try have c89b2 : (9223372036854775807 < x4_6.size + ((⟨#[92]⟩ : ByteArray) ++ (((rd_T34 (rd_L2 l0 x13_1) x24_3).f1).extract (x9_6 : Int).toNat ((wrap64 (x9_6 + 1)) : Int).toNat)).size) = False := eq_false (Nat.not_lt.2 c89)
                                                                          have H' := Aside0.mk H
                                                                          clear H
                                                                          go_wp2_with (first | (go_at_call 23; (with_reducible refine (spec_dnSpecial.calls (bt ((rd_T34 (rd_L2 l0 x13_1) x24_3).f1) x9_6) false _ A42.out).mono ?_); rintro e w' ⟨rfl, ⟨nd, rfl⟩⟩; (try first | exact ⟨rfl, _, World.drewN_drewN _ _ _⟩ | exact ⟨rfl, _, Eq.trans (World.drewN_drewN _ _ _) (congrArg (World.drewN _) (Nat.add_assoc _ _ _))⟩); have hcz90_0 : wc.cell? ⟨gb222, 0, none⟩ = some (.string ((rd_T34 (rd_L2 l0 x13_1) x24_3).f0)) := (blk_cell BK222.out 0).trans rfl; have hcz90_1 : wc.cell? ⟨gb222, 1, none⟩ = some (.string ((rd_T34 (rd_L2 l0 x13_1) x24_3).f1)) := (blk_cell BK222.out 1).trans rfl; have hfz90_0 := blk_frozen BK222.out 0; have hfz90_1 := blk_frozen BK222.out 1))
                                                                          repeat (go_quiet (first | (go_at_call 23; (with_reducible refine (spec_dnSpecial.calls (bt ((rd_T34 (rd_L2 l0 x13_1) x24_3).f1) x9_6) false _ A42.out).mono ?_); rintro e w' ⟨rfl, ⟨nd, rfl⟩⟩; (try first | exact ⟨rfl, _, World.drewN_drewN _ _ _⟩ | exact ⟨rfl, _, Eq.trans (World.drewN_drewN _ _ _) (congrArg (World.drewN _) (Nat.add_assoc _ _ _))⟩); have hcz90_0 : wc.cell? ⟨gb222, 0, none⟩ = some (.string ((rd_T34 (rd_L2 l0 x13_1) x24_3).f0)) := (blk_cell BK222.out 0).trans rfl; have hcz90_1 : wc.cell? ⟨gb222, 1, none⟩ = some (.string ((rd_T34 (rd_L2 l0 x13_1) x24_3).f1)) := (blk_cell BK222.out 1).trans rfl; have hfz90_0 := blk_frozen BK222.out 0; have hfz90_1 := blk_frozen BK222.out 1)); try go_wp2_with (first | (go_at_call 23; (with_reducible refine (spec_dnSpecial.calls (bt ((rd_T34 (rd_L2 l0 x13_1) x24_3).f1) x9_6) false _ A42.out).mono ?_); rintro e w' ⟨rfl, ⟨nd, rfl⟩⟩; (try first | exact ⟨rfl, _, World.drewN_drewN _ _ _⟩ | exact ⟨rfl, _, Eq.trans (World.drewN_drewN _ _ _) (congrArg (World.drewN _) (Nat.add_assoc _ _ _))⟩); have hcz90_0 : wc.cell? ⟨gb222, 0, none⟩ = some (.string ((rd_T34 (rd_L2 l0 x13_1) x24_3).f0)) := (blk_cell BK222.out 0).trans rfl; have hcz90_1 : wc.cell? ⟨gb222, 1, none⟩ = some (.string ((rd_T34 (rd_L2 l0 x13_1) x24_3).f1)) := (blk_cell BK222.out 1).trans rfl; have hfz90_0 := blk_frozen BK222.out 0; have hfz90_1 := blk_frozen BK222.out 1)))
                                                                          go_roundg kj27
                                                                          case measure => have := HK1.out; have := HJ4.out; have := HK3.out; have := HJ10.out; have := HJ15.out; have := HK6.out; have := HJ27.out; omega
                                                                          case rel => exact ⟨(x4_6 ++ ((⟨#[92]⟩ : ByteArray) ++ (((rd_T34 (rd_L2 l0 x13_1) x24_3).f1).extract (x9_6 : Int).toNat ((wrap64 (x9_6 + 1)) : Int).toNat))), (wrap64 (x9_6 + 1)), (by first | rfl | (simp; done) | (simp [*]; done)), (by first | rfl | (simp; done) | (simp [*]; done)), H', ⟨by have := HK1.out; have := HJ4.out; have := HK3.out; have := HJ10.out; have := HJ15.out; have := HK6.out; have := HJ27.out; omega⟩, ⟨by (with_reducible repeat (first | refine blk_drewN ?_ _ | refine blk_drew ?_ | refine blk_alloc ?_ _)); exact BK222.out⟩, ⟨by repeat (first | (with_reducible first | exact HB.out | apply below_alloc | apply pw_below_drewN | apply below_drew1 | refine below_set ?_ GE222.out) | exact HB.out)⟩⟩
                                                                        · rw [if_neg c89] at H
                                                                          exact absurd H (by simp)
                                                                      · rw [if_neg c88] at H
                                                                        exact absurd H (by simp)
                                                                    · rw [if_neg c87] at H
                                                                      exact absurd H (by simp)
                                                                  · rw [if_neg c86] at H
                                                                    exact absurd H (by simp)
                                                                · rw [if_neg c85] at H
                                                                  exact absurd H (by simp)
                                                              · rw [if_neg c84] at H
                                                                have c84b0 : (x9_6 == 0) = false := beq_eq_false_iff_ne.mpr c84
                                                                have c84b1 : (x9_6 != 0) = true := bne_iff_ne.mpr c84
                                                                by_cases c91 : 0 ≤ x9_6
                                                                · rw [if_pos c91] at H
                                                                  have c91b0 := eq_true c91
                                                                  have c91b1 : decide (0 ≤ x9_6) = true := decide_eq_true c91
                                                                  clear c91
                                                                  by_cases c92 : x9_6 ≤ (wrap64 (x9_6 + 1))
                                                                  · rw [if_pos c92] at H
                                                                    have c92b0 := eq_true c92
                                                                    have c92b1 : decide (x9_6 ≤ (wrap64 (x9_6 + 1))) = true := decide_eq_true c92
                                                                    by_cases c93 : (wrap64 (x9_6 + 1)) ≤ (((rd_T34 (rd_L2 l0 x13_1) x24_3).f1).size : Int)
                                                                    · rw [if_pos c93] at H
                                                                      have c93b0 := eq_true c93
                                                                      have c93b1 : decide ((wrap64 (x9_6 + 1)) ≤ (((rd_T34 (rd_L2 l0 x13_1) x24_3).f1).size : Int)) = true := decide_eq_true c93
                                                                      by_cases c94 : x4_6.size + (((rd_T34 (rd_L2 l0 x13_1) x24_3).f1).extract (x9_6 : Int).toNat ((wrap64 (x9_6 + 1)) : Int).toNat).size ≤ 9223372036854775807
                                                                      · rw [if_pos c94] at H
                                                                        have c94b0 := eq_true c94
                                                                        have c94b1 : decide (x4_6.size + (((rd_T34 (rd_L2 l0 x13_1) x24_3).f1).extract (x9_6 : Int).toNat ((wrap64 (x9_6 + 1)) : Int).toNat).size ≤ 9223372036854775807) = true := decide_eq_true c94
                                                                        try have c94b2 : (9223372036854775807 < x4_6.size + (((rd_T34 (rd_L2 l0 x13_1) x24_3).f1).extract (x9_6 : Int).toNat ((wrap64 (x9_6 + 1)) : Int).toNat).size) = False := eq_false (Nat.not_lt.2 c94)
                                                                        have H' := Aside0.mk H
                                                                        clear H
                                                                        go_wp2_with (first | (go_at_call 23; (with_reducible refine (spec_dnSpecial.calls (bt ((rd_T34 (rd_L2 l0 x13_1) x24_3).f1) x9_6) false _ A42.out).mono ?_); rintro e w' ⟨rfl, ⟨nd, rfl⟩⟩; (try first | exact ⟨rfl, _, World.drewN_drewN _ _ _⟩ | exact ⟨rfl, _, Eq.trans (World.drewN_drewN _ _ _) (congrArg (World.drewN _) (Nat.add_assoc _ _ _))⟩); have hcz95_0 : wc.cell? ⟨gb222, 0, none⟩ = some (.string ((rd_T34 (rd_L2 l0 x13_1) x24_3).f0)) := (blk_cell BK222.out 0).trans rfl; have hcz95_1 : wc.cell? ⟨gb222, 1, none⟩ = some (.string ((rd_T34 (rd_L2 l0 x13_1) x24_3).f1)) := (blk_cell BK222.out 1).trans rfl; have hfz95_0 := blk_frozen BK222.out 0; have hfz95_1 := blk_frozen BK222.out 1))
                                                                        repeat (go_quiet (first | (go_at_call 23; (with_reducible refine (spec_dnSpecial.calls (bt ((rd_T34 (rd_L2 l0 x13_1) x24_3).f1) x9_6) false _ A42.out).mono ?_); rintro e w' ⟨rfl, ⟨nd, rfl⟩⟩; (try first | exact ⟨rfl, _, World.drewN_drewN _ _ _⟩ | exact ⟨rfl, _, Eq.trans (World.drewN_drewN _ _ _) (congrArg (World.drewN _) (Nat.add_assoc _ _ _))⟩); have hcz95_0 : wc.cell? ⟨gb222, 0, none⟩ = some (.string ((rd_T34 (rd_L2 l0 x13_1) x24_3).f0)) := (blk_cell BK222.out 0).trans rfl; have hcz95_1 : wc.cell? ⟨gb222, 1, none⟩ = some (.string ((rd_T34 (rd_L2 l0 x13_1) x24_3).f1)) := (blk_cell BK222.out 1).trans rfl; have hfz95_0 := blk_frozen BK222.out 0; have hfz95_1 := blk_frozen BK222.out 1)); try go_wp2_with (first | (go_at_call 23; (with_reducible refine (spec_dnSpecial.calls (bt ((rd_T34 (rd_L2 l0 x13_1) x24_3).f1) x9_6) false _ A42.out).mono ?_); rintro e w' ⟨rfl, ⟨nd, rfl⟩⟩; (try first | exact ⟨rfl, _, World.drewN_drewN _ _ _⟩ | exact ⟨rfl, _, Eq.trans (World.drewN_drewN _ _ _) (congrArg (World.drewN _) (Nat.add_assoc _ _ _))⟩); have hcz95_0 : wc.cell? ⟨gb222, 0, none⟩ = some (.string ((rd_T34 (rd_L2 l0 x13_1) x24_3).f0)) := (blk_cell BK222.out 0).trans rfl; have hcz95_1 : wc.cell? ⟨gb222, 1, none⟩ = some (.string ((rd_T34 (rd_L2 l0 x13_1) x24_3).f1)) := (blk_cell BK222.out 1).trans rfl; have hfz95_0 := blk_frozen BK222.out 0; have hfz95_1 := blk_frozen BK222.out 1)))
                                                                        go_roundg kj27
                                                                        case measure => have := HK1.out; have := HJ4.out; have := HK3.out; have := HJ10.out; have := HJ15.out; have := HK6.out; have := HJ27.out; omega
                                                                        case rel => exact ⟨(x4_6 ++ (((rd_T34 (rd_L2 l0 x13_1) x24_3).f1).extract (x9_6 : Int).toNat ((wrap64 (x9_6 + 1)) : Int).toNat)), (wrap64 (x9_6 + 1)), (by first | rfl | (simp; done) | (simp [*]; done)), (by first | rfl | (simp; done) | (simp [*]; done)), H', ⟨by have := HK1.out; have := HJ4.out; have := HK3.out; have := HJ10.out; have := HJ15.out; have := HK6.out; have := HJ27.out; omega⟩, ⟨by (with_reducible repeat (first | refine blk_drewN ?_ _ | refine blk_drew ?_ | refine blk_alloc ?_ _)); exact BK222.out⟩, ⟨by repeat (first | (with_reducible first | exact HB.out | apply below_alloc | apply pw_below_drewN | apply below_drew1 | refine below_set ?_ GE222.out) | exact HB.out)⟩⟩
                                                                      · rw [if_neg c94] at H
                                                                        exact absurd H (by simp)
                                                                    · rw [if_neg c93] at H
                                                                      exact absurd H (by simp)
                                                                  · rw [if_neg c92] at H
                                                                    exact absurd H (by simp)
                                                                · rw [if_neg c91] at H
                                                                  exact absurd H (by simp)
                                                            · rw [if_neg c83] at H
                                                              have c83b0 : ((bt ((rd_T34 (rd_L2 l0 x13_1) x24_3).f1) x9_6) == 35) = false := beq_eq_false_iff_ne.mpr c83
                                                              have c83b1 : ((bt ((rd_T34 (rd_L2 l0 x13_1) x24_3).f1) x9_6) != 35) = true := bne_iff_ne.mpr c83
                                                              by_cases c96 : 0 ≤ x9_6
                                                              · rw [if_pos c96] at H
                                                                have c96b0 := eq_true c96
                                                                have c96b1 : decide (0 ≤ x9_6) = true := decide_eq_true c96
                                                                clear c96
                                                                by_cases c97 : x9_6 ≤ (wrap64 (x9_6 + 1))
                                                                · rw [if_pos c97] at H
                                                                  have c97b0 := eq_true c97
                                                                  have c97b1 : decide (x9_6 ≤ (wrap64 (x9_6 + 1))) = true := decide_eq_true c97
                                                                  by_cases c98 : (wrap64 (x9_6 + 1)) ≤ (((rd_T34 (rd_L2 l0 x13_1) x24_3).f1).size : Int)
                                                                  · rw [if_pos c98] at H
                                                                    have c98b0 := eq_true c98
                                                                    have c98b1 : decide ((wrap64 (x9_6 + 1)) ≤ (((rd_T34 (rd_L2 l0 x13_1) x24_3).f1).size : Int)) = true := decide_eq_true c98
                                                                    by_cases c99 : x4_6.size + (((rd_T34 (rd_L2 l0 x13_1) x24_3).f1).extract (x9_6 : Int).toNat ((wrap64 (x9_6 + 1)) : Int).toNat).size ≤ 9223372036854775807
                                                                    · rw [if_pos c99] at H
                                                                      have c99b0 := eq_true c99
                                                                      have c99b1 : decide (x4_6.size + (((rd_T34 (rd_L2 l0 x13_1) x24_3).f1).extract (x9_6 : Int).toNat ((wrap64 (x9_6 + 1)) : Int).toNat).size ≤ 9223372036854775807) = true := decide_eq_true c99
                                                                      try have c99b2 : (9223372036854775807 < x4_6.size + (((rd_T34 (rd_L2 l0 x13_1) x24_3).f1).extract (x9_6 : Int).toNat ((wrap64 (x9_6 + 1)) : Int).toNat).size) = False := eq_false (Nat.not_lt.2 c99)
                                                                      have H' := Aside0.mk H
                                                                      clear H
                                                                      go_wp2_with (first | (go_at_call 23; (with_reducible refine (spec_dnSpecial.calls (bt ((rd_T34 (rd_L2 l0 x13_1) x24_3).f1) x9_6) false _ A42.out).mono ?_); rintro e w' ⟨rfl, ⟨nd, rfl⟩⟩; (try first | exact ⟨rfl, _, World.drewN_drewN _ _ _⟩ | exact ⟨rfl, _, Eq.trans (World.drewN_drewN _ _ _) (congrArg (World.drewN _) (Nat.add_assoc _ _ _))⟩); have hcz100_0 : wc.cell? ⟨gb222, 0, none⟩ = some (.string ((rd_T34 (rd_L2 l0 x13_1) x24_3).f0)) := (blk_cell BK222.out 0).trans rfl; have hcz100_1 : wc.cell? ⟨gb222, 1, none⟩ = some (.string ((rd_T34 (rd_L2 l0 x13_1) x24_3).f1)) := (blk_cell BK222.out 1).trans rfl; have hfz100_0 := blk_frozen BK222.out 0; have hfz100_1 := blk_frozen BK222.out 1))
                                                                      repeat (go_quiet (first | (go_at_call 23; (with_reducible refine (spec_dnSpecial.calls (bt ((rd_T34 (rd_L2 l0 x13_1) x24_3).f1) x9_6) false _ A42.out).mono ?_); rintro e w' ⟨rfl, ⟨nd, rfl⟩⟩; (try first | exact ⟨rfl, _, World.drewN_drewN _ _ _⟩ | exact ⟨rfl, _, Eq.trans (World.drewN_drewN _ _ _) (congrArg (World.drewN _) (Nat.add_assoc _ _ _))⟩); have hcz100_0 : wc.cell? ⟨gb222, 0, none⟩ = some (.string ((rd_T34 (rd_L2 l0 x13_1) x24_3).f0)) := (blk_cell BK222.out 0).trans rfl; have hcz100_1 : wc.cell? ⟨gb222, 1, none⟩ = some (.string ((rd_T34 (rd_L2 l0 x13_1) x24_3).f1)) := (blk_cell BK222.out 1).trans rfl; have hfz100_0 := blk_frozen BK222.out 0; have hfz100_1 := blk_frozen BK222.out 1)); try go_wp2_with (first | (go_at_call 23; (with_reducible refine (spec_dnSpecial.calls (bt ((rd_T34 (rd_L2 l0 x13_1) x24_3).f1) x9_6) false _ A42.out).mono ?_); rintro e w' ⟨rfl, ⟨nd, rfl⟩⟩; (try first | exact ⟨rfl, _, World.drewN_drewN _ _ _⟩ | exact ⟨rfl, _, Eq.trans (World.drewN_drewN _ _ _) (congrArg (World.drewN _) (Nat.add_assoc _ _ _))⟩); have hcz100_0 : wc.cell? ⟨gb222, 0, none⟩ = some (.string ((rd_T34 (rd_L2 l0 x13_1) x24_3).f0)) := (blk_cell BK222.out 0).trans rfl; have hcz100_1 : wc.cell? ⟨gb222, 1, none⟩ = some (.string ((rd_T34 (rd_L2 l0 x13_1) x24_3).f1)) := (blk_cell BK222.out 1).trans rfl; have hfz100_0 := blk_frozen BK222.out 0; have hfz100_1 := blk_frozen BK222.out 1)))
                                                                      go_roundg kj27
                                                                      case measure => have := HK1.out; have := HJ4.out; have := HK3.out; have := HJ10.out; have := HJ15.out; have := HK6.out; have := HJ27.out; omega
                                                                      case rel => exact ⟨(x4_6 ++ (((rd_T34 (rd_L2 l0 x13_1) x24_3).f1).extract (x9_6 : Int).toNat ((wrap64 (x9_6 + 1)) : Int).toNat)), (wrap64 (x9_6 + 1)), (by first | rfl | (simp; done) | (simp [*]; done)), (by first | rfl | (simp; done) | (simp [*]; done)), H', ⟨by have := HK1.out; have := HJ4.out; have := HK3.out; have := HJ10.out; have := HJ15.out; have := HK6.out; have := HJ27.out; omega⟩, ⟨by (with_reducible repeat (first | refine blk_drewN ?_ _ | refine blk_drew ?_ | refine blk_alloc ?_ _)); exact BK222.out⟩, ⟨by repeat (first | (with_reducible first | exact HB.out | apply below_alloc | apply pw_below_drewN | apply below_drew1 | refine below_set ?_ GE222.out) | exact HB.out)⟩⟩
                                                                    · rw [if_neg c99] at H
                                                                      exact absurd H (by simp)
                                                                  · rw [if_neg c98] at H
                                                                    exact absurd H (by simp)
                                                                · rw [if_neg c97] at H
                                                                  exact absurd H (by simp)
                                                              · rw [if_neg c96] at H
                                                                exact absurd H (by simp)
                                              · rw [if_neg c26] at H
                                                exact absurd H (by simp)
                                            · rw [if_neg c25] at H
                                              have c25b0 : decide (x9_6 < (((rd_T34 (rd_L2 l0 x13_1) x24_3).f1).size : Int)) = false := decide_eq_false c25
                                              clear c25
                                              have H' := Aside0.mk H
                                              clear H
                                              have hcz101_0 : wr.cell? ⟨gb222, 0, none⟩ = some (.string ((rd_T34 (rd_L2 l0 x13_1) x24_3).f0)) := (blk_cell BK222.out 0).trans rfl
                                              have hcz101_1 : wr.cell? ⟨gb222, 1, none⟩ = some (.string ((rd_T34 (rd_L2 l0 x13_1) x24_3).f1)) := (blk_cell BK222.out 1).trans rfl
                                              have hfz101_0 := blk_frozen BK222.out 0
                                              have hfz101_1 := blk_frozen BK222.out 1
                                              go_wp2
                                              repeat (go_quiet (fail); try go_wp2)
                                              go_roundg k6
                                              case measure => have := HK1.out; have := HJ4.out; have := HK3.out; have := HJ10.out; have := HJ15.out; have := HK6.out; omega
                                              case rel => exact ⟨(x4_6), (wrap64 (x24_3 + 1)), (by first | rfl | (simp; done) | (simp [*]; done)), (by first | rfl | (simp; done) | (simp [*]; done)), H', ⟨by have := HK1.out; have := HJ4.out; have := HK3.out; have := HJ10.out; have := HJ15.out; have := HK6.out; omega⟩, ⟨by repeat (first | (with_reducible first | exact HB.out | apply below_alloc | apply pw_below_drewN | apply below_drew1 | refine below_set ?_ GE222.out) | exact HB.out)⟩⟩
                                      · rw [if_neg c23] at H
                                        exact absurd H (by simp)
                                    · rw [if_neg c22] at H
                                      exact absurd H (by simp)
                        · rw [if_neg c10] at H
                          exact absurd H (by simp)
                      · rw [if_neg c9] at H
                        exact absurd H (by simp)
                    · rw [if_neg c8] at H
                      have c8b0 : decide (x24_3 < ((rd_L2 l0 x13_1).length : Int)) = false := decide_eq_false c8
                      clear c8
                      by_cases c102 : ((rd_L2 l0 x13_1).length : Int) = 0
                      · rw [if_pos c102] at H
                        have c102b0 : (((rd_L2 l0 x13_1).length : Int) == 0) = true := beq_iff_eq.mpr c102
                        have c102b1 : (((rd_L2 l0 x13_1).length : Int) != 0) = false := bne_eq_false_iff_eq.mpr c102
                        clear c102
                        simp only [Option.some.injEq, Prod.mk.injEq] at H
                        obtain ⟨rfl, rfl⟩ := H
                        go_wp2
                        repeat (go_quiet (fail); try go_wp2)
                        go_ret2
                        exact ⟨by first | rfl | (simp [errW_none, errW_some] <;> rfl) | (simp [*, errW_none, errW_some] <;> rfl), by repeat (first | (with_reducible first | exact HB.out | apply below_alloc | apply pw_below_drewN | apply below_drew1) | exact HB.out)⟩
                      · rw [if_neg c102] at H
                        have c102b0 : (((rd_L2 l0 x13_1).length : Int) == 0) = false := beq_eq_false_iff_ne.mpr c102
                        have c102b1 : (((rd_L2 l0 x13_1).length : Int) != 0) = true := bne_iff_ne.mpr c102
                        have c102b2 : ¬ ((rd_L2 l0 x13_1) = []) := fun h_ => c102 (by rw [h_]; rfl)
                        have H' := Aside0.mk H
                        clear H
                        go_wp2
                        repeat (go_quiet (fail); try go_wp2)
                        go_roundg k3
                        case measure => have := HK1.out; have := HJ4.out; have := HK3.out; omega
                        case rel => exact ⟨(x4_3), (wrap64 (x13_1 + 1)), (by first | rfl | (simp; done) | (simp [*]; done)), (by first | rfl | (simp; done) | (simp [*]; done)), H', ⟨by have := HK1.out; have := HJ4.out; have := HK3.out; omega⟩, ⟨by repeat (first | (with_reducible first | exact HB.out | apply below_alloc | apply pw_below_drewN | apply below_drew1) | exact HB.out)⟩⟩
          · rw [if_neg c4] at H
            exact absurd H (by simp)
        · rw [if_neg c3] at H
          exact absurd H (by simp)
      · rw [if_neg c2] at H
        have c2b0 : decide (x13_1 < (l0.length : Int)) = false := decide_eq_false c2
        clear c2
        simp only [Option.some.injEq, Prod.mk.injEq] at H
        obtain ⟨rfl, rfl⟩ := H
        go_wp2
        repeat (go_quiet (fail); try go_wp2)
        go_ret2
        exact ⟨by first | rfl | (simp [errW_none, errW_some] <;> rfl) | (simp [*, errW_none, errW_some] <;> rfl), by repeat (first | (with_reducible first | exact HB.out | apply below_alloc | apply pw_below_drewN | apply below_drew1) | exact HB.out)⟩

end Go.Proofs.YtdacmcbipnnneaaDoor.PXD
