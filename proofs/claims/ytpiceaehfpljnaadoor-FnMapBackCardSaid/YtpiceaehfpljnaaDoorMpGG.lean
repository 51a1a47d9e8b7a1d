/- Map and ValidMapping at a mapping that is refused. -/
import Derived.Test.YtpiceaehfpljnaaDoorMpEE
import Derived.Test.YtpiceaehfpljnaaDoorMpFF
namespace Go.Proofs.YtpiceaehfpljnaaDoor
open Go.RowKit Mp Mpm
attribute [local go_sem ↓] Go.wp_at_zero Go.wp_at_succ
set_option linter.unusedVariables false
set_option linter.unusedSimpArgs false
set_option maxRecDepth 1000000
set_option maxHeartbeats 8000000

theorem nt_bad (src dst : ByteArray) (w : World) (hN : Calls Tryd.prog 32 #[.string src, .string dst, .bool false] w fun e w' => ErrP w e w') : Calls Tryd.prog 21 #[.string src, .string dst, .bool false] w fun e w' => ErrP w e w' := by
  have HN := Lib.hid hN
  clear hN
  go_enter Tryd.func21, Tryd.ntmps21
  go_wp2_with fail
  refine HN.out.mono ?_
  rintro e w1 ⟨T, q, rfl, hB⟩
  have HB := Lib.hid hB
  clear hB
  go_wp2_with fail
  go_ret2
  exact ⟨T, q, rfl, HB.out⟩
theorem nst_bad (src dst : ByteArray) (w : World) (hN : Calls Tryd.prog 32 #[.string src, .string dst, .bool false] w fun e w' => ErrP w e w') : Calls Tryd.prog 41 #[.string src, .string dst] w fun e w' => ErrP w e w' := by
  have HN := Lib.hid hN
  clear hN
  go_enter Tryd.func41, Tryd.ntmps41
  go_wp2_with fail
  refine HN.out.mono ?_
  rintro e w1 ⟨T, q, rfl, hB⟩
  have HB := Lib.hid hB
  clear hB
  go_wp2_with fail
  go_ret2
  exact ⟨T, q, rfl, HB.out⟩
theorem map_bad (src dst s : ByteArray) (w : World) (hN : Calls Tryd.prog 32 #[.string src, .string dst, .bool false] w fun e w' => ErrP w e w') : Calls Tryd.prog 11 #[.string src, .string dst, .bool false, .string s] w fun e w' => e = .returned (.tuple #[.string ⟨#[]⟩, .int .i64 1]) ∧ Below w.heap.size w w' := by
  have HN := Lib.hid (nt_bad src dst w hN)
  clear hN
  go_enter Tryd.func11, Tryd.ntmps11
  go_wp2_with fail
  refine HN.out.mono ?_
  rintro e w1 ⟨T, q, rfl, hB⟩
  have HB := Lib.hid hB
  clear hB
  go_wp2_with fail
  go_ret2
  exact ⟨rfl, HB.out⟩
theorem vm_bad (src dst : ByteArray) (w : World) (hV : Calls Tryd.prog 24 #[.string src, .string dst] w fun e w' => (∃ T q, e = .returned (.iface T q)) ∧ Below w.heap.size w w') : Calls Tryd.prog 15 #[.string src, .string dst] w fun e w' => e = .returned (.bool false) ∧ Below w.heap.size w w' := by
  have HN := Lib.hid hV
  clear hV
  go_enter Tryd.func15, Tryd.ntmps15
  go_wp2_with fail
  refine HN.out.mono ?_
  rintro e w1 ⟨⟨T, q, rfl⟩, hb⟩
  have HB := Lib.hid hb
  clear hb
  go_wp2_with fail
  go_ret
  exact ⟨rfl, HB.out⟩
end Go.Proofs.YtpiceaehfpljnaaDoor
