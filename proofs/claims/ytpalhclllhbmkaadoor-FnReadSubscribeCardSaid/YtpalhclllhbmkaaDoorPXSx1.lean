-- Printed by a program of this session (wip/tools/xprint.py), which turns the kit's print: functions by contract are left out. Lean checks it.
import Derived.Test.YtpalhclllhbmkaaDoorPXSx0
namespace Go.Proofs.YtpalhclllhbmkaaDoor.PXS
open Go.RowKit Go.Proofs.YtpalhclllhbmkaaDoorW.PrintWords Go.Proofs.YtpalhclllhbmkaaDoorW.PrintLast Go.Proofs.YtpalhclllhbmkaaDoorW.PrintMore
attribute [local go_sem] max2_int min2_int max_two min_two max_three min_three max_four min_four   -- for this text's walks alone
set_option linter.unusedVariables false
set_option linter.unusedSimpArgs false

theorem eqA44 (d : Nat) (w : World) (x0 y0 : ByteArray) (x1 y1 : Int) :
    (Op.equalIn (d + 2) 44 (.agg #[.string x0, .int .u8 x1]) (.agg #[.string y0, .int .u8 y1])).run Tryd.prog w = .ok (x0.toList == y0.toList && (x1 == y1)) w := by
  refine eqA_of Tryd.underlying44 (by kernel_rfl) ?_
  refine eqf_cons (by rfl) (by go_simp; rfl) (by go_simp; rfl) (by go_simp) ?_
  exact eqf_last (by rfl) (by go_simp; rfl) (by go_simp; rfl) (by go_simp)
end Go.Proofs.YtpalhclllhbmkaaDoor.PXS
