/- The listed variables are errors. -/
import Derived.Test.YtpiceaehfpljnaaDoorRows
import Derived.ProofKit
import Derived.OpenShut
import Derived.LaidMore
import Derived.Stop.Joined
import Derived.Test.YtpiceaehfpljnaaDoorMpK
import Derived.Stop.LaidErr
namespace Go.Proofs.YtpiceaehfpljnaaDoor
open Go.ChangeShapes Go.WideShapes Go.ChangeAt Go.RowKit
set_option linter.unusedVariables false
theorem star : "*" ++ "errors.errorString" = "*errors.errorString" := by decide
theorem row138 (u : TypeId) (h : Tryd.prog.typeName? 3 u = some "*errors.errorString") : u = 138 :=
  typeName_ptr_named (nm := "errors.errorString") (by rw [star]; kernel_rfl) (by kernel_rfl) (by decide) u (by rw [star]; exact h)

theorem sur_laid {W : World} (h : laidMet Tryd.prog [("pub-streamkeep/pub/natsserver/server.ErrBadSubject", Rows.laid_pub_streamkeep_pub_natsserver_server_ErrBadSubject), ("pub-streamkeep/pub/natsserver/server.ErrNoTransforms", Rows.laid_pub_streamkeep_pub_natsserver_server_ErrNoTransforms), ("pub-streamkeep/pub/natsserver/server.ErrInvalidMappingDestinationSubject", Rows.laid_pub_streamkeep_pub_natsserver_server_ErrInvalidMappingDestinationSubject), ("pub-streamkeep/pub/natsserver/server.ErrMappingDestinationNotUsingAllWildcards", Rows.laid_pub_streamkeep_pub_natsserver_server_ErrMappingDestinationNotUsingAllWildcards), ("pub-streamkeep/pub/natsserver/server.ErrUnknownMappingDestinationFunction", Rows.laid_pub_streamkeep_pub_natsserver_server_ErrUnknownMappingDestinationFunction), ("pub-streamkeep/pub/natsserver/server.ErrMappingDestinationIndexOutOfRange", Rows.laid_pub_streamkeep_pub_natsserver_server_ErrMappingDestinationIndexOutOfRange), ("pub-streamkeep/pub/natsserver/server.ErrMappingDestinationNotEnoughArgs", Rows.laid_pub_streamkeep_pub_natsserver_server_ErrMappingDestinationNotEnoughArgs), ("pub-streamkeep/pub/natsserver/server.ErrMappingDestinationInvalidArg", Rows.laid_pub_streamkeep_pub_natsserver_server_ErrMappingDestinationInvalidArg), ("pub-streamkeep/pub/natsserver/server.ErrMappingDestinationTooManyArgs", Rows.laid_pub_streamkeep_pub_natsserver_server_ErrMappingDestinationTooManyArgs), ("pub-streamkeep/pub/natsserver/server.ErrMappingDestinationNotSupportedForImport", Rows.laid_pub_streamkeep_pub_natsserver_server_ErrMappingDestinationNotSupportedForImport)] W) : Sur W := by
  obtain ⟨a0, s0, hv0, _⟩ := laid_sentinel (g := 0) (ti := 48) (tp := 138) (te := 154) (ts := 9) (h) (by kernel_rfl) (by kernel_rfl) Tryd.underlying48 row138 Tryd.underlying138 Tryd.underlying154 rfl rfl Tryd.underlying9 (by kernel_rfl) (by kernel_rfl)
  have c0 := World.var?_cell (show Tryd.prog.globalNamed "pub-streamkeep/pub/natsserver/server.ErrBadSubject" = some 0 by kernel_rfl) hv0 0
  have d0 : W.cell? ⟨0, 0, none⟩ = some (.iface 138 (.pointer (some a0))) := by simpa using c0
  obtain ⟨a1, s1, hv1, _⟩ := laid_sentinel (g := 1) (ti := 48) (tp := 138) (te := 154) (ts := 9) (laidMet.tail (h)) (by kernel_rfl) (by kernel_rfl) Tryd.underlying48 row138 Tryd.underlying138 Tryd.underlying154 rfl rfl Tryd.underlying9 (by kernel_rfl) (by kernel_rfl)
  have c1 := World.var?_cell (show Tryd.prog.globalNamed "pub-streamkeep/pub/natsserver/server.ErrNoTransforms" = some 1 by kernel_rfl) hv1 0
  have d1 : W.cell? ⟨1, 0, none⟩ = some (.iface 138 (.pointer (some a1))) := by simpa using c1
  obtain ⟨a2, s2, hv2, _⟩ := laid_sentinel (g := 2) (ti := 48) (tp := 138) (te := 154) (ts := 9) (laidMet.tail (laidMet.tail (h))) (by kernel_rfl) (by kernel_rfl) Tryd.underlying48 row138 Tryd.underlying138 Tryd.underlying154 rfl rfl Tryd.underlying9 (by kernel_rfl) (by kernel_rfl)
  have c2 := World.var?_cell (show Tryd.prog.globalNamed "pub-streamkeep/pub/natsserver/server.ErrInvalidMappingDestinationSubject" = some 2 by kernel_rfl) hv2 0
  have d2 : W.cell? ⟨2, 0, none⟩ = some (.iface 138 (.pointer (some a2))) := by simpa using c2
  obtain ⟨a6, s6, hv6, _⟩ := laid_sentinel (g := 6) (ti := 48) (tp := 138) (te := 154) (ts := 9) (laidMet.tail (laidMet.tail (laidMet.tail (h)))) (by kernel_rfl) (by kernel_rfl) Tryd.underlying48 row138 Tryd.underlying138 Tryd.underlying154 rfl rfl Tryd.underlying9 (by kernel_rfl) (by kernel_rfl)
  have c6 := World.var?_cell (show Tryd.prog.globalNamed "pub-streamkeep/pub/natsserver/server.ErrMappingDestinationNotUsingAllWildcards" = some 6 by kernel_rfl) hv6 0
  have d6 : W.cell? ⟨6, 0, none⟩ = some (.iface 138 (.pointer (some a6))) := by simpa using c6
  obtain ⟨a3, s3, hv3, _⟩ := laid_sentinel (g := 3) (ti := 48) (tp := 138) (te := 154) (ts := 9) (laidMet.tail (laidMet.tail (laidMet.tail (laidMet.tail (h))))) (by kernel_rfl) (by kernel_rfl) Tryd.underlying48 row138 Tryd.underlying138 Tryd.underlying154 rfl rfl Tryd.underlying9 (by kernel_rfl) (by kernel_rfl)
  have c3 := World.var?_cell (show Tryd.prog.globalNamed "pub-streamkeep/pub/natsserver/server.ErrUnknownMappingDestinationFunction" = some 3 by kernel_rfl) hv3 0
  have d3 : W.cell? ⟨3, 0, none⟩ = some (.iface 138 (.pointer (some a3))) := by simpa using c3
  obtain ⟨a5, s5, hv5, _⟩ := laid_sentinel (g := 5) (ti := 48) (tp := 138) (te := 154) (ts := 9) (laidMet.tail (laidMet.tail (laidMet.tail (laidMet.tail (laidMet.tail (h)))))) (by kernel_rfl) (by kernel_rfl) Tryd.underlying48 row138 Tryd.underlying138 Tryd.underlying154 rfl rfl Tryd.underlying9 (by kernel_rfl) (by kernel_rfl)
  have c5 := World.var?_cell (show Tryd.prog.globalNamed "pub-streamkeep/pub/natsserver/server.ErrMappingDestinationIndexOutOfRange" = some 5 by kernel_rfl) hv5 0
  have d5 : W.cell? ⟨5, 0, none⟩ = some (.iface 138 (.pointer (some a5))) := by simpa using c5
  obtain ⟨a7, s7, hv7, _⟩ := laid_sentinel (g := 7) (ti := 48) (tp := 138) (te := 154) (ts := 9) (laidMet.tail (laidMet.tail (laidMet.tail (laidMet.tail (laidMet.tail (laidMet.tail (h))))))) (by kernel_rfl) (by kernel_rfl) Tryd.underlying48 row138 Tryd.underlying138 Tryd.underlying154 rfl rfl Tryd.underlying9 (by kernel_rfl) (by kernel_rfl)
  have c7 := World.var?_cell (show Tryd.prog.globalNamed "pub-streamkeep/pub/natsserver/server.ErrMappingDestinationNotEnoughArgs" = some 7 by kernel_rfl) hv7 0
  have d7 : W.cell? ⟨7, 0, none⟩ = some (.iface 138 (.pointer (some a7))) := by simpa using c7
  obtain ⟨a8, s8, hv8, _⟩ := laid_sentinel (g := 8) (ti := 48) (tp := 138) (te := 154) (ts := 9) (laidMet.tail (laidMet.tail (laidMet.tail (laidMet.tail (laidMet.tail (laidMet.tail (laidMet.tail (h)))))))) (by kernel_rfl) (by kernel_rfl) Tryd.underlying48 row138 Tryd.underlying138 Tryd.underlying154 rfl rfl Tryd.underlying9 (by kernel_rfl) (by kernel_rfl)
  have c8 := World.var?_cell (show Tryd.prog.globalNamed "pub-streamkeep/pub/natsserver/server.ErrMappingDestinationInvalidArg" = some 8 by kernel_rfl) hv8 0
  have d8 : W.cell? ⟨8, 0, none⟩ = some (.iface 138 (.pointer (some a8))) := by simpa using c8
  obtain ⟨a9, s9, hv9, _⟩ := laid_sentinel (g := 9) (ti := 48) (tp := 138) (te := 154) (ts := 9) (laidMet.tail (laidMet.tail (laidMet.tail (laidMet.tail (laidMet.tail (laidMet.tail (laidMet.tail (laidMet.tail (h))))))))) (by kernel_rfl) (by kernel_rfl) Tryd.underlying48 row138 Tryd.underlying138 Tryd.underlying154 rfl rfl Tryd.underlying9 (by kernel_rfl) (by kernel_rfl)
  have c9 := World.var?_cell (show Tryd.prog.globalNamed "pub-streamkeep/pub/natsserver/server.ErrMappingDestinationTooManyArgs" = some 9 by kernel_rfl) hv9 0
  have d9 : W.cell? ⟨9, 0, none⟩ = some (.iface 138 (.pointer (some a9))) := by simpa using c9
  obtain ⟨a4, s4, hv4, _⟩ := laid_sentinel (g := 4) (ti := 48) (tp := 138) (te := 154) (ts := 9) (laidMet.tail (laidMet.tail (laidMet.tail (laidMet.tail (laidMet.tail (laidMet.tail (laidMet.tail (laidMet.tail (laidMet.tail (h)))))))))) (by kernel_rfl) (by kernel_rfl) Tryd.underlying48 row138 Tryd.underlying138 Tryd.underlying154 rfl rfl Tryd.underlying9 (by kernel_rfl) (by kernel_rfl)
  have c4 := World.var?_cell (show Tryd.prog.globalNamed "pub-streamkeep/pub/natsserver/server.ErrMappingDestinationNotSupportedForImport" = some 4 by kernel_rfl) hv4 0
  have d4 : W.cell? ⟨4, 0, none⟩ = some (.iface 138 (.pointer (some a4))) := by simpa using c4
  refine ⟨World.block_lt_of_cell? W _ d9, fun k hk => ?_⟩
  match k, hk with
  | 0, _ => exact ⟨_, _, d0⟩
  | 1, _ => exact ⟨_, _, d1⟩
  | 2, _ => exact ⟨_, _, d2⟩
  | 3, _ => exact ⟨_, _, d3⟩
  | 4, _ => exact ⟨_, _, d4⟩
  | 5, _ => exact ⟨_, _, d5⟩
  | 6, _ => exact ⟨_, _, d6⟩
  | 7, _ => exact ⟨_, _, d7⟩
  | 8, _ => exact ⟨_, _, d8⟩
  | 9, _ => exact ⟨_, _, d9⟩
  | k + 10, hk => exact absurd hk (by omega)
end Go.Proofs.YtpiceaehfpljnaaDoor
