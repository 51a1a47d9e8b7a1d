/- The pieces of wsReadLoop's text, and its frame. -/
import Derived.Test.YtbldebfjgccadaaDoorFrJ
namespace Go.Proofs.YtbldebfjgccadaaDoor
open Go.RowKit
set_option linter.unusedVariables false

def firstLoop : Code → Option Code
  | .loop c => some c
  | .seq a b => match firstLoop a with
    | some c => some c
    | none => firstLoop b
  | .block _ c => firstLoop c
  | .scope c => firstLoop c
  | .cond _ a b => match firstLoop a with
    | some c => some c
    | none => firstLoop b
  | _ => none
def sndS : Code → Code
  | .seq _ b => b
  | c => c
def fstS : Code → Code
  | .seq a _ => a
  | c => c
def inB : Code → Code
  | .block _ c => c
  | c => c
def thenC : Code → Code
  | .cond _ a _ => a
  | c => c
/-- The loop's body; behind its test: the head's part, the data's part. -/
noncomputable def L21 : Code := ((Tryd.f21.body.bind firstLoop).getD .skip)
noncomputable def pAB : Code := inB (sndS L21)
noncomputable def pA : Code := fstS pAB
noncomputable def pB : Code := sndS pAB
noncomputable def hD : Code := thenC (sndS pA)
noncomputable def x12 : Code := sndS (sndS (sndS (sndS (sndS (sndS (sndS (sndS (sndS (sndS (sndS (sndS hD)))))))))))
noncomputable def sw1 : Code := fstS x12
noncomputable def x13 : Code := sndS x12
noncomputable def sw2 : Code := fstS x13
noncomputable def x14 : Code := sndS x13
noncomputable def mk : Code := fstS x14
noncomputable def x15 : Code := sndS x14

set_option maxRecDepth 1000000 in
def FrameL (E : Env) (g o n cc : Nat) (v13 v16 v17 v18 : Value) (u : Nat → Value) : Act := ⟨#[.pointer (some ⟨E.c, 0, none⟩), .pointer (some ⟨E.r, 0, none⟩), .iface 69 (.pointer (some ⟨E.p, 0, none⟩)), .slice (some ⟨g, o, none⟩) n cc, .func (.func 22) #[] #[.pointer (some ⟨E.ob, 0, none⟩)], undef, undef, undef, undef, undef, u 10, u 11, u 12, v13, .int .u64 (n : Nat), u 15, v16, v17, v18, u 19, u 20, u 21, u 22, .slice (some ⟨g, o, none⟩) n cc, .int .i64 (n : Nat), .int .u64 (n : Nat), u 26, u 27, u 28, u 29, u 30, u 31, u 32, u 33, u 34, u 35, u 36, u 37, u 38, u 39, u 40, u 41, u 42, u 43, u 44, u 45, u 46, u 47, u 48, u 49, u 50, u 51, u 52, u 53, u 54, u 55, u 56, u 57, u 58, u 59, u 60, u 61, u 62, u 63, u 64, u 65, u 66, u 67, u 68, u 69, u 70, u 71, u 72, u 73, u 74, u 75, u 76, u 77, u 78, u 79, u 80, u 81, u 82, u 83, u 84, u 85, u 86, u 87, u 88, u 89, u 90, u 91, u 92, u 93, u 94, u 95, u 96, u 97, u 98, u 99, u 100, u 101, u 102, u 103, u 104, u 105, u 106, u 107, u 108, u 109, u 110, u 111, u 112, u 113, u 114, u 115, u 116, u 117, u 118, u 119, u 120, u 121, u 122, u 123, u 124, u 125, u 126, u 127, u 128, u 129, u 130, u 131, u 132, u 133, u 134, u 135, u 136, u 137, u 138, u 139, u 140, u 141, u 142, u 143, u 144, u 145, u 146, u 147, u 148, u 149, u 150, u 151, u 152, u 153, u 154, u 155, u 156, u 157, u 158, u 159, u 160, u 161, u 162, u 163, u 164, u 165, u 166, u 167, u 168, u 169, u 170, u 171, u 172, u 173, u 174, u 175, u 176, u 177, u 178, u 179, u 180, u 181, u 182, u 183, u 184, u 185, u 186, u 187, u 188, u 189, u 190, u 191, u 192, u 193, u 194, u 195, u 196, u 197, u 198, u 199, u 200, u 201, u 202, u 203, u 204, u 205, u 206, u 207, u 208, u 209, u 210, u 211, u 212, u 213, u 214, u 215, u 216, u 217, u 218, u 219, u 220, u 221, u 222, u 223, u 224, u 225, u 226, u 227, u 228, u 229, u 230, u 231, u 232, u 233, u 234, u 235, u 236, u 237, u 238, u 239, u 240, u 241, u 242, u 243, u 244, u 245, u 246, u 247, u 248, u 249, u 250, u 251, u 252, u 253, u 254, u 255, u 256, u 257, u 258, u 259, u 260, u 261, u 262, u 263, u 264, u 265, u 266, u 267, u 268, u 269, u 270, u 271, u 272, u 273, u 274, u 275, u 276, u 277, u 278, u 279, u 280, u 281, u 282, u 283, u 284, u 285, u 286, u 287, u 288, u 289, u 290, u 291, u 292, u 293, u 294, u 295, u 296, u 297, u 298, u 299, u 300, u 301], []⟩
/-- The frame, whatever its letters hold. -/
def FrameIs (E : Env) (g o n cc : Nat) (v13 v16 v17 v18 : Value) (a : Act) : Prop := ∃ u, a = FrameL E g o n cc v13 v16 v17 v18 u
theorem FrameIs.mk' {E : Env} {g o n cc : Nat} {v13 v16 v17 v18 : Value} (a : Act) (h : a = FrameL E g o n cc v13 v16 v17 v18 (fun i => a.tmps.getD i undef)) : FrameIs E g o n cc v13 v16 v17 v18 a := ⟨_, h⟩
def FrameAny (E : Env) (g o n cc : Nat) (v13 : Value) (a : Act) : Prop := ∃ v16 v17 v18, FrameIs E g o n cc v13 v16 v17 v18 a
theorem FrameAny.mk' {E : Env} {g o n cc : Nat} (v13 : Value) (a : Act) (h : a = FrameL E g o n cc v13 (a.tmps.getD 16 undef) (a.tmps.getD 17 undef) (a.tmps.getD 18 undef) (fun i => a.tmps.getD i undef)) : FrameAny E g o n cc v13 a := ⟨_, _, _, _, h⟩
theorem FrameIs.any {E : Env} {g o n cc : Nat} {v13 v16 v17 v18 : Value} {a : Act} (h : FrameIs E g o n cc v13 v16 v17 v18 a) : FrameAny E g o n cc v13 a := ⟨_, _, _, h⟩
end Go.Proofs.YtbldebfjgccadaaDoor
