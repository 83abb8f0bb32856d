/-
  Frames by slots; pieces of code by their place; the trie in memory.
-/
import Derived.Test.Qxb6000411aIndex
namespace Go.Proofs.Qxb6000411a
open Go.RowKit Go.Maps Pl

/-! ### pieces of code -/
def cl : Code → Code
  | .seq a _ => a
  | c => c
def cr : Code → Code
  | .seq _ b => b
  | c => c
def ci : Code → Code
  | .block _ c => c
  | .loop c => c
  | .scope c => c
  | c => c
def ct : Code → Code
  | .cond _ a _ => a
  | c => c
def ce : Code → Code
  | .cond _ _ b => b
  | c => c
def bodyOf (f : Func) : Code := f.body.getD .skip

/-! ### a frame by its slots -/
def sl (a : Act) (i : Nat) : Value := a.tmps.getD i undef
structure Fr (n : Nat) (a : Act) : Prop where
  size : a.tmps.size = n
  defers : a.defers = []
theorem fr_any {n : Nat} {a : Act} (h : Fr n a) : a = ⟨((List.range n).map (sl a)).toArray, []⟩ := by
  obtain ⟨tmps, defers⟩ := a
  obtain ⟨h1, h2⟩ := h
  simp only at h1 h2
  subst h1 h2
  congr 1
  apply Array.ext
  · simp
  · intro i h1 h2
    simp [sl, h1]
set_option maxRecDepth 100000 in
theorem fr285 {a : Act} (h : Fr 285 a) : a = ⟨#[sl a 0, sl a 1, sl a 2, sl a 3, sl a 4, sl a 5, sl a 6, sl a 7, sl a 8, sl a 9, sl a 10, sl a 11, sl a 12, sl a 13, sl a 14, sl a 15, sl a 16, sl a 17, sl a 18, sl a 19, sl a 20, sl a 21, sl a 22, sl a 23, sl a 24, sl a 25, sl a 26, sl a 27, sl a 28, sl a 29, sl a 30, sl a 31, sl a 32, sl a 33, sl a 34, sl a 35, sl a 36, sl a 37, sl a 38, sl a 39, sl a 40, sl a 41, sl a 42, sl a 43, sl a 44, sl a 45, sl a 46, sl a 47, sl a 48, sl a 49, sl a 50, sl a 51, sl a 52, sl a 53, sl a 54, sl a 55, sl a 56, sl a 57, sl a 58, sl a 59, sl a 60, sl a 61, sl a 62, sl a 63, sl a 64, sl a 65, sl a 66, sl a 67, sl a 68, sl a 69, sl a 70, sl a 71, sl a 72, sl a 73, sl a 74, sl a 75, sl a 76, sl a 77, sl a 78, sl a 79, sl a 80, sl a 81, sl a 82, sl a 83, sl a 84, sl a 85, sl a 86, sl a 87, sl a 88, sl a 89, sl a 90, sl a 91, sl a 92, sl a 93, sl a 94, sl a 95, sl a 96, sl a 97, sl a 98, sl a 99, sl a 100, sl a 101, sl a 102, sl a 103, sl a 104, sl a 105, sl a 106, sl a 107, sl a 108, sl a 109, sl a 110, sl a 111, sl a 112, sl a 113, sl a 114, sl a 115, sl a 116, sl a 117, sl a 118, sl a 119, sl a 120, sl a 121, sl a 122, sl a 123, sl a 124, sl a 125, sl a 126, sl a 127, sl a 128, sl a 129, sl a 130, sl a 131, sl a 132, sl a 133, sl a 134, sl a 135, sl a 136, sl a 137, sl a 138, sl a 139, sl a 140, sl a 141, sl a 142, sl a 143, sl a 144, sl a 145, sl a 146, sl a 147, sl a 148, sl a 149, sl a 150, sl a 151, sl a 152, sl a 153, sl a 154, sl a 155, sl a 156, sl a 157, sl a 158, sl a 159, sl a 160, sl a 161, sl a 162, sl a 163, sl a 164, sl a 165, sl a 166, sl a 167, sl a 168, sl a 169, sl a 170, sl a 171, sl a 172, sl a 173, sl a 174, sl a 175, sl a 176, sl a 177, sl a 178, sl a 179, sl a 180, sl a 181, sl a 182, sl a 183, sl a 184, sl a 185, sl a 186, sl a 187, sl a 188, sl a 189, sl a 190, sl a 191, sl a 192, sl a 193, sl a 194, sl a 195, sl a 196, sl a 197, sl a 198, sl a 199, sl a 200, sl a 201, sl a 202, sl a 203, sl a 204, sl a 205, sl a 206, sl a 207, sl a 208, sl a 209, sl a 210, sl a 211, sl a 212, sl a 213, sl a 214, sl a 215, sl a 216, sl a 217, sl a 218, sl a 219, sl a 220, sl a 221, sl a 222, sl a 223, sl a 224, sl a 225, sl a 226, sl a 227, sl a 228, sl a 229, sl a 230, sl a 231, sl a 232, sl a 233, sl a 234, sl a 235, sl a 236, sl a 237, sl a 238, sl a 239, sl a 240, sl a 241, sl a 242, sl a 243, sl a 244, sl a 245, sl a 246, sl a 247, sl a 248, sl a 249, sl a 250, sl a 251, sl a 252, sl a 253, sl a 254, sl a 255, sl a 256, sl a 257, sl a 258, sl a 259, sl a 260, sl a 261, sl a 262, sl a 263, sl a 264, sl a 265, sl a 266, sl a 267, sl a 268, sl a 269, sl a 270, sl a 271, sl a 272, sl a 273, sl a 274, sl a 275, sl a 276, sl a 277, sl a 278, sl a 279, sl a 280, sl a 281, sl a 282, sl a 283, sl a 284], []⟩ := fr_any h
end Go.Proofs.Qxb6000411a
