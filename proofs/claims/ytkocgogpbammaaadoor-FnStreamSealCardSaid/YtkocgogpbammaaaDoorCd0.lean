/- Frames of xorKeyStreamBlocksGeneric, slot by slot, and the pieces of its code. Conditions: none. (Printed by wip/gencd.py.) -/
import Derived.Test.YtkocgogpbammaaaDoorCi
import Derived.Deep.QuietTactic
import Derived.BigQuiet
set_option linter.unusedVariables false
set_option linter.unusedSimpArgs false
namespace Go.Proofs.YtkocgogpbammaaaDoor
open Go.RowKit

def sl (a : Act) (i : Nat) : Value := a.tmps.getD i undef
/-- A frame of which the first 43 slots are known. -/
structure Fr (a : Act) (L : List Value) : Prop where
  size : a.tmps.size = 495
  defers : a.defers = []
  vals : (List.range 43).map (sl a) = L
theorem arr_sl (t : Array Value) (n : Nat) (h : t.size = n) (d : List (Unit)) : t = ((List.range n).map fun i => t.getD i undef).toArray := by
  apply Array.ext
  · simp [h]
  · intro i h1 h2
    simp [h1]
theorem fr_all (a : Act) (h1 : a.tmps.size = 495) (h2 : a.defers = []) : a = ⟨((List.range 495).map (sl a)).toArray, []⟩ := by
  have h := arr_sl a.tmps 495 h1 []
  cases a
  simp only at h h2
  subst h2
  congr 1
theorem fr_split (a : Act) (h1 : a.tmps.size = 495) (h2 : a.defers = []) : a = ⟨((List.range 43).map (sl a) ++ (List.range' 43 452).map (sl a)).toArray, []⟩ := by
  have e : List.range 43 ++ List.range' 43 452 = List.range 495 := by kernel_rfl
  rw [← List.map_append, e]
  exact fr_all a h1 h2
set_option maxRecDepth 1000000 in
theorem frLit (a : Act) (v0 v1 v2 v3 v4 v5 v6 v7 v8 v9 v10 v11 v12 v13 v14 v15 v16 v17 v18 v19 v20 v21 v22 v23 v24 v25 v26 v27 v28 v29 v30 v31 v32 v33 v34 v35 v36 v37 v38 v39 v40 v41 v42 : Value) (h : Fr a [v0, v1, v2, v3, v4, v5, v6, v7, v8, v9, v10, v11, v12, v13, v14, v15, v16, v17, v18, v19, v20, v21, v22, v23, v24, v25, v26, v27, v28, v29, v30, v31, v32, v33, v34, v35, v36, v37, v38, v39, v40, v41, v42]) : a = ⟨#[v0, v1, v2, v3, v4, v5, v6, v7, v8, v9, v10, v11, v12, v13, v14, v15, v16, v17, v18, v19, v20, v21, v22, v23, v24, v25, v26, v27, v28, v29, v30, v31, v32, v33, v34, v35, v36, v37, v38, v39, v40, v41, v42, sl a 43, sl a 44, sl a 45, sl a 46, sl a 47, sl a 48, sl a 49, sl a 50, sl a 51, sl a 52, sl a 53, sl a 54, sl a 55, sl a 56, sl a 57, sl a 58, sl a 59, sl a 60, sl a 61, sl a 62, sl a 63, sl a 64, sl a 65, sl a 66, sl a 67, sl a 68, sl a 69, sl a 70, sl a 71, sl a 72, sl a 73, sl a 74, sl a 75, sl a 76, sl a 77, sl a 78, sl a 79, sl a 80, sl a 81, sl a 82, sl a 83, sl a 84, sl a 85, sl a 86, sl a 87, sl a 88, sl a 89, sl a 90, sl a 91, sl a 92, sl a 93, sl a 94, sl a 95, sl a 96, sl a 97, sl a 98, sl a 99, sl a 100, sl a 101, sl a 102, sl a 103, sl a 104, sl a 105, sl a 106, sl a 107, sl a 108, sl a 109, sl a 110, sl a 111, sl a 112, sl a 113, sl a 114, sl a 115, sl a 116, sl a 117, sl a 118, sl a 119, sl a 120, sl a 121, sl a 122, sl a 123, sl a 124, sl a 125, sl a 126, sl a 127, sl a 128, sl a 129, sl a 130, sl a 131, sl a 132, sl a 133, sl a 134, sl a 135, sl a 136, sl a 137, sl a 138, sl a 139, sl a 140, sl a 141, sl a 142, sl a 143, sl a 144, sl a 145, sl a 146, sl a 147, sl a 148, sl a 149, sl a 150, sl a 151, sl a 152, sl a 153, sl a 154, sl a 155, sl a 156, sl a 157, sl a 158, sl a 159, sl a 160, sl a 161, sl a 162, sl a 163, sl a 164, sl a 165, sl a 166, sl a 167, sl a 168, sl a 169, sl a 170, sl a 171, sl a 172, sl a 173, sl a 174, sl a 175, sl a 176, sl a 177, sl a 178, sl a 179, sl a 180, sl a 181, sl a 182, sl a 183, sl a 184, sl a 185, sl a 186, sl a 187, sl a 188, sl a 189, sl a 190, sl a 191, sl a 192, sl a 193, sl a 194, sl a 195, sl a 196, sl a 197, sl a 198, sl a 199, sl a 200, sl a 201, sl a 202, sl a 203, sl a 204, sl a 205, sl a 206, sl a 207, sl a 208, sl a 209, sl a 210, sl a 211, sl a 212, sl a 213, sl a 214, sl a 215, sl a 216, sl a 217, sl a 218, sl a 219, sl a 220, sl a 221, sl a 222, sl a 223, sl a 224, sl a 225, sl a 226, sl a 227, sl a 228, sl a 229, sl a 230, sl a 231, sl a 232, sl a 233, sl a 234, sl a 235, sl a 236, sl a 237, sl a 238, sl a 239, sl a 240, sl a 241, sl a 242, sl a 243, sl a 244, sl a 245, sl a 246, sl a 247, sl a 248, sl a 249, sl a 250, sl a 251, sl a 252, sl a 253, sl a 254, sl a 255, sl a 256, sl a 257, sl a 258, sl a 259, sl a 260, sl a 261, sl a 262, sl a 263, sl a 264, sl a 265, sl a 266, sl a 267, sl a 268, sl a 269, sl a 270, sl a 271, sl a 272, sl a 273, sl a 274, sl a 275, sl a 276, sl a 277, sl a 278, sl a 279, sl a 280, sl a 281, sl a 282, sl a 283, sl a 284, sl a 285, sl a 286, sl a 287, sl a 288, sl a 289, sl a 290, sl a 291, sl a 292, sl a 293, sl a 294, sl a 295, sl a 296, sl a 297, sl a 298, sl a 299, sl a 300, sl a 301, sl a 302, sl a 303, sl a 304, sl a 305, sl a 306, sl a 307, sl a 308, sl a 309, sl a 310, sl a 311, sl a 312, sl a 313, sl a 314, sl a 315, sl a 316, sl a 317, sl a 318, sl a 319, sl a 320, sl a 321, sl a 322, sl a 323, sl a 324, sl a 325, sl a 326, sl a 327, sl a 328, sl a 329, sl a 330, sl a 331, sl a 332, sl a 333, sl a 334, sl a 335, sl a 336, sl a 337, sl a 338, sl a 339, sl a 340, sl a 341, sl a 342, sl a 343, sl a 344, sl a 345, sl a 346, sl a 347, sl a 348, sl a 349, sl a 350, sl a 351, sl a 352, sl a 353, sl a 354, sl a 355, sl a 356, sl a 357, sl a 358, sl a 359, sl a 360, sl a 361, sl a 362, sl a 363, sl a 364, sl a 365, sl a 366, sl a 367, sl a 368, sl a 369, sl a 370, sl a 371, sl a 372, sl a 373, sl a 374, sl a 375, sl a 376, sl a 377, sl a 378, sl a 379, sl a 380, sl a 381, sl a 382, sl a 383, sl a 384, sl a 385, sl a 386, sl a 387, sl a 388, sl a 389, sl a 390, sl a 391, sl a 392, sl a 393, sl a 394, sl a 395, sl a 396, sl a 397, sl a 398, sl a 399, sl a 400, sl a 401, sl a 402, sl a 403, sl a 404, sl a 405, sl a 406, sl a 407, sl a 408, sl a 409, sl a 410, sl a 411, sl a 412, sl a 413, sl a 414, sl a 415, sl a 416, sl a 417, sl a 418, sl a 419, sl a 420, sl a 421, sl a 422, sl a 423, sl a 424, sl a 425, sl a 426, sl a 427, sl a 428, sl a 429, sl a 430, sl a 431, sl a 432, sl a 433, sl a 434, sl a 435, sl a 436, sl a 437, sl a 438, sl a 439, sl a 440, sl a 441, sl a 442, sl a 443, sl a 444, sl a 445, sl a 446, sl a 447, sl a 448, sl a 449, sl a 450, sl a 451, sl a 452, sl a 453, sl a 454, sl a 455, sl a 456, sl a 457, sl a 458, sl a 459, sl a 460, sl a 461, sl a 462, sl a 463, sl a 464, sl a 465, sl a 466, sl a 467, sl a 468, sl a 469, sl a 470, sl a 471, sl a 472, sl a 473, sl a 474, sl a 475, sl a 476, sl a 477, sl a 478, sl a 479, sl a 480, sl a 481, sl a 482, sl a 483, sl a 484, sl a 485, sl a 486, sl a 487, sl a 488, sl a 489, sl a 490, sl a 491, sl a 492, sl a 493, sl a 494], []⟩ := by
  have e := fr_split a h.size h.defers
  rw [h.vals] at e
  exact e.trans (by kernel_rfl)

def lft : Code → Code
  | .seq a _ => a
  | c => c
def rgt : Code → Code
  | .seq _ b => b
  | c => c
def inB : Code → Code
  | .block _ c => c
  | c => c
def inL : Code → Code
  | .loop c => c
  | c => c
def rgtN : Nat → Code → Code
  | 0, c => c
  | n + 1, c => rgtN n (rgt c)
noncomputable def C70 : Code := (Tryd.f70.body).getD .skip
/-- The loop's body. -/
noncomputable def L70 : Code := inL (inB (rgtN 8 C70))
/-- What a round does. -/
noncomputable def B70 : Code := inB (rgt L70)
def twoS (gc g : Nat) : Nat → Prop := fun k => k = gc ∨ k = g
theorem addXorA (w : World) (g o ad c c2 m : Nat) (t : TypeId) (pre post : List Value) (l : List UInt8) (f : Nat → UInt8) (a b : Nat) (ha : a < 4294967296) (hb : b < 4294967296) (had : ad = o + m) (hp : pre.length = o) (hm : m + 4 ≤ l.length)
    (hf : ∀ j, j < 4 → f (m + j) = UInt8.ofNat ((a + b) % 4294967296 / 256 ^ j)) (hA : Arr w g t (pre ++ u8s (XM f m l) ++ post)) :
    Calls Tryd.prog 77 #[.slice (some ⟨g, ad, none⟩) 4 c, .slice (some ⟨g, ad, none⟩) 4 c2, .int .u32 (a : Int), .int .u32 (b : Int)] w fun e w' => e = .returned (.tuple #[]) ∧
      Arr w' g t (pre ++ u8s (XM f (m + 4) l) ++ post) ∧ w.grownBy w' (some g) := by
  subst had
  exact addXorS w g o c c2 m t pre post l f a b ha hb hp hm hf hA
/-- The ten rounds: what begins them, the loop's body, what a round does. -/
noncomputable def T70 : Code := lft (rgtN 5 B70)
noncomputable def U70 : Code := inL (inB (rgt T70))
noncomputable def Q70 : Code := inB (lft (rgt U70))
theorem b70_at (n : Nat) (h : rgtN n B70 = .seq (lft (rgtN n B70)) (rgtN (n + 1) B70)) : True := trivial
end Go.Proofs.YtkocgogpbammaaaDoor
