/-
  Behind the great loop of 'LawS0670AScript': the loops that compare, cut into declarations.
-/
import Derived.Test.YbulkmvuFmtStays
namespace Go.Proofs.YbulkmvuFmt
open Go.RowKit Go.Extern.Stop Go.Stop Go.Extern
set_option linter.unusedVariables false

/-- The loops' bodies, in the text's order. -/
def loops : Code → List Code
  | .loop c => c :: loops c
  | .seq a b => loops a ++ loops b
  | .block _ c => loops c
  | .scope c => loops c
  | .cond _ a b => loops a ++ loops b
  | _ => []

set_option maxRecDepth 1000000 in
/-- Any frame. -/
def frame2 (v : Nat → Value) : Array Value := #[v 0, v 1, v 2, v 3, v 4, v 5, v 6, v 7, v 8, v 9, v 10, v 11, v 12, v 13, v 14, v 15, v 16, v 17, v 18, v 19, v 20, v 21, v 22, v 23, v 24, v 25, v 26, v 27, v 28, v 29, v 30, v 31, v 32, v 33, v 34, v 35, v 36, v 37, v 38, v 39, v 40, v 41, v 42, v 43, v 44, v 45, v 46, v 47, v 48, v 49, v 50, v 51, v 52, v 53, v 54, v 55, v 56, v 57, v 58, v 59, v 60, v 61, v 62, v 63, v 64, v 65, v 66, v 67, v 68, v 69, v 70, v 71, v 72, v 73, v 74, v 75, v 76, v 77, v 78, v 79, v 80, v 81, v 82, v 83, v 84, v 85, v 86, v 87, v 88, v 89, v 90, v 91, v 92, v 93, v 94, v 95, v 96, v 97, v 98, v 99, v 100, v 101, v 102, v 103, v 104, v 105, v 106, v 107, v 108, v 109, v 110, v 111, v 112, v 113, v 114, v 115, v 116, v 117, v 118, v 119, v 120, v 121, v 122, v 123, v 124, v 125, v 126, v 127, v 128, v 129, v 130, v 131, v 132, v 133, v 134, v 135, v 136, v 137, v 138, v 139, v 140, v 141, v 142, v 143, v 144, v 145, v 146, v 147, v 148, v 149, v 150, v 151, v 152, v 153, v 154, v 155, v 156, v 157, v 158, v 159, v 160, v 161, v 162, v 163, v 164, v 165, v 166, v 167, v 168, v 169, v 170, v 171, v 172, v 173, v 174, v 175, v 176, v 177, v 178, v 179, v 180, v 181, v 182, v 183, v 184, v 185, v 186, v 187, v 188, v 189, v 190, v 191, v 192, v 193, v 194, v 195, v 196, v 197, v 198, v 199, v 200, v 201, v 202, v 203, v 204, v 205, v 206, v 207, v 208, v 209, v 210, v 211, v 212, v 213, v 214, v 215, v 216, v 217, v 218, v 219, v 220, v 221, v 222, v 223, v 224, v 225, v 226, v 227, v 228, v 229, v 230, v 231, v 232, v 233, v 234, v 235, v 236, v 237, v 238, v 239, v 240, v 241, v 242, v 243, v 244, v 245, v 246, v 247, v 248, v 249, v 250, v 251, v 252, v 253, v 254, v 255, v 256, v 257, v 258, v 259, v 260, v 261, v 262, v 263, v 264, v 265, v 266, v 267, v 268, v 269, v 270, v 271, v 272, v 273, v 274, v 275, v 276, v 277, v 278, v 279, v 280, v 281, v 282, v 283, v 284, v 285, v 286, v 287, v 288, v 289, v 290, v 291, v 292, v 293, v 294, v 295, v 296, v 297, v 298, v 299, v 300, v 301, v 302, v 303, v 304, v 305, v 306, v 307, v 308, v 309, v 310, v 311, v 312, v 313, v 314, v 315, v 316, v 317, v 318, v 319, v 320, v 321, v 322, v 323, v 324, v 325, v 326, v 327, v 328, v 329, v 330, v 331, v 332, v 333, v 334, v 335, v 336, v 337, v 338, v 339, v 340, v 341, v 342, v 343, v 344, v 345, v 346, v 347, v 348, v 349, v 350, v 351, v 352, v 353, v 354, v 355, v 356, v 357, v 358, v 359, v 360, v 361, v 362, v 363, v 364, v 365, v 366, v 367, v 368, v 369, v 370, v 371, v 372, v 373, v 374, v 375, v 376, v 377, v 378, v 379, v 380, v 381, v 382, v 383, v 384, v 385, v 386, v 387, v 388, v 389, v 390, v 391, v 392, v 393, v 394, v 395, v 396, v 397, v 398, v 399, v 400, v 401, v 402, v 403, v 404, v 405, v 406, v 407, v 408, v 409, v 410, v 411, v 412, v 413, v 414, v 415, v 416, v 417, v 418, v 419, v 420, v 421, v 422, v 423, v 424, v 425, v 426, v 427, v 428, v 429, v 430, v 431, v 432, v 433, v 434, v 435, v 436, v 437, v 438, v 439, v 440, v 441, v 442, v 443, v 444, v 445, v 446, v 447, v 448, v 449, v 450, v 451, v 452, v 453, v 454, v 455, v 456, v 457, v 458, v 459, v 460, v 461, v 462, v 463, v 464, v 465, v 466, v 467, v 468, v 469, v 470, v 471, v 472, v 473, v 474, v 475, v 476, v 477, v 478, v 479, v 480, v 481, v 482, v 483, v 484, v 485, v 486, v 487, v 488, v 489, v 490, v 491, v 492, v 493, v 494, v 495, v 496, v 497, v 498, v 499, v 500, v 501, v 502, v 503, v 504, v 505, v 506, v 507, v 508, v 509, v 510, v 511, v 512, v 513, v 514, v 515, v 516, v 517, v 518, v 519, v 520, v 521, v 522, v 523, v 524, v 525, v 526, v 527, v 528, v 529, v 530, v 531, v 532, v 533, v 534, v 535, v 536, v 537, v 538, v 539, v 540, v 541, v 542, v 543, v 544, v 545, v 546, v 547, v 548, v 549, v 550, v 551, v 552]

theorem in_frame2 {I : Nat → (Nat → Value) → World → Prop} {arr : Array Value} {w : World} (j : Nat) (h : arr = frame2 (fun i => arr.getD i undef)) (hI : I j (fun i => arr.getD i undef) w) : ∃ (j : Nat) (v : Nat → Value), (⟨arr, []⟩ : Act) = ⟨frame2 v, []⟩ ∧ I j v w :=
  ⟨j, _, by rw [← h], hI⟩

theorem wp_code_eq {P : Program} {c c' : Code} {Q : Exit → Act → World → Prop} {a : Act} {w : World} (h : c = c') (hw : c'.wp P Q a w) : c.wp P Q a w := h ▸ hw

/-- The measure by a slot. -/
def muAt (s n : Nat) (a : Act) (_ : World) : Nat := n - (intOf (a.tmps.getD s undef)).toNat
theorem muAt_less {s : Nat} {arr : Array Value} {n j : Nat} (wx : World) (h : arr.getD s undef = .int .i64 ((j : Int) + 1)) (hj : j < n) : muAt s n ⟨arr, []⟩ wx < n - j := by
  show n - (intOf (arr.getD s undef)).toNat < n - j
  rw [h]
  show n - ((j : Int) + 1).toNat < n - j
  omega
theorem muAt_is {s n j : Nat} {a : Act} (wx : World) (h : a.tmps.getD s undef = .int .i64 (j : Int)) : muAt s n a wx = n - j := by
  show n - (intOf (a.tmps.getD s undef)).toNat = n - j
  rw [h]
  rfl

/-- What the loops behind read: the slots that they do not write. -/
def Sl (B : Nat) (V : List Nat → Value) (v : Nat → Value) : Prop :=
  v 3 = .pointer (some ⟨B, 0, none⟩) ∧ v 4 = V [4] ∧ v 5 = V [7] ∧ v 6 = V [10] ∧ v 7 = V [11]

theorem to_frame2 {Φ : Act → Prop} {arr : Array Value} (h : arr = frame2 (fun i => arr.getD i undef)) (hf : Φ ⟨frame2 (fun i => arr.getD i undef), []⟩) : Φ ⟨arr, []⟩ := by
  rw [← h] at hf
  exact hf
end Go.Proofs.YbulkmvuFmt
