/-
  The frame of LawS5408CWhole (function 3) with its named slots (0 to 51); the ways into its body; a loop that counts up.
-/
import Derived.Test.YbulkdgzaReset
import Derived.Deep.LoopGhost
namespace Go.Proofs.Ybulkdgza
open Go.RowKit B
set_option linter.unusedVariables false
set_option linter.unusedSimpArgs false

/-- A way into a code: 0 left, 1 right, 2 inside, 3 then, 4 else. -/
def nav : List Nat → Code → Code
  | 0 :: l, .seq a _ => nav l a
  | 1 :: l, .seq _ b => nav l b
  | 2 :: l, .block _ c => nav l c
  | 2 :: l, .loop c => nav l c
  | 3 :: l, .cond _ a _ => nav l a
  | 4 :: l, .cond _ _ b => nav l b
  | _, c => c
theorem range_map (arr : Array Value) : arr = ((List.range arr.size).map (fun k => arr.getD k undef)).toArray := by
  apply Array.ext
  · simp
  · intro i h1 h2; simp [h1]

set_option maxRecDepth 100000 in
theorem range528 (t : Nat → Value) : ((List.range 528).map t).toArray = #[t 0, t 1, t 2, t 3, t 4, t 5, t 6, t 7, t 8, t 9, t 10, t 11, t 12, t 13, t 14, t 15, t 16, t 17, t 18, t 19, t 20, t 21, t 22, t 23, t 24, t 25, t 26, t 27, t 28, t 29, t 30, t 31, t 32, t 33, t 34, t 35, t 36, t 37, t 38, t 39, t 40, t 41, t 42, t 43, t 44, t 45, t 46, t 47, t 48, t 49, t 50, t 51, t 52, t 53, t 54, t 55, t 56, t 57, t 58, t 59, t 60, t 61, t 62, t 63, t 64, t 65, t 66, t 67, t 68, t 69, t 70, t 71, t 72, t 73, t 74, t 75, t 76, t 77, t 78, t 79, t 80, t 81, t 82, t 83, t 84, t 85, t 86, t 87, t 88, t 89, t 90, t 91, t 92, t 93, t 94, t 95, t 96, t 97, t 98, t 99, t 100, t 101, t 102, t 103, t 104, t 105, t 106, t 107, t 108, t 109, t 110, t 111, t 112, t 113, t 114, t 115, t 116, t 117, t 118, t 119, t 120, t 121, t 122, t 123, t 124, t 125, t 126, t 127, t 128, t 129, t 130, t 131, t 132, t 133, t 134, t 135, t 136, t 137, t 138, t 139, t 140, t 141, t 142, t 143, t 144, t 145, t 146, t 147, t 148, t 149, t 150, t 151, t 152, t 153, t 154, t 155, t 156, t 157, t 158, t 159, t 160, t 161, t 162, t 163, t 164, t 165, t 166, t 167, t 168, t 169, t 170, t 171, t 172, t 173, t 174, t 175, t 176, t 177, t 178, t 179, t 180, t 181, t 182, t 183, t 184, t 185, t 186, t 187, t 188, t 189, t 190, t 191, t 192, t 193, t 194, t 195, t 196, t 197, t 198, t 199, t 200, t 201, t 202, t 203, t 204, t 205, t 206, t 207, t 208, t 209, t 210, t 211, t 212, t 213, t 214, t 215, t 216, t 217, t 218, t 219, t 220, t 221, t 222, t 223, t 224, t 225, t 226, t 227, t 228, t 229, t 230, t 231, t 232, t 233, t 234, t 235, t 236, t 237, t 238, t 239, t 240, t 241, t 242, t 243, t 244, t 245, t 246, t 247, t 248, t 249, t 250, t 251, t 252, t 253, t 254, t 255, t 256, t 257, t 258, t 259, t 260, t 261, t 262, t 263, t 264, t 265, t 266, t 267, t 268, t 269, t 270, t 271, t 272, t 273, t 274, t 275, t 276, t 277, t 278, t 279, t 280, t 281, t 282, t 283, t 284, t 285, t 286, t 287, t 288, t 289, t 290, t 291, t 292, t 293, t 294, t 295, t 296, t 297, t 298, t 299, t 300, t 301, t 302, t 303, t 304, t 305, t 306, t 307, t 308, t 309, t 310, t 311, t 312, t 313, t 314, t 315, t 316, t 317, t 318, t 319, t 320, t 321, t 322, t 323, t 324, t 325, t 326, t 327, t 328, t 329, t 330, t 331, t 332, t 333, t 334, t 335, t 336, t 337, t 338, t 339, t 340, t 341, t 342, t 343, t 344, t 345, t 346, t 347, t 348, t 349, t 350, t 351, t 352, t 353, t 354, t 355, t 356, t 357, t 358, t 359, t 360, t 361, t 362, t 363, t 364, t 365, t 366, t 367, t 368, t 369, t 370, t 371, t 372, t 373, t 374, t 375, t 376, t 377, t 378, t 379, t 380, t 381, t 382, t 383, t 384, t 385, t 386, t 387, t 388, t 389, t 390, t 391, t 392, t 393, t 394, t 395, t 396, t 397, t 398, t 399, t 400, t 401, t 402, t 403, t 404, t 405, t 406, t 407, t 408, t 409, t 410, t 411, t 412, t 413, t 414, t 415, t 416, t 417, t 418, t 419, t 420, t 421, t 422, t 423, t 424, t 425, t 426, t 427, t 428, t 429, t 430, t 431, t 432, t 433, t 434, t 435, t 436, t 437, t 438, t 439, t 440, t 441, t 442, t 443, t 444, t 445, t 446, t 447, t 448, t 449, t 450, t 451, t 452, t 453, t 454, t 455, t 456, t 457, t 458, t 459, t 460, t 461, t 462, t 463, t 464, t 465, t 466, t 467, t 468, t 469, t 470, t 471, t 472, t 473, t 474, t 475, t 476, t 477, t 478, t 479, t 480, t 481, t 482, t 483, t 484, t 485, t 486, t 487, t 488, t 489, t 490, t 491, t 492, t 493, t 494, t 495, t 496, t 497, t 498, t 499, t 500, t 501, t 502, t 503, t 504, t 505, t 506, t 507, t 508, t 509, t 510, t 511, t 512, t 513, t 514, t 515, t 516, t 517, t 518, t 519, t 520, t 521, t 522, t 523, t 524, t 525, t 526, t 527] := by kernel_rfl
/-- The frame between two statements: the named slots. -/
def Fx (arr : Array Value) (v0 v1 v2 v3 v4 v5 v6 v7 v8 v9 v10 v11 v12 v13 v14 v15 v16 v17 v18 v19 v20 v21 v22 v23 v24 v25 v26 v27 v28 v29 v30 v31 v32 v33 v34 v35 v36 v37 v38 v39 v40 v41 v42 v43 v44 v45 v46 v47 v48 v49 v50 v51 : Value) : Prop :=
  arr.size = 528 ∧ arr.getD 0 undef = v0 ∧ arr.getD 1 undef = v1 ∧ arr.getD 2 undef = v2 ∧ arr.getD 3 undef = v3 ∧ arr.getD 4 undef = v4 ∧ arr.getD 5 undef = v5 ∧ arr.getD 6 undef = v6 ∧ arr.getD 7 undef = v7 ∧ arr.getD 8 undef = v8 ∧ arr.getD 9 undef = v9 ∧ arr.getD 10 undef = v10 ∧ arr.getD 11 undef = v11 ∧ arr.getD 12 undef = v12 ∧ arr.getD 13 undef = v13 ∧ arr.getD 14 undef = v14 ∧ arr.getD 15 undef = v15 ∧ arr.getD 16 undef = v16 ∧ arr.getD 17 undef = v17 ∧ arr.getD 18 undef = v18 ∧ arr.getD 19 undef = v19 ∧ arr.getD 20 undef = v20 ∧ arr.getD 21 undef = v21 ∧ arr.getD 22 undef = v22 ∧ arr.getD 23 undef = v23 ∧ arr.getD 24 undef = v24 ∧ arr.getD 25 undef = v25 ∧ arr.getD 26 undef = v26 ∧ arr.getD 27 undef = v27 ∧ arr.getD 28 undef = v28 ∧ arr.getD 29 undef = v29 ∧ arr.getD 30 undef = v30 ∧ arr.getD 31 undef = v31 ∧ arr.getD 32 undef = v32 ∧ arr.getD 33 undef = v33 ∧ arr.getD 34 undef = v34 ∧ arr.getD 35 undef = v35 ∧ arr.getD 36 undef = v36 ∧ arr.getD 37 undef = v37 ∧ arr.getD 38 undef = v38 ∧ arr.getD 39 undef = v39 ∧ arr.getD 40 undef = v40 ∧ arr.getD 41 undef = v41 ∧ arr.getD 42 undef = v42 ∧ arr.getD 43 undef = v43 ∧ arr.getD 44 undef = v44 ∧ arr.getD 45 undef = v45 ∧ arr.getD 46 undef = v46 ∧ arr.getD 47 undef = v47 ∧ arr.getD 48 undef = v48 ∧ arr.getD 49 undef = v49 ∧ arr.getD 50 undef = v50 ∧ arr.getD 51 undef = v51
theorem Fx.mk {arr : Array Value} {v0 v1 v2 v3 v4 v5 v6 v7 v8 v9 v10 v11 v12 v13 v14 v15 v16 v17 v18 v19 v20 v21 v22 v23 v24 v25 v26 v27 v28 v29 v30 v31 v32 v33 v34 v35 v36 v37 v38 v39 v40 v41 v42 v43 v44 v45 v46 v47 v48 v49 v50 v51 : Value} (h : arr.size = 528) (h0 : arr.getD 0 undef = v0) (h1 : arr.getD 1 undef = v1) (h2 : arr.getD 2 undef = v2) (h3 : arr.getD 3 undef = v3) (h4 : arr.getD 4 undef = v4) (h5 : arr.getD 5 undef = v5) (h6 : arr.getD 6 undef = v6) (h7 : arr.getD 7 undef = v7) (h8 : arr.getD 8 undef = v8) (h9 : arr.getD 9 undef = v9) (h10 : arr.getD 10 undef = v10) (h11 : arr.getD 11 undef = v11) (h12 : arr.getD 12 undef = v12) (h13 : arr.getD 13 undef = v13) (h14 : arr.getD 14 undef = v14) (h15 : arr.getD 15 undef = v15) (h16 : arr.getD 16 undef = v16) (h17 : arr.getD 17 undef = v17) (h18 : arr.getD 18 undef = v18) (h19 : arr.getD 19 undef = v19) (h20 : arr.getD 20 undef = v20) (h21 : arr.getD 21 undef = v21) (h22 : arr.getD 22 undef = v22) (h23 : arr.getD 23 undef = v23) (h24 : arr.getD 24 undef = v24) (h25 : arr.getD 25 undef = v25) (h26 : arr.getD 26 undef = v26) (h27 : arr.getD 27 undef = v27) (h28 : arr.getD 28 undef = v28) (h29 : arr.getD 29 undef = v29) (h30 : arr.getD 30 undef = v30) (h31 : arr.getD 31 undef = v31) (h32 : arr.getD 32 undef = v32) (h33 : arr.getD 33 undef = v33) (h34 : arr.getD 34 undef = v34) (h35 : arr.getD 35 undef = v35) (h36 : arr.getD 36 undef = v36) (h37 : arr.getD 37 undef = v37) (h38 : arr.getD 38 undef = v38) (h39 : arr.getD 39 undef = v39) (h40 : arr.getD 40 undef = v40) (h41 : arr.getD 41 undef = v41) (h42 : arr.getD 42 undef = v42) (h43 : arr.getD 43 undef = v43) (h44 : arr.getD 44 undef = v44) (h45 : arr.getD 45 undef = v45) (h46 : arr.getD 46 undef = v46) (h47 : arr.getD 47 undef = v47) (h48 : arr.getD 48 undef = v48) (h49 : arr.getD 49 undef = v49) (h50 : arr.getD 50 undef = v50) (h51 : arr.getD 51 undef = v51) : Fx arr v0 v1 v2 v3 v4 v5 v6 v7 v8 v9 v10 v11 v12 v13 v14 v15 v16 v17 v18 v19 v20 v21 v22 v23 v24 v25 v26 v27 v28 v29 v30 v31 v32 v33 v34 v35 v36 v37 v38 v39 v40 v41 v42 v43 v44 v45 v46 v47 v48 v49 v50 v51 :=
  ⟨h, h0, h1, h2, h3, h4, h5, h6, h7, h8, h9, h10, h11, h12, h13, h14, h15, h16, h17, h18, h19, h20, h21, h22, h23, h24, h25, h26, h27, h28, h29, h30, h31, h32, h33, h34, h35, h36, h37, h38, h39, h40, h41, h42, h43, h44, h45, h46, h47, h48, h49, h50, h51⟩
set_option maxRecDepth 100000 in
theorem Fx.open {arr : Array Value} {v0 v1 v2 v3 v4 v5 v6 v7 v8 v9 v10 v11 v12 v13 v14 v15 v16 v17 v18 v19 v20 v21 v22 v23 v24 v25 v26 v27 v28 v29 v30 v31 v32 v33 v34 v35 v36 v37 v38 v39 v40 v41 v42 v43 v44 v45 v46 v47 v48 v49 v50 v51 : Value} (h : Fx arr v0 v1 v2 v3 v4 v5 v6 v7 v8 v9 v10 v11 v12 v13 v14 v15 v16 v17 v18 v19 v20 v21 v22 v23 v24 v25 v26 v27 v28 v29 v30 v31 v32 v33 v34 v35 v36 v37 v38 v39 v40 v41 v42 v43 v44 v45 v46 v47 v48 v49 v50 v51) {P : Program} {c : Code} {Q : Exit → Act → World → Prop} {w : World}
    (hw : ∀ t : Nat → Value, c.wp P Q ⟨#[v0, v1, v2, v3, v4, v5, v6, v7, v8, v9, v10, v11, v12, v13, v14, v15, v16, v17, v18, v19, v20, v21, v22, v23, v24, v25, v26, v27, v28, v29, v30, v31, v32, v33, v34, v35, v36, v37, v38, v39, v40, v41, v42, v43, v44, v45, v46, v47, v48, v49, v50, v51, t 52, t 53, t 54, t 55, t 56, t 57, t 58, t 59, t 60, t 61, t 62, t 63, t 64, t 65, t 66, t 67, t 68, t 69, t 70, t 71, t 72, t 73, t 74, t 75, t 76, t 77, t 78, t 79, t 80, t 81, t 82, t 83, t 84, t 85, t 86, t 87, t 88, t 89, t 90, t 91, t 92, t 93, t 94, t 95, t 96, t 97, t 98, t 99, t 100, t 101, t 102, t 103, t 104, t 105, t 106, t 107, t 108, t 109, t 110, t 111, t 112, t 113, t 114, t 115, t 116, t 117, t 118, t 119, t 120, t 121, t 122, t 123, t 124, t 125, t 126, t 127, t 128, t 129, t 130, t 131, t 132, t 133, t 134, t 135, t 136, t 137, t 138, t 139, t 140, t 141, t 142, t 143, t 144, t 145, t 146, t 147, t 148, t 149, t 150, t 151, t 152, t 153, t 154, t 155, t 156, t 157, t 158, t 159, t 160, t 161, t 162, t 163, t 164, t 165, t 166, t 167, t 168, t 169, t 170, t 171, t 172, t 173, t 174, t 175, t 176, t 177, t 178, t 179, t 180, t 181, t 182, t 183, t 184, t 185, t 186, t 187, t 188, t 189, t 190, t 191, t 192, t 193, t 194, t 195, t 196, t 197, t 198, t 199, t 200, t 201, t 202, t 203, t 204, t 205, t 206, t 207, t 208, t 209, t 210, t 211, t 212, t 213, t 214, t 215, t 216, t 217, t 218, t 219, t 220, t 221, t 222, t 223, t 224, t 225, t 226, t 227, t 228, t 229, t 230, t 231, t 232, t 233, t 234, t 235, t 236, t 237, t 238, t 239, t 240, t 241, t 242, t 243, t 244, t 245, t 246, t 247, t 248, t 249, t 250, t 251, t 252, t 253, t 254, t 255, t 256, t 257, t 258, t 259, t 260, t 261, t 262, t 263, t 264, t 265, t 266, t 267, t 268, t 269, t 270, t 271, t 272, t 273, t 274, t 275, t 276, t 277, t 278, t 279, t 280, t 281, t 282, t 283, t 284, t 285, t 286, t 287, t 288, t 289, t 290, t 291, t 292, t 293, t 294, t 295, t 296, t 297, t 298, t 299, t 300, t 301, t 302, t 303, t 304, t 305, t 306, t 307, t 308, t 309, t 310, t 311, t 312, t 313, t 314, t 315, t 316, t 317, t 318, t 319, t 320, t 321, t 322, t 323, t 324, t 325, t 326, t 327, t 328, t 329, t 330, t 331, t 332, t 333, t 334, t 335, t 336, t 337, t 338, t 339, t 340, t 341, t 342, t 343, t 344, t 345, t 346, t 347, t 348, t 349, t 350, t 351, t 352, t 353, t 354, t 355, t 356, t 357, t 358, t 359, t 360, t 361, t 362, t 363, t 364, t 365, t 366, t 367, t 368, t 369, t 370, t 371, t 372, t 373, t 374, t 375, t 376, t 377, t 378, t 379, t 380, t 381, t 382, t 383, t 384, t 385, t 386, t 387, t 388, t 389, t 390, t 391, t 392, t 393, t 394, t 395, t 396, t 397, t 398, t 399, t 400, t 401, t 402, t 403, t 404, t 405, t 406, t 407, t 408, t 409, t 410, t 411, t 412, t 413, t 414, t 415, t 416, t 417, t 418, t 419, t 420, t 421, t 422, t 423, t 424, t 425, t 426, t 427, t 428, t 429, t 430, t 431, t 432, t 433, t 434, t 435, t 436, t 437, t 438, t 439, t 440, t 441, t 442, t 443, t 444, t 445, t 446, t 447, t 448, t 449, t 450, t 451, t 452, t 453, t 454, t 455, t 456, t 457, t 458, t 459, t 460, t 461, t 462, t 463, t 464, t 465, t 466, t 467, t 468, t 469, t 470, t 471, t 472, t 473, t 474, t 475, t 476, t 477, t 478, t 479, t 480, t 481, t 482, t 483, t 484, t 485, t 486, t 487, t 488, t 489, t 490, t 491, t 492, t 493, t 494, t 495, t 496, t 497, t 498, t 499, t 500, t 501, t 502, t 503, t 504, t 505, t 506, t 507, t 508, t 509, t 510, t 511, t 512, t 513, t 514, t 515, t 516, t 517, t 518, t 519, t 520, t 521, t 522, t 523, t 524, t 525, t 526, t 527], []⟩ w) : c.wp P Q ⟨arr, []⟩ w := by
  obtain ⟨hs, h0, h1, h2, h3, h4, h5, h6, h7, h8, h9, h10, h11, h12, h13, h14, h15, h16, h17, h18, h19, h20, h21, h22, h23, h24, h25, h26, h27, h28, h29, h30, h31, h32, h33, h34, h35, h36, h37, h38, h39, h40, h41, h42, h43, h44, h45, h46, h47, h48, h49, h50, h51⟩ := h
  have e : arr = ((List.range 528).map (fun k => arr.getD k undef)).toArray := by rw [← hs]; exact range_map arr
  have hw' := hw (fun k => arr.getD k undef)
  rw [e, range528]
  rw [h0, h1, h2, h3, h4, h5, h6, h7, h8, h9, h10, h11, h12, h13, h14, h15, h16, h17, h18, h19, h20, h21, h22, h23, h24, h25, h26, h27, h28, h29, h30, h31, h32, h33, h34, h35, h36, h37, h38, h39, h40, h41, h42, h43, h44, h45, h46, h47, h48, h49, h50, h51]
  exact hw'

/-- Whatever Q says, but for a panic, which goes out of the function. -/
def Qp (Q : Exit → Act → World → Prop) (R : Ending → World → Prop) : Exit → Act → World → Prop
  | .panic ch, a, w => bodyPost Yba.prog Yba.f3 R (.panic ch) a w
  | e, a, w => Q e a w
theorem wp_last {c : Code} {Q : Exit → Act → World → Prop} {a : Act} {w : World} (h : c.wp Yba.prog (Exit.then (fun a w => Q .normal a w) Q) a w) : c.wp Yba.prog Q a w :=
  Code.wp_mono (fun e a w q => by cases e <;> exact q) h
theorem of_Qp {c : Code} {K : Act → World → Prop} {Q : Exit → Act → World → Prop} {R : Ending → World → Prop} {a : Act} {w : World} (hp : ∀ ch a w, bodyPost Yba.prog Yba.f3 R (.panic ch) a w → Q (.panic ch) a w)
    (h : c.wp Yba.prog (Exit.then K (Qp Q R)) a w) : c.wp Yba.prog (Exit.then K Q) a w :=
  Code.wp_mono (fun e a w q => by
    cases e with
    | panic ch => exact hp ch a w q
    | normal => exact q
    | exit id => exact q
    | goto l => exact q
    | ret => exact q
    | outgrown => exact q) h

/-- One statement after another. -/
theorem seq_Qp {x y : Code} {K : Act → World → Prop} {Q : Exit → Act → World → Prop} {R : Ending → World → Prop} {a : Act} {w : World}
    (h : x.wp Yba.prog (Exit.then (fun a w => y.wp Yba.prog (Exit.then K (Qp Q R)) a w) (Qp Q R)) a w) : (Code.seq x y).wp Yba.prog (Exit.then K (Qp Q R)) a w := by
  refine wp_seq (Code.wp_mono (fun e a w q => ?_) h)
  cases e <;> exact q

theorem block_Qp {b : Nat} {c : Code} {K : Act → World → Prop} {Q : Exit → Act → World → Prop} {R : Ending → World → Prop} {a : Act} {w : World} (h : ∀ Q', c.wp Yba.prog (Exit.then K (Qp Q' R)) a w) : (Code.block b c).wp Yba.prog (Exit.then K (Qp Q R)) a w := by
  refine wp_block (Code.wp_mono (fun e a w q => ?_) (h (Exit.inBlock b (Exit.then K (Qp Q R)))))
  cases e <;> exact q
theorem seq_B {x y : Code} {R : Ending → World → Prop} {a : Act} {w : World} (h : x.wp Yba.prog (Exit.then (fun a w => y.wp Yba.prog (bodyPost Yba.prog Yba.f3 R) a w) (Qp (bodyPost Yba.prog Yba.f3 R) R)) a w) :
    (Code.seq x y).wp Yba.prog (bodyPost Yba.prog Yba.f3 R) a w := wp_seq (of_Qp (fun _ _ _ h => h) h)

/-- A loop of m rounds: what holds ahead of the k-th round. -/
theorem loop_up {b : Nat} {c : Code} {K : Act → World → Prop} {Q : Exit → Act → World → Prop} {R : Ending → World → Prop} {arr : Array Value} {w : World} (m : Nat) (J : Nat → Array Value → World → Prop) (E : Array Value → World → Prop)
    (h0 : J 0 arr w)
    (step : ∀ k arr w (K : Act → World → Prop) (Q : Exit → Act → World → Prop), k < m → J k arr w → (∀ arr' w', J (k + 1) arr' w' → K ⟨arr', []⟩ w') → c.wp Yba.prog (Exit.then K (Qp Q R)) ⟨arr, []⟩ w)
    (last : ∀ arr w (K : Act → World → Prop) (Q : Exit → Act → World → Prop), J m arr w → (∀ arr' w', E arr' w' → Q (.exit b) ⟨arr', []⟩ w') → c.wp Yba.prog (Exit.then K (Qp Q R)) ⟨arr, []⟩ w)
    (HQ : ∀ arr' w', E arr' w' → K ⟨arr', []⟩ w') :
    (Code.block b (.loop c)).wp Yba.prog (Exit.then K (Qp Q R)) ⟨arr, []⟩ w := by
  refine wp_block ?_
  refine wp_loop_ghost (fun g a w => ∃ (arr' : Array Value) (k : Nat), a = ⟨arr', []⟩ ∧ k + g = m ∧ J k arr' w) m ⟨arr, 0, rfl, by omega, h0⟩ ?_
  rintro g a w' ⟨arr', k, rfl, hk, hj⟩
  by_cases hkm : k < m
  · refine of_Qp (R := R) (fun ch a w h => ?_) (step k arr' w' _ _ hkm hj (fun arr2 w2 h2 => ?_))
    · exact h
    · exact ⟨m - (k + 1), by omega, arr2, k + 1, rfl, by omega, h2⟩
  · have e : k = m := by omega
    subst e
    refine of_Qp (R := R) (fun ch a w h => ?_) (last arr' w' _ _ hj (fun arr2 w2 h2 => ?_))
    · exact h
    · show Exit.inBlock b _ (.exit b) _ _
      unfold Exit.inBlock
      simp
      exact HQ arr2 w2 h2


end Go.Proofs.Ybulkdgza
