/-
  THE WALK of the guard of lengths of the counting law (laws_root_b1.go): it answers some bool; where it is true, the lengths are small.
-/
import Derived.Test.Qxb6601521aBytes8
namespace Go.Proofs.Qxb6601521a
open Go.RowKit
set_option linter.unusedVariables false

set_option maxRecDepth 100000 in
theorem frameA {l : Array Value} {v1 v7 v8 : Value} (h : l.size = 410) (h1 : l[1]? = some v1) (h7 : l[7]? = some v7) (h8 : l[8]? = some v8) : ∃ f : Nat → Value, l = #[f 0, v1, f 2, f 3, f 4, f 5, f 6, v7, v8, f 9, f 10, f 11, f 12, f 13, f 14, f 15, f 16, f 17, f 18, f 19, f 20, f 21, f 22, f 23, f 24, f 25, f 26, f 27, f 28, f 29, f 30, f 31, f 32, f 33, f 34, f 35, f 36, f 37, f 38, f 39, f 40, f 41, f 42, f 43, f 44, f 45, f 46, f 47, f 48, f 49, f 50, f 51, f 52, f 53, f 54, f 55, f 56, f 57, f 58, f 59, f 60, f 61, f 62, f 63, f 64, f 65, f 66, f 67, f 68, f 69, f 70, f 71, f 72, f 73, f 74, f 75, f 76, f 77, f 78, f 79, f 80, f 81, f 82, f 83, f 84, f 85, f 86, f 87, f 88, f 89, f 90, f 91, f 92, f 93, f 94, f 95, f 96, f 97, f 98, f 99, f 100, f 101, f 102, f 103, f 104, f 105, f 106, f 107, f 108, f 109, f 110, f 111, f 112, f 113, f 114, f 115, f 116, f 117, f 118, f 119, f 120, f 121, f 122, f 123, f 124, f 125, f 126, f 127, f 128, f 129, f 130, f 131, f 132, f 133, f 134, f 135, f 136, f 137, f 138, f 139, f 140, f 141, f 142, f 143, f 144, f 145, f 146, f 147, f 148, f 149, f 150, f 151, f 152, f 153, f 154, f 155, f 156, f 157, f 158, f 159, f 160, f 161, f 162, f 163, f 164, f 165, f 166, f 167, f 168, f 169, f 170, f 171, f 172, f 173, f 174, f 175, f 176, f 177, f 178, f 179, f 180, f 181, f 182, f 183, f 184, f 185, f 186, f 187, f 188, f 189, f 190, f 191, f 192, f 193, f 194, f 195, f 196, f 197, f 198, f 199, f 200, f 201, f 202, f 203, f 204, f 205, f 206, f 207, f 208, f 209, f 210, f 211, f 212, f 213, f 214, f 215, f 216, f 217, f 218, f 219, f 220, f 221, f 222, f 223, f 224, f 225, f 226, f 227, f 228, f 229, f 230, f 231, f 232, f 233, f 234, f 235, f 236, f 237, f 238, f 239, f 240, f 241, f 242, f 243, f 244, f 245, f 246, f 247, f 248, f 249, f 250, f 251, f 252, f 253, f 254, f 255, f 256, f 257, f 258, f 259, f 260, f 261, f 262, f 263, f 264, f 265, f 266, f 267, f 268, f 269, f 270, f 271, f 272, f 273, f 274, f 275, f 276, f 277, f 278, f 279, f 280, f 281, f 282, f 283, f 284, f 285, f 286, f 287, f 288, f 289, f 290, f 291, f 292, f 293, f 294, f 295, f 296, f 297, f 298, f 299, f 300, f 301, f 302, f 303, f 304, f 305, f 306, f 307, f 308, f 309, f 310, f 311, f 312, f 313, f 314, f 315, f 316, f 317, f 318, f 319, f 320, f 321, f 322, f 323, f 324, f 325, f 326, f 327, f 328, f 329, f 330, f 331, f 332, f 333, f 334, f 335, f 336, f 337, f 338, f 339, f 340, f 341, f 342, f 343, f 344, f 345, f 346, f 347, f 348, f 349, f 350, f 351, f 352, f 353, f 354, f 355, f 356, f 357, f 358, f 359, f 360, f 361, f 362, f 363, f 364, f 365, f 366, f 367, f 368, f 369, f 370, f 371, f 372, f 373, f 374, f 375, f 376, f 377, f 378, f 379, f 380, f 381, f 382, f 383, f 384, f 385, f 386, f 387, f 388, f 389, f 390, f 391, f 392, f 393, f 394, f 395, f 396, f 397, f 398, f 399, f 400, f 401, f 402, f 403, f 404, f 405, f 406, f 407, f 408, f 409] := by
  obtain ⟨f, hf, he⟩ := frame_list h
  refine ⟨f, ?_⟩
  rw [← he 1 _ h1, ← he 7 _ h7, ← he 8 _ h8]
  exact hf
set_option maxRecDepth 100000 in
theorem frameB {l : Array Value} {v1 v7 v8 v9 : Value} (h : l.size = 410) (h1 : l[1]? = some v1) (h7 : l[7]? = some v7) (h8 : l[8]? = some v8) (h9 : l[9]? = some v9) : ∃ f : Nat → Value, l = #[f 0, v1, f 2, f 3, f 4, f 5, f 6, v7, v8, v9, f 10, f 11, f 12, f 13, f 14, f 15, f 16, f 17, f 18, f 19, f 20, f 21, f 22, f 23, f 24, f 25, f 26, f 27, f 28, f 29, f 30, f 31, f 32, f 33, f 34, f 35, f 36, f 37, f 38, f 39, f 40, f 41, f 42, f 43, f 44, f 45, f 46, f 47, f 48, f 49, f 50, f 51, f 52, f 53, f 54, f 55, f 56, f 57, f 58, f 59, f 60, f 61, f 62, f 63, f 64, f 65, f 66, f 67, f 68, f 69, f 70, f 71, f 72, f 73, f 74, f 75, f 76, f 77, f 78, f 79, f 80, f 81, f 82, f 83, f 84, f 85, f 86, f 87, f 88, f 89, f 90, f 91, f 92, f 93, f 94, f 95, f 96, f 97, f 98, f 99, f 100, f 101, f 102, f 103, f 104, f 105, f 106, f 107, f 108, f 109, f 110, f 111, f 112, f 113, f 114, f 115, f 116, f 117, f 118, f 119, f 120, f 121, f 122, f 123, f 124, f 125, f 126, f 127, f 128, f 129, f 130, f 131, f 132, f 133, f 134, f 135, f 136, f 137, f 138, f 139, f 140, f 141, f 142, f 143, f 144, f 145, f 146, f 147, f 148, f 149, f 150, f 151, f 152, f 153, f 154, f 155, f 156, f 157, f 158, f 159, f 160, f 161, f 162, f 163, f 164, f 165, f 166, f 167, f 168, f 169, f 170, f 171, f 172, f 173, f 174, f 175, f 176, f 177, f 178, f 179, f 180, f 181, f 182, f 183, f 184, f 185, f 186, f 187, f 188, f 189, f 190, f 191, f 192, f 193, f 194, f 195, f 196, f 197, f 198, f 199, f 200, f 201, f 202, f 203, f 204, f 205, f 206, f 207, f 208, f 209, f 210, f 211, f 212, f 213, f 214, f 215, f 216, f 217, f 218, f 219, f 220, f 221, f 222, f 223, f 224, f 225, f 226, f 227, f 228, f 229, f 230, f 231, f 232, f 233, f 234, f 235, f 236, f 237, f 238, f 239, f 240, f 241, f 242, f 243, f 244, f 245, f 246, f 247, f 248, f 249, f 250, f 251, f 252, f 253, f 254, f 255, f 256, f 257, f 258, f 259, f 260, f 261, f 262, f 263, f 264, f 265, f 266, f 267, f 268, f 269, f 270, f 271, f 272, f 273, f 274, f 275, f 276, f 277, f 278, f 279, f 280, f 281, f 282, f 283, f 284, f 285, f 286, f 287, f 288, f 289, f 290, f 291, f 292, f 293, f 294, f 295, f 296, f 297, f 298, f 299, f 300, f 301, f 302, f 303, f 304, f 305, f 306, f 307, f 308, f 309, f 310, f 311, f 312, f 313, f 314, f 315, f 316, f 317, f 318, f 319, f 320, f 321, f 322, f 323, f 324, f 325, f 326, f 327, f 328, f 329, f 330, f 331, f 332, f 333, f 334, f 335, f 336, f 337, f 338, f 339, f 340, f 341, f 342, f 343, f 344, f 345, f 346, f 347, f 348, f 349, f 350, f 351, f 352, f 353, f 354, f 355, f 356, f 357, f 358, f 359, f 360, f 361, f 362, f 363, f 364, f 365, f 366, f 367, f 368, f 369, f 370, f 371, f 372, f 373, f 374, f 375, f 376, f 377, f 378, f 379, f 380, f 381, f 382, f 383, f 384, f 385, f 386, f 387, f 388, f 389, f 390, f 391, f 392, f 393, f 394, f 395, f 396, f 397, f 398, f 399, f 400, f 401, f 402, f 403, f 404, f 405, f 406, f 407, f 408, f 409] := by
  obtain ⟨f, hf, he⟩ := frame_list h
  refine ⟨f, ?_⟩
  rw [← he 1 _ h1, ← he 7 _ h7, ← he 8 _ h8, ← he 9 _ h9]
  exact hf
set_option maxRecDepth 100000 in
theorem frameC {l : Array Value} {v1 v7 v8 v10 : Value} (h : l.size = 410) (h1 : l[1]? = some v1) (h7 : l[7]? = some v7) (h8 : l[8]? = some v8) (h10 : l[10]? = some v10) : ∃ f : Nat → Value, l = #[f 0, v1, f 2, f 3, f 4, f 5, f 6, v7, v8, f 9, v10, f 11, f 12, f 13, f 14, f 15, f 16, f 17, f 18, f 19, f 20, f 21, f 22, f 23, f 24, f 25, f 26, f 27, f 28, f 29, f 30, f 31, f 32, f 33, f 34, f 35, f 36, f 37, f 38, f 39, f 40, f 41, f 42, f 43, f 44, f 45, f 46, f 47, f 48, f 49, f 50, f 51, f 52, f 53, f 54, f 55, f 56, f 57, f 58, f 59, f 60, f 61, f 62, f 63, f 64, f 65, f 66, f 67, f 68, f 69, f 70, f 71, f 72, f 73, f 74, f 75, f 76, f 77, f 78, f 79, f 80, f 81, f 82, f 83, f 84, f 85, f 86, f 87, f 88, f 89, f 90, f 91, f 92, f 93, f 94, f 95, f 96, f 97, f 98, f 99, f 100, f 101, f 102, f 103, f 104, f 105, f 106, f 107, f 108, f 109, f 110, f 111, f 112, f 113, f 114, f 115, f 116, f 117, f 118, f 119, f 120, f 121, f 122, f 123, f 124, f 125, f 126, f 127, f 128, f 129, f 130, f 131, f 132, f 133, f 134, f 135, f 136, f 137, f 138, f 139, f 140, f 141, f 142, f 143, f 144, f 145, f 146, f 147, f 148, f 149, f 150, f 151, f 152, f 153, f 154, f 155, f 156, f 157, f 158, f 159, f 160, f 161, f 162, f 163, f 164, f 165, f 166, f 167, f 168, f 169, f 170, f 171, f 172, f 173, f 174, f 175, f 176, f 177, f 178, f 179, f 180, f 181, f 182, f 183, f 184, f 185, f 186, f 187, f 188, f 189, f 190, f 191, f 192, f 193, f 194, f 195, f 196, f 197, f 198, f 199, f 200, f 201, f 202, f 203, f 204, f 205, f 206, f 207, f 208, f 209, f 210, f 211, f 212, f 213, f 214, f 215, f 216, f 217, f 218, f 219, f 220, f 221, f 222, f 223, f 224, f 225, f 226, f 227, f 228, f 229, f 230, f 231, f 232, f 233, f 234, f 235, f 236, f 237, f 238, f 239, f 240, f 241, f 242, f 243, f 244, f 245, f 246, f 247, f 248, f 249, f 250, f 251, f 252, f 253, f 254, f 255, f 256, f 257, f 258, f 259, f 260, f 261, f 262, f 263, f 264, f 265, f 266, f 267, f 268, f 269, f 270, f 271, f 272, f 273, f 274, f 275, f 276, f 277, f 278, f 279, f 280, f 281, f 282, f 283, f 284, f 285, f 286, f 287, f 288, f 289, f 290, f 291, f 292, f 293, f 294, f 295, f 296, f 297, f 298, f 299, f 300, f 301, f 302, f 303, f 304, f 305, f 306, f 307, f 308, f 309, f 310, f 311, f 312, f 313, f 314, f 315, f 316, f 317, f 318, f 319, f 320, f 321, f 322, f 323, f 324, f 325, f 326, f 327, f 328, f 329, f 330, f 331, f 332, f 333, f 334, f 335, f 336, f 337, f 338, f 339, f 340, f 341, f 342, f 343, f 344, f 345, f 346, f 347, f 348, f 349, f 350, f 351, f 352, f 353, f 354, f 355, f 356, f 357, f 358, f 359, f 360, f 361, f 362, f 363, f 364, f 365, f 366, f 367, f 368, f 369, f 370, f 371, f 372, f 373, f 374, f 375, f 376, f 377, f 378, f 379, f 380, f 381, f 382, f 383, f 384, f 385, f 386, f 387, f 388, f 389, f 390, f 391, f 392, f 393, f 394, f 395, f 396, f 397, f 398, f 399, f 400, f 401, f 402, f 403, f 404, f 405, f 406, f 407, f 408, f 409] := by
  obtain ⟨f, hf, he⟩ := frame_list h
  refine ⟨f, ?_⟩
  rw [← he 1 _ h1, ← he 7 _ h7, ← he 8 _ h8, ← he 10 _ h10]
  exact hf
set_option maxRecDepth 100000 in
theorem frameD {l : Array Value} {v1 v7 v8 v11 : Value} (h : l.size = 410) (h1 : l[1]? = some v1) (h7 : l[7]? = some v7) (h8 : l[8]? = some v8) (h11 : l[11]? = some v11) : ∃ f : Nat → Value, l = #[f 0, v1, f 2, f 3, f 4, f 5, f 6, v7, v8, f 9, f 10, v11, f 12, f 13, f 14, f 15, f 16, f 17, f 18, f 19, f 20, f 21, f 22, f 23, f 24, f 25, f 26, f 27, f 28, f 29, f 30, f 31, f 32, f 33, f 34, f 35, f 36, f 37, f 38, f 39, f 40, f 41, f 42, f 43, f 44, f 45, f 46, f 47, f 48, f 49, f 50, f 51, f 52, f 53, f 54, f 55, f 56, f 57, f 58, f 59, f 60, f 61, f 62, f 63, f 64, f 65, f 66, f 67, f 68, f 69, f 70, f 71, f 72, f 73, f 74, f 75, f 76, f 77, f 78, f 79, f 80, f 81, f 82, f 83, f 84, f 85, f 86, f 87, f 88, f 89, f 90, f 91, f 92, f 93, f 94, f 95, f 96, f 97, f 98, f 99, f 100, f 101, f 102, f 103, f 104, f 105, f 106, f 107, f 108, f 109, f 110, f 111, f 112, f 113, f 114, f 115, f 116, f 117, f 118, f 119, f 120, f 121, f 122, f 123, f 124, f 125, f 126, f 127, f 128, f 129, f 130, f 131, f 132, f 133, f 134, f 135, f 136, f 137, f 138, f 139, f 140, f 141, f 142, f 143, f 144, f 145, f 146, f 147, f 148, f 149, f 150, f 151, f 152, f 153, f 154, f 155, f 156, f 157, f 158, f 159, f 160, f 161, f 162, f 163, f 164, f 165, f 166, f 167, f 168, f 169, f 170, f 171, f 172, f 173, f 174, f 175, f 176, f 177, f 178, f 179, f 180, f 181, f 182, f 183, f 184, f 185, f 186, f 187, f 188, f 189, f 190, f 191, f 192, f 193, f 194, f 195, f 196, f 197, f 198, f 199, f 200, f 201, f 202, f 203, f 204, f 205, f 206, f 207, f 208, f 209, f 210, f 211, f 212, f 213, f 214, f 215, f 216, f 217, f 218, f 219, f 220, f 221, f 222, f 223, f 224, f 225, f 226, f 227, f 228, f 229, f 230, f 231, f 232, f 233, f 234, f 235, f 236, f 237, f 238, f 239, f 240, f 241, f 242, f 243, f 244, f 245, f 246, f 247, f 248, f 249, f 250, f 251, f 252, f 253, f 254, f 255, f 256, f 257, f 258, f 259, f 260, f 261, f 262, f 263, f 264, f 265, f 266, f 267, f 268, f 269, f 270, f 271, f 272, f 273, f 274, f 275, f 276, f 277, f 278, f 279, f 280, f 281, f 282, f 283, f 284, f 285, f 286, f 287, f 288, f 289, f 290, f 291, f 292, f 293, f 294, f 295, f 296, f 297, f 298, f 299, f 300, f 301, f 302, f 303, f 304, f 305, f 306, f 307, f 308, f 309, f 310, f 311, f 312, f 313, f 314, f 315, f 316, f 317, f 318, f 319, f 320, f 321, f 322, f 323, f 324, f 325, f 326, f 327, f 328, f 329, f 330, f 331, f 332, f 333, f 334, f 335, f 336, f 337, f 338, f 339, f 340, f 341, f 342, f 343, f 344, f 345, f 346, f 347, f 348, f 349, f 350, f 351, f 352, f 353, f 354, f 355, f 356, f 357, f 358, f 359, f 360, f 361, f 362, f 363, f 364, f 365, f 366, f 367, f 368, f 369, f 370, f 371, f 372, f 373, f 374, f 375, f 376, f 377, f 378, f 379, f 380, f 381, f 382, f 383, f 384, f 385, f 386, f 387, f 388, f 389, f 390, f 391, f 392, f 393, f 394, f 395, f 396, f 397, f 398, f 399, f 400, f 401, f 402, f 403, f 404, f 405, f 406, f 407, f 408, f 409] := by
  obtain ⟨f, hf, he⟩ := frame_list h
  refine ⟨f, ?_⟩
  rw [← he 1 _ h1, ← he 7 _ h7, ← he 8 _ h8, ← he 11 _ h11]
  exact hf

set_option maxRecDepth 100000 in
set_option maxHeartbeats 40000000 in
theorem bytes22_any (a0 : Option Addr) (n0 c0 : Nat) (a : Option Addr) (n cap : Nat) (M : Nat → Msg) (i0 : Int) (hn0 : n0 ≤ 9223372036854775807) (hn : n ≤ 9223372036854775807) (hM : ∀ i, Sized (M i)) (w : World) (h : MIn w a n cap M) :
    Calls Try.prog 22 #[.slice a0 n0 c0, .slice a n cap, .int .i64 i0] w fun e w' => AnyBool e w w' (n0 ≤ 1048576 ∧ Small n M) := by
  have HI : Hid (MIn w a n cap M ∧ ∀ i, Sized (M i)) := ⟨h, hM⟩
  clear h hM
  · go_enter Try.func22, Try.ntmps22
    go_wp2
    all_goals (try (go_ret; exact anyNo rfl rfl))
    have hbig : n0 + n ≤ 1048576 := by omega
    refine wp_loop_ghost_k (fun g a' w' => ∃ (l : Array Value) (k m : Nat), a' = ⟨l, []⟩ ∧ l.size = 410 ∧ l[1]? = some (.slice a n cap) ∧ l[7]? = some (.int .i64 m) ∧ l[8]? = some (.int .i64 k) ∧ g = n - k ∧ k ≤ n ∧ m ≤ 1048576 ∧ (∀ r, r < k → (M r).cn ≤ 1048576 ∧ (M r).tn ≤ 1048576 ∧ (M r).pn ≤ 1048576) ∧ w = w') n ⟨_, 0, n0 + n, rfl, rfl, rfl, (by exact congrArg some (by go_num)), rfl, by omega, by omega, by omega, (fun r hr => by omega), rfl⟩ ?_
    rintro gk _ w' ⟨l, k, m, rfl, hsz, h0, h5, h6, hg, hk, hm, hsm, hw⟩ J K hJ hK
    subst hw
    obtain ⟨f, rfl⟩ := frameA hsz h0 h5 h6
    clear hsz h0 h5 h6
    have HG : Hid (gk = n - k) := hg
    have HSM : Hid (∀ r, r < k → (M r).cn ≤ 1048576 ∧ (M r).tn ≤ 1048576 ∧ (M r).pn ≤ 1048576) := hsm
    clear hsm hg
    by_cases hlt : k < n
    · obtain ⟨b, off, rfl, hb, hl⟩ := min_some HI.out.1 (by omega)
      have HF0 : Fields w ⟨b, off, none⟩ k (M k) := hl k hlt
      have hs := HI.out.2 k
      clear hl
      obtain ⟨mm, hmm⟩ : ∃ mm, mm = M k := ⟨_, rfl⟩
      have HMM : Hid (mm = M k) := hmm
      rw [← hmm] at HF0 hs
      clear hmm
      have HF : Hid (Fields w ⟨b, off, none⟩ k mm) := HF0
      have q0 := HF0.f0
      have q1 := HF0.f1
      have q2 := HF0.f2
      have q3 := HF0.f3
      have q5 := HF0.f5
      have q6 := HF0.f6
      have q7 := HF0.f7
      clear HF0
      rw [Addr.add_lit] at q0 q1 q2 q3 q5 q6 q7
      rw [← Nat.add_assoc] at q1 q2 q3 q5 q6 q7
      have s0 := hs.role
      have s1 := hs.content
      have s2 := hs.cn
      have s3 := hs.id
      have s5 := hs.tn
      have s6 := hs.pn
      have s7 := hs.prov
      go_wp2
      all_goals (try (go_ret; exact anyNo rfl rfl))
      refine wp_loop_ghost_k (fun g a' w' => ∃ (l : Array Value) (j m : Nat), a' = ⟨l, []⟩ ∧ l.size = 410 ∧ l[1]? = some (.slice (some ⟨b, off, none⟩) n cap) ∧ l[7]? = some (.int .i64 m) ∧ l[8]? = some (.int .i64 k) ∧ l[9]? = some (.int .i64 j) ∧ g = mm.cn - j ∧ j ≤ mm.cn ∧ m ≤ 1048576 ∧ w = w') mm.cn ⟨_, 0, m + mm.role.size + mm.content.size + mm.cn, rfl, rfl, rfl, (by exact congrArg some (by go_num)), rfl, rfl, by omega, by omega, by omega, rfl⟩ ?_
      rintro gkc _ w' ⟨l, j, mc, rfl, hsz, h0, h5, h6, hj7, hg, hj, hmc, hw⟩ Jc Kc hJc hKc
      subst hw
      obtain ⟨f, rfl⟩ := frameB hsz h0 h5 h6 hj7
      clear hsz h0 h5 h6 hj7
      have HGc : Hid (gkc = mm.cn - j) := hg
      clear hg
      by_cases hltj : j < mm.cn
      · obtain ⟨cb, coff, hca, hcb, hcl⟩ := sin_some HF.out.calls (by omega) (by omega)
        have q2' := q2
        rw [hca] at q2'
        clear q2 hca
        have g0 := hcl j hltj 0 (by omega)
        have z0 := hs.cs j 0
        rw [Nat.add_zero] at g0
        have g1 := hcl j hltj 1 (by omega)
        have z1 := hs.cs j 1
        rw [← Nat.add_assoc] at g1
        have g2 := hcl j hltj 2 (by omega)
        have z2 := hs.cs j 2
        rw [← Nat.add_assoc] at g2
        have g3 := hcl j hltj 3 (by omega)
        have z3 := hs.cs j 3
        rw [← Nat.add_assoc] at g3
        clear hcl hs
        go_wp2
        all_goals (try (go_ret; exact anyNo rfl rfl))
        refine Handed.intro (mm.cn - (j + 1)) (by have := HGc.out; omega) (hJc _ _ _ ⟨_, j + 1, mc + (mm.cs j 0).size + (mm.cs j 1).size + (mm.cs j 2).size + (mm.cs j 3).size, rfl, rfl, rfl, congrArg some (by go_num), rfl, congrArg some (by go_num), rfl, by omega, by omega, rfl⟩)
      · go_wp2
        all_goals (try (go_ret; exact anyNo rfl rfl))
        refine wp_loop_ghost_k (fun g a' w' => ∃ (l : Array Value) (j m : Nat), a' = ⟨l, []⟩ ∧ l.size = 410 ∧ l[1]? = some (.slice (some ⟨b, off, none⟩) n cap) ∧ l[7]? = some (.int .i64 m) ∧ l[8]? = some (.int .i64 k) ∧ l[10]? = some (.int .i64 j) ∧ g = mm.tn - j ∧ j ≤ mm.tn ∧ m ≤ 1048576 ∧ w = w') mm.tn ⟨_, 0, mc + mm.id.size + mm.tn, rfl, rfl, rfl, (by exact congrArg some (by go_num)), rfl, rfl, by omega, by omega, by omega, rfl⟩ ?_
        rintro gkt _ w' ⟨l, j, mt, rfl, hsz, h0, h5, h6, hj7, hg, hj, hmt, hw⟩ Jt Kt hJt hKt
        subst hw
        obtain ⟨f, rfl⟩ := frameC hsz h0 h5 h6 hj7
        clear hsz h0 h5 h6 hj7
        have HGt : Hid (gkt = mm.tn - j) := hg
        clear hg
        by_cases hltj : j < mm.tn
        · obtain ⟨cb, coff, hca, hcb, hcl⟩ := sin_some HF.out.think (by omega) (by omega)
          have q5' := q5
          rw [hca] at q5'
          clear q5 hca
          have g0 := hcl j hltj 0 (by omega)
          have z0 := hs.ts j 0
          rw [Nat.add_zero] at g0
          have g1 := hcl j hltj 1 (by omega)
          have z1 := hs.ts j 1
          rw [← Nat.add_assoc] at g1
          have g2 := hcl j hltj 2 (by omega)
          have z2 := hs.ts j 2
          rw [← Nat.add_assoc] at g2
          clear hcl hs
          go_wp2
          all_goals (try (go_ret; exact anyNo rfl rfl))
          refine Handed.intro (mm.tn - (j + 1)) (by have := HGt.out; omega) (hJt _ _ _ ⟨_, j + 1, mt + (mm.ts j 0).size + (mm.ts j 1).size + (mm.ts j 2).size, rfl, rfl, rfl, congrArg some (by go_num), rfl, congrArg some (by go_num), rfl, by omega, by omega, rfl⟩)
        · go_wp2
          all_goals (try (go_ret; exact anyNo rfl rfl))
          refine wp_loop_ghost_k (fun g a' w' => ∃ (l : Array Value) (j m : Nat), a' = ⟨l, []⟩ ∧ l.size = 410 ∧ l[1]? = some (.slice (some ⟨b, off, none⟩) n cap) ∧ l[7]? = some (.int .i64 m) ∧ l[8]? = some (.int .i64 k) ∧ l[11]? = some (.int .i64 j) ∧ g = mm.pn - j ∧ j ≤ mm.pn ∧ m ≤ 1048576 ∧ w = w') mm.pn ⟨_, 0, mt + mm.pn, rfl, rfl, rfl, (by exact congrArg some (by go_num)), rfl, rfl, by omega, by omega, by omega, rfl⟩ ?_
          rintro gkp _ w' ⟨l, j, mp, rfl, hsz, h0, h5, h6, hj7, hg, hj, hmp, hw⟩ Jp Kp hJp hKp
          subst hw
          obtain ⟨f, rfl⟩ := frameD hsz h0 h5 h6 hj7
          clear hsz h0 h5 h6 hj7
          have HGp : Hid (gkp = mm.pn - j) := hg
          clear hg
          by_cases hltj : j < mm.pn
          · obtain ⟨cb, coff, hca, hcb, hcl⟩ := sin_some HF.out.parts (by omega) (by omega)
            have q6' := q6
            rw [hca] at q6'
            clear q6 hca
            have g0 := hcl j hltj 0 (by omega)
            have z0 := hs.ps j 0
            rw [Nat.add_zero] at g0
            have g1 := hcl j hltj 1 (by omega)
            have z1 := hs.ps j 1
            rw [← Nat.add_assoc] at g1
            clear hcl hs
            go_wp2
            all_goals (try (go_ret; exact anyNo rfl rfl))
            refine Handed.intro (mm.pn - (j + 1)) (by have := HGp.out; omega) (hJp _ _ _ ⟨_, j + 1, mp + (mm.ps j 0).size + (mm.ps j 1).size, rfl, rfl, rfl, congrArg some (by go_num), rfl, congrArg some (by go_num), rfl, by omega, by omega, rfl⟩)
          · go_wp2
            all_goals (try (go_ret; exact anyNo rfl rfl))
            refine Handed.intro (n - (k + 1)) (by have := HG.out; omega) (hJ _ _ _ ⟨_, k + 1, mp + mm.prov.size, rfl, rfl, rfl, congrArg some (by go_num), congrArg some (by go_num), rfl, by omega, by omega, (fun r hr => by
              rcases Nat.lt_or_ge r k with h | h
              · exact HSM.out r h
              · have : r = k := by omega
                subst this
                rw [← HMM.out]
                omega), rfl⟩)
    · go_wp2
      go_ret
      exact anyYes rfl rfl ⟨by omega, by omega, fun r hr => HSM.out r (by omega)⟩

end Go.Proofs.Qxb6601521a
