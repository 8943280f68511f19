/-
  Lemmas and contracts of this claim, texts LetB3. No statement of the seat is proved here.
-/
import Derived.Test.YtngofbhlhcalpaaGreatDoorZ19
namespace Go.Proofs.YtngofbhlhcalpaaGreatDoor.lexer
open Go.RowKit Go.Proofs.YtngofbhlhcalpaaGreatDoor.gen

set_option maxRecDepth 100000 in
set_option maxHeartbeats 16000000 in
theorem let_R82_on
    (lb fb : Nat) (fp s : ByteArray) (x : LX) (np : Bool) (P : Option (Nat × Bool × Bool)) (U V : Nat → Value) (w : World) (k m : Nat) (b r : Bool) (H : LCtx lb fb fp s x np P w) (HB : PreAt s x.p k b r P)
    (d : UInt8) (hb : byt s ((x.p : Int) + (k : Int)) = nn d) (hsuf : suf s (x.p + k) = d :: suf s (x.p + k + 1)) (hlt4 : x.p + k < s.size) (hk : k < 3) (hd : nn d = 82) (hf : r = false) :
    Code.wp Tryz.prog lBody (LPost lb fb fp s x np P U w k) ⟨#[.pointer (some ⟨lb, 0, none⟩), .bool np, U 2, U 3, U 4, U 5, U 6, .bool b, .bool r, .int .i64 k, U 10, U 11, U 12, U 13, U 14, U 15, U 16, U 17, U 18, U 19, U 20, U 21, U 22, U 23, U 24, U 25, U 26, U 27, U 28, U 29, U 30, U 31, U 32, U 33, U 34, U 35, U 36, U 37, U 38, U 39, U 40, U 41, U 42, U 43, U 44, U 45, U 46, U 47, U 48, U 49, U 50, U 51, U 52, U 53, U 54, U 55, U 56, U 57, U 58, U 59, U 60, U 61, U 62, U 63, U 64, U 65, U 66, U 67, U 68, U 69, U 70, U 71, U 72, U 73, U 74, U 75, U 76, U 77, U 78, U 79, U 80, U 81, U 82, U 83, U 84, U 85, U 86, U 87, U 88, U 89, U 90, U 91, U 92, U 93, U 94, U 95, U 96, U 97, U 98, U 99, U 100, U 101, U 102, U 103, U 104, U 105, U 106, U 107, U 108, U 109, U 110, U 111, U 112, U 113, U 114, U 115, U 116, U 117, U 118, U 119, U 120, U 121, U 122, U 123, U 124, U 125, U 126, U 127, U 128, U 129, U 130, U 131, U 132, U 133, U 134, U 135, U 136, U 137, U 138, U 139, U 140, U 141, U 142, U 143, U 144, U 145, U 146, U 147, U 148, U 149, U 150, U 151, U 152, U 153, U 154, U 155, U 156, U 157, U 158, U 159, U 160, U 161, U 162, U 163, U 164, U 165, U 166, U 167, U 168, U 169, U 170, U 171, U 172, U 173, U 174, U 175, U 176, U 177, U 178, U 179, U 180, U 181, U 182, U 183, U 184, U 185, U 186, U 187, U 188, U 189, U 190, U 191, U 192, U 193, U 194, U 195, U 196, U 197, U 198, U 199, U 200, U 201, U 202, U 203, U 204, U 205, U 206, U 207, U 208, U 209, U 210, U 211, U 212, U 213, U 214, U 215, U 216, U 217, U 218, U 219, U 220, U 221, U 222, U 223, U 224, U 225, U 226, U 227, U 228, U 229, U 230, U 231, U 232, U 233, U 234, U 235, U 236, U 237, U 238, U 239, U 240, U 241, U 242, U 243, U 244, U 245, U 246, U 247, U 248, U 249, U 250, U 251, U 252, U 253, U 254, U 255, U 256, U 257, U 258, U 259, U 260, U 261, U 262, U 263, U 264, U 265, U 266, U 267, U 268, U 269, U 270, U 271, U 272, U 273, U 274, U 275, U 276, U 277, U 278, U 279, U 280, U 281, U 282, U 283, U 284, U 285, U 286, U 287, U 288, U 289, U 290, U 291, U 292, U 293, U 294, U 295, U 296, U 297, U 298, U 299, U 300, U 301, U 302, U 303, U 304, U 305, U 306, U 307, U 308, U 309, U 310, U 311, U 312, U 313, U 314, U 315, U 316, U 317, U 318, U 319, U 320, U 321, U 322, U 323, U 324, U 325, U 326, U 327, U 328, U 329, U 330, U 331, U 332, U 333, U 334, U 335, U 336, U 337, U 338, U 339, U 340, U 341, U 342, U 343, U 344, U 345, U 346, U 347, V 348, V 349, V 350, V 351, V 352, V 353, V 354, V 355, V 356, V 357, V 358, V 359, V 360, V 361, V 362, V 363, V 364, V 365, V 366, V 367, V 368, V 369, V 370, V 371, V 372, V 373, V 374, V 375, V 376, V 377, V 378, V 379, V 380, V 381, V 382, V 383, V 384, V 385, V 386, V 387, V 388, V 389, V 390, V 391, V 392, V 393, V 394, V 395, V 396, V 397, V 398, V 399, V 400, V 401, V 402, V 403, V 404, V 405, V 406, V 407, V 408, V 409, V 410, V 411, V 412, V 413, V 414, V 415, U 416, U 417, U 418, U 419, U 420, U 421, U 422, U 423, U 424, U 425, U 426, U 427, U 428, U 429, U 430, U 431, U 432, U 433, U 434, U 435, U 436, U 437, U 438, U 439, U 440, U 441, U 442, U 443, U 444, U 445, U 446, U 447, U 448, U 449, U 450, U 451, U 452, U 453, U 454, U 455, U 456, U 457, U 458, U 459, U 460, U 461, U 462, U 463], []⟩ (w.drewN m) := by
  have hR := H.st.rd
  have hsz := H.st.sz
  have hk3 := HB.1
  have hpk := HB.2.1
  have HH := Lib.hid H
  have HA := Lib.hid HB
  clear H HB
  conv => arg 2; whnf
  have hbd := nn_bd d
  have hlt5 : (x.p : Int) + (k : Int) < s.size := by omega
  subst hf
  have HB2 := Lib.hid (HA.out.on hk hsuf hlt4 (fun f t => pre_r f b d t (by omega)))
  clear hsuf
  rw [hd] at hb
  clear hd hbd
  cases b
  all_goals
    go_wp2_with (first | (go_at_call 67; first | ((with_reducible refine (peekOk_yes _ _ _ _ _ _ (hR.drewN _) ?_).mono ?_); omega; rintro e w' ⟨rfl, nq, rfl⟩) | ((with_reducible refine (peekOk_yes _ _ _ _ _ _ hR ?_).mono ?_); omega; rintro e w' ⟨rfl, nq, rfl⟩) | ((with_reducible refine (peekOk_no _ _ _ _ _ _ (hR.drewN _) ?_).mono ?_); omega; rintro e w' ⟨rfl, nq, rfl⟩) | ((with_reducible refine (peekOk_no _ _ _ _ _ _ hR ?_).mono ?_); omega; rintro e w' ⟨rfl, nq, rfl⟩)) | (go_at_call 65; first | ((with_reducible refine (peekIs_yes _ _ _ _ _ _ _ (hR.drewN _) ?_).mono ?_); omega; rintro e w' ⟨rfl, nq, rfl⟩) | ((with_reducible refine (peekIs_yes _ _ _ _ _ _ _ hR ?_).mono ?_); omega; rintro e w' ⟨rfl, nq, rfl⟩) | ((with_reducible refine (peekIs_no _ _ _ _ _ _ _ (hR.drewN _) ?_).mono ?_); omega; rintro e w' ⟨rfl, nq, rfl⟩) | ((with_reducible refine (peekIs_no _ _ _ _ _ _ _ hR ?_).mono ?_); omega; rintro e w' ⟨rfl, nq, rfl⟩)))
    exact LPost.next HB2.out (by omega) hk ⟨[_, _, _, _, _, _, _, _, _, _, _, _, _, _, _, _, _, _, _, _, _, _, _, _, _, _, _, _, _, _, _, _, _, _, _, _, _, _, _, _, _, _, _, _, _, _, _, _, _, _, _, _, _, _, _, _, _, _, _, _, _, _, _, _, _, _, _, _], rfl, rfl⟩

set_option maxRecDepth 100000 in
set_option maxHeartbeats 16000000 in
theorem let_R82_no
    (lb fb : Nat) (fp s : ByteArray) (x : LX) (np : Bool) (P : Option (Nat × Bool × Bool)) (U V : Nat → Value) (w : World) (k m : Nat) (b r : Bool) (H : LCtx lb fb fp s x np P w) (HB : PreAt s x.p k b r P)
    (d : UInt8) (hb : byt s ((x.p : Int) + (k : Int)) = nn d) (hsuf : suf s (x.p + k) = d :: suf s (x.p + k + 1)) (hlt4 : x.p + k < s.size) (hk : k < 3) (hd : nn d = 82) (hf : r = true) :
    Code.wp Tryz.prog lBody (LPost lb fb fp s x np P U w k) ⟨#[.pointer (some ⟨lb, 0, none⟩), .bool np, U 2, U 3, U 4, U 5, U 6, .bool b, .bool r, .int .i64 k, U 10, U 11, U 12, U 13, U 14, U 15, U 16, U 17, U 18, U 19, U 20, U 21, U 22, U 23, U 24, U 25, U 26, U 27, U 28, U 29, U 30, U 31, U 32, U 33, U 34, U 35, U 36, U 37, U 38, U 39, U 40, U 41, U 42, U 43, U 44, U 45, U 46, U 47, U 48, U 49, U 50, U 51, U 52, U 53, U 54, U 55, U 56, U 57, U 58, U 59, U 60, U 61, U 62, U 63, U 64, U 65, U 66, U 67, U 68, U 69, U 70, U 71, U 72, U 73, U 74, U 75, U 76, U 77, U 78, U 79, U 80, U 81, U 82, U 83, U 84, U 85, U 86, U 87, U 88, U 89, U 90, U 91, U 92, U 93, U 94, U 95, U 96, U 97, U 98, U 99, U 100, U 101, U 102, U 103, U 104, U 105, U 106, U 107, U 108, U 109, U 110, U 111, U 112, U 113, U 114, U 115, U 116, U 117, U 118, U 119, U 120, U 121, U 122, U 123, U 124, U 125, U 126, U 127, U 128, U 129, U 130, U 131, U 132, U 133, U 134, U 135, U 136, U 137, U 138, U 139, U 140, U 141, U 142, U 143, U 144, U 145, U 146, U 147, U 148, U 149, U 150, U 151, U 152, U 153, U 154, U 155, U 156, U 157, U 158, U 159, U 160, U 161, U 162, U 163, U 164, U 165, U 166, U 167, U 168, U 169, U 170, U 171, U 172, U 173, U 174, U 175, U 176, U 177, U 178, U 179, U 180, U 181, U 182, U 183, U 184, U 185, U 186, U 187, U 188, U 189, U 190, U 191, U 192, U 193, U 194, U 195, U 196, U 197, U 198, U 199, U 200, U 201, U 202, U 203, U 204, U 205, U 206, U 207, U 208, U 209, U 210, U 211, U 212, U 213, U 214, U 215, U 216, U 217, U 218, U 219, U 220, U 221, U 222, U 223, U 224, U 225, U 226, U 227, U 228, U 229, U 230, U 231, U 232, U 233, U 234, U 235, U 236, U 237, U 238, U 239, U 240, U 241, U 242, U 243, U 244, U 245, U 246, U 247, U 248, U 249, U 250, U 251, U 252, U 253, U 254, U 255, U 256, U 257, U 258, U 259, U 260, U 261, U 262, U 263, U 264, U 265, U 266, U 267, U 268, U 269, U 270, U 271, U 272, U 273, U 274, U 275, U 276, U 277, U 278, U 279, U 280, U 281, U 282, U 283, U 284, U 285, U 286, U 287, U 288, U 289, U 290, U 291, U 292, U 293, U 294, U 295, U 296, U 297, U 298, U 299, U 300, U 301, U 302, U 303, U 304, U 305, U 306, U 307, U 308, U 309, U 310, U 311, U 312, U 313, U 314, U 315, U 316, U 317, U 318, U 319, U 320, U 321, U 322, U 323, U 324, U 325, U 326, U 327, U 328, U 329, U 330, U 331, U 332, U 333, U 334, U 335, U 336, U 337, U 338, U 339, U 340, U 341, U 342, U 343, U 344, U 345, U 346, U 347, V 348, V 349, V 350, V 351, V 352, V 353, V 354, V 355, V 356, V 357, V 358, V 359, V 360, V 361, V 362, V 363, V 364, V 365, V 366, V 367, V 368, V 369, V 370, V 371, V 372, V 373, V 374, V 375, V 376, V 377, V 378, V 379, V 380, V 381, V 382, V 383, V 384, V 385, V 386, V 387, V 388, V 389, V 390, V 391, V 392, V 393, V 394, V 395, V 396, V 397, V 398, V 399, V 400, V 401, V 402, V 403, V 404, V 405, V 406, V 407, V 408, V 409, V 410, V 411, V 412, V 413, V 414, V 415, U 416, U 417, U 418, U 419, U 420, U 421, U 422, U 423, U 424, U 425, U 426, U 427, U 428, U 429, U 430, U 431, U 432, U 433, U 434, U 435, U 436, U 437, U 438, U 439, U 440, U 441, U 442, U 443, U 444, U 445, U 446, U 447, U 448, U 449, U 450, U 451, U 452, U 453, U 454, U 455, U 456, U 457, U 458, U 459, U 460, U 461, U 462, U 463], []⟩ (w.drewN m) := by
  have hR := H.st.rd
  have hsz := H.st.sz
  have hk3 := HB.1
  have hpk := HB.2.1
  have HH := Lib.hid H
  have HA := Lib.hid HB
  clear H HB
  conv => arg 2; whnf
  have hbd := nn_bd d
  have hlt5 : (x.p : Int) + (k : Int) < s.size := by omega
  subst hf
  have HN := Lib.hid (HA.out.none_ hk hsuf (fun f t => pre_no f b true d t (.inr (by omega)) (.inl rfl) (by omega)))
  clear hsuf
  rw [hd] at hb
  clear hd hbd
  cases b
  all_goals
    go_wp2_with (first | (go_at_call 67; first | ((with_reducible refine (peekOk_yes _ _ _ _ _ _ (hR.drewN _) ?_).mono ?_); omega; rintro e w' ⟨rfl, nq, rfl⟩) | ((with_reducible refine (peekOk_yes _ _ _ _ _ _ hR ?_).mono ?_); omega; rintro e w' ⟨rfl, nq, rfl⟩) | ((with_reducible refine (peekOk_no _ _ _ _ _ _ (hR.drewN _) ?_).mono ?_); omega; rintro e w' ⟨rfl, nq, rfl⟩) | ((with_reducible refine (peekOk_no _ _ _ _ _ _ hR ?_).mono ?_); omega; rintro e w' ⟨rfl, nq, rfl⟩)) | (go_at_call 65; first | ((with_reducible refine (peekIs_yes _ _ _ _ _ _ _ (hR.drewN _) ?_).mono ?_); omega; rintro e w' ⟨rfl, nq, rfl⟩) | ((with_reducible refine (peekIs_yes _ _ _ _ _ _ _ hR ?_).mono ?_); omega; rintro e w' ⟨rfl, nq, rfl⟩) | ((with_reducible refine (peekIs_no _ _ _ _ _ _ _ (hR.drewN _) ?_).mono ?_); omega; rintro e w' ⟨rfl, nq, rfl⟩) | ((with_reducible refine (peekIs_no _ _ _ _ _ _ _ hR ?_).mono ?_); omega; rintro e w' ⟨rfl, nq, rfl⟩)))
    exact LPost.out HN.out ⟨_, _, _, [_, _, _, _, _, _, _, _, _, _, _, _, _, _, _, _, _, _, _, _, _, _, _, _, _, _, _, _, _, _, _, _, _, _, _, _, _, _, _, _, _, _, _, _, _, _, _, _, _, _, _, _, _, _, _, _, _, _, _, _, _, _, _, _, _, _, _, _], rfl, rfl⟩

set_option maxRecDepth 100000 in
set_option maxHeartbeats 16000000 in
theorem let_R114_on
    (lb fb : Nat) (fp s : ByteArray) (x : LX) (np : Bool) (P : Option (Nat × Bool × Bool)) (U V : Nat → Value) (w : World) (k m : Nat) (b r : Bool) (H : LCtx lb fb fp s x np P w) (HB : PreAt s x.p k b r P)
    (d : UInt8) (hb : byt s ((x.p : Int) + (k : Int)) = nn d) (hsuf : suf s (x.p + k) = d :: suf s (x.p + k + 1)) (hlt4 : x.p + k < s.size) (hk : k < 3) (hd : nn d = 114) (hf : r = false) :
    Code.wp Tryz.prog lBody (LPost lb fb fp s x np P U w k) ⟨#[.pointer (some ⟨lb, 0, none⟩), .bool np, U 2, U 3, U 4, U 5, U 6, .bool b, .bool r, .int .i64 k, U 10, U 11, U 12, U 13, U 14, U 15, U 16, U 17, U 18, U 19, U 20, U 21, U 22, U 23, U 24, U 25, U 26, U 27, U 28, U 29, U 30, U 31, U 32, U 33, U 34, U 35, U 36, U 37, U 38, U 39, U 40, U 41, U 42, U 43, U 44, U 45, U 46, U 47, U 48, U 49, U 50, U 51, U 52, U 53, U 54, U 55, U 56, U 57, U 58, U 59, U 60, U 61, U 62, U 63, U 64, U 65, U 66, U 67, U 68, U 69, U 70, U 71, U 72, U 73, U 74, U 75, U 76, U 77, U 78, U 79, U 80, U 81, U 82, U 83, U 84, U 85, U 86, U 87, U 88, U 89, U 90, U 91, U 92, U 93, U 94, U 95, U 96, U 97, U 98, U 99, U 100, U 101, U 102, U 103, U 104, U 105, U 106, U 107, U 108, U 109, U 110, U 111, U 112, U 113, U 114, U 115, U 116, U 117, U 118, U 119, U 120, U 121, U 122, U 123, U 124, U 125, U 126, U 127, U 128, U 129, U 130, U 131, U 132, U 133, U 134, U 135, U 136, U 137, U 138, U 139, U 140, U 141, U 142, U 143, U 144, U 145, U 146, U 147, U 148, U 149, U 150, U 151, U 152, U 153, U 154, U 155, U 156, U 157, U 158, U 159, U 160, U 161, U 162, U 163, U 164, U 165, U 166, U 167, U 168, U 169, U 170, U 171, U 172, U 173, U 174, U 175, U 176, U 177, U 178, U 179, U 180, U 181, U 182, U 183, U 184, U 185, U 186, U 187, U 188, U 189, U 190, U 191, U 192, U 193, U 194, U 195, U 196, U 197, U 198, U 199, U 200, U 201, U 202, U 203, U 204, U 205, U 206, U 207, U 208, U 209, U 210, U 211, U 212, U 213, U 214, U 215, U 216, U 217, U 218, U 219, U 220, U 221, U 222, U 223, U 224, U 225, U 226, U 227, U 228, U 229, U 230, U 231, U 232, U 233, U 234, U 235, U 236, U 237, U 238, U 239, U 240, U 241, U 242, U 243, U 244, U 245, U 246, U 247, U 248, U 249, U 250, U 251, U 252, U 253, U 254, U 255, U 256, U 257, U 258, U 259, U 260, U 261, U 262, U 263, U 264, U 265, U 266, U 267, U 268, U 269, U 270, U 271, U 272, U 273, U 274, U 275, U 276, U 277, U 278, U 279, U 280, U 281, U 282, U 283, U 284, U 285, U 286, U 287, U 288, U 289, U 290, U 291, U 292, U 293, U 294, U 295, U 296, U 297, U 298, U 299, U 300, U 301, U 302, U 303, U 304, U 305, U 306, U 307, U 308, U 309, U 310, U 311, U 312, U 313, U 314, U 315, U 316, U 317, U 318, U 319, U 320, U 321, U 322, U 323, U 324, U 325, U 326, U 327, U 328, U 329, U 330, U 331, U 332, U 333, U 334, U 335, U 336, U 337, U 338, U 339, U 340, U 341, U 342, U 343, U 344, U 345, U 346, U 347, V 348, V 349, V 350, V 351, V 352, V 353, V 354, V 355, V 356, V 357, V 358, V 359, V 360, V 361, V 362, V 363, V 364, V 365, V 366, V 367, V 368, V 369, V 370, V 371, V 372, V 373, V 374, V 375, V 376, V 377, V 378, V 379, V 380, V 381, V 382, V 383, V 384, V 385, V 386, V 387, V 388, V 389, V 390, V 391, V 392, V 393, V 394, V 395, V 396, V 397, V 398, V 399, V 400, V 401, V 402, V 403, V 404, V 405, V 406, V 407, V 408, V 409, V 410, V 411, V 412, V 413, V 414, V 415, U 416, U 417, U 418, U 419, U 420, U 421, U 422, U 423, U 424, U 425, U 426, U 427, U 428, U 429, U 430, U 431, U 432, U 433, U 434, U 435, U 436, U 437, U 438, U 439, U 440, U 441, U 442, U 443, U 444, U 445, U 446, U 447, U 448, U 449, U 450, U 451, U 452, U 453, U 454, U 455, U 456, U 457, U 458, U 459, U 460, U 461, U 462, U 463], []⟩ (w.drewN m) := by
  have hR := H.st.rd
  have hsz := H.st.sz
  have hk3 := HB.1
  have hpk := HB.2.1
  have HH := Lib.hid H
  have HA := Lib.hid HB
  clear H HB
  conv => arg 2; whnf
  have hbd := nn_bd d
  have hlt5 : (x.p : Int) + (k : Int) < s.size := by omega
  subst hf
  have HB2 := Lib.hid (HA.out.on hk hsuf hlt4 (fun f t => pre_r f b d t (by omega)))
  clear hsuf
  rw [hd] at hb
  clear hd hbd
  cases b
  all_goals
    go_wp2_with (first | (go_at_call 67; first | ((with_reducible refine (peekOk_yes _ _ _ _ _ _ (hR.drewN _) ?_).mono ?_); omega; rintro e w' ⟨rfl, nq, rfl⟩) | ((with_reducible refine (peekOk_yes _ _ _ _ _ _ hR ?_).mono ?_); omega; rintro e w' ⟨rfl, nq, rfl⟩) | ((with_reducible refine (peekOk_no _ _ _ _ _ _ (hR.drewN _) ?_).mono ?_); omega; rintro e w' ⟨rfl, nq, rfl⟩) | ((with_reducible refine (peekOk_no _ _ _ _ _ _ hR ?_).mono ?_); omega; rintro e w' ⟨rfl, nq, rfl⟩)) | (go_at_call 65; first | ((with_reducible refine (peekIs_yes _ _ _ _ _ _ _ (hR.drewN _) ?_).mono ?_); omega; rintro e w' ⟨rfl, nq, rfl⟩) | ((with_reducible refine (peekIs_yes _ _ _ _ _ _ _ hR ?_).mono ?_); omega; rintro e w' ⟨rfl, nq, rfl⟩) | ((with_reducible refine (peekIs_no _ _ _ _ _ _ _ (hR.drewN _) ?_).mono ?_); omega; rintro e w' ⟨rfl, nq, rfl⟩) | ((with_reducible refine (peekIs_no _ _ _ _ _ _ _ hR ?_).mono ?_); omega; rintro e w' ⟨rfl, nq, rfl⟩)))
    exact LPost.next HB2.out (by omega) hk ⟨[_, _, _, _, _, _, _, _, _, _, _, _, _, _, _, _, _, _, _, _, _, _, _, _, _, _, _, _, _, _, _, _, _, _, _, _, _, _, _, _, _, _, _, _, _, _, _, _, _, _, _, _, _, _, _, _, _, _, _, _, _, _, _, _, _, _, _, _], rfl, rfl⟩

set_option maxRecDepth 100000 in
set_option maxHeartbeats 16000000 in
theorem let_R114_no
    (lb fb : Nat) (fp s : ByteArray) (x : LX) (np : Bool) (P : Option (Nat × Bool × Bool)) (U V : Nat → Value) (w : World) (k m : Nat) (b r : Bool) (H : LCtx lb fb fp s x np P w) (HB : PreAt s x.p k b r P)
    (d : UInt8) (hb : byt s ((x.p : Int) + (k : Int)) = nn d) (hsuf : suf s (x.p + k) = d :: suf s (x.p + k + 1)) (hlt4 : x.p + k < s.size) (hk : k < 3) (hd : nn d = 114) (hf : r = true) :
    Code.wp Tryz.prog lBody (LPost lb fb fp s x np P U w k) ⟨#[.pointer (some ⟨lb, 0, none⟩), .bool np, U 2, U 3, U 4, U 5, U 6, .bool b, .bool r, .int .i64 k, U 10, U 11, U 12, U 13, U 14, U 15, U 16, U 17, U 18, U 19, U 20, U 21, U 22, U 23, U 24, U 25, U 26, U 27, U 28, U 29, U 30, U 31, U 32, U 33, U 34, U 35, U 36, U 37, U 38, U 39, U 40, U 41, U 42, U 43, U 44, U 45, U 46, U 47, U 48, U 49, U 50, U 51, U 52, U 53, U 54, U 55, U 56, U 57, U 58, U 59, U 60, U 61, U 62, U 63, U 64, U 65, U 66, U 67, U 68, U 69, U 70, U 71, U 72, U 73, U 74, U 75, U 76, U 77, U 78, U 79, U 80, U 81, U 82, U 83, U 84, U 85, U 86, U 87, U 88, U 89, U 90, U 91, U 92, U 93, U 94, U 95, U 96, U 97, U 98, U 99, U 100, U 101, U 102, U 103, U 104, U 105, U 106, U 107, U 108, U 109, U 110, U 111, U 112, U 113, U 114, U 115, U 116, U 117, U 118, U 119, U 120, U 121, U 122, U 123, U 124, U 125, U 126, U 127, U 128, U 129, U 130, U 131, U 132, U 133, U 134, U 135, U 136, U 137, U 138, U 139, U 140, U 141, U 142, U 143, U 144, U 145, U 146, U 147, U 148, U 149, U 150, U 151, U 152, U 153, U 154, U 155, U 156, U 157, U 158, U 159, U 160, U 161, U 162, U 163, U 164, U 165, U 166, U 167, U 168, U 169, U 170, U 171, U 172, U 173, U 174, U 175, U 176, U 177, U 178, U 179, U 180, U 181, U 182, U 183, U 184, U 185, U 186, U 187, U 188, U 189, U 190, U 191, U 192, U 193, U 194, U 195, U 196, U 197, U 198, U 199, U 200, U 201, U 202, U 203, U 204, U 205, U 206, U 207, U 208, U 209, U 210, U 211, U 212, U 213, U 214, U 215, U 216, U 217, U 218, U 219, U 220, U 221, U 222, U 223, U 224, U 225, U 226, U 227, U 228, U 229, U 230, U 231, U 232, U 233, U 234, U 235, U 236, U 237, U 238, U 239, U 240, U 241, U 242, U 243, U 244, U 245, U 246, U 247, U 248, U 249, U 250, U 251, U 252, U 253, U 254, U 255, U 256, U 257, U 258, U 259, U 260, U 261, U 262, U 263, U 264, U 265, U 266, U 267, U 268, U 269, U 270, U 271, U 272, U 273, U 274, U 275, U 276, U 277, U 278, U 279, U 280, U 281, U 282, U 283, U 284, U 285, U 286, U 287, U 288, U 289, U 290, U 291, U 292, U 293, U 294, U 295, U 296, U 297, U 298, U 299, U 300, U 301, U 302, U 303, U 304, U 305, U 306, U 307, U 308, U 309, U 310, U 311, U 312, U 313, U 314, U 315, U 316, U 317, U 318, U 319, U 320, U 321, U 322, U 323, U 324, U 325, U 326, U 327, U 328, U 329, U 330, U 331, U 332, U 333, U 334, U 335, U 336, U 337, U 338, U 339, U 340, U 341, U 342, U 343, U 344, U 345, U 346, U 347, V 348, V 349, V 350, V 351, V 352, V 353, V 354, V 355, V 356, V 357, V 358, V 359, V 360, V 361, V 362, V 363, V 364, V 365, V 366, V 367, V 368, V 369, V 370, V 371, V 372, V 373, V 374, V 375, V 376, V 377, V 378, V 379, V 380, V 381, V 382, V 383, V 384, V 385, V 386, V 387, V 388, V 389, V 390, V 391, V 392, V 393, V 394, V 395, V 396, V 397, V 398, V 399, V 400, V 401, V 402, V 403, V 404, V 405, V 406, V 407, V 408, V 409, V 410, V 411, V 412, V 413, V 414, V 415, U 416, U 417, U 418, U 419, U 420, U 421, U 422, U 423, U 424, U 425, U 426, U 427, U 428, U 429, U 430, U 431, U 432, U 433, U 434, U 435, U 436, U 437, U 438, U 439, U 440, U 441, U 442, U 443, U 444, U 445, U 446, U 447, U 448, U 449, U 450, U 451, U 452, U 453, U 454, U 455, U 456, U 457, U 458, U 459, U 460, U 461, U 462, U 463], []⟩ (w.drewN m) := by
  have hR := H.st.rd
  have hsz := H.st.sz
  have hk3 := HB.1
  have hpk := HB.2.1
  have HH := Lib.hid H
  have HA := Lib.hid HB
  clear H HB
  conv => arg 2; whnf
  have hbd := nn_bd d
  have hlt5 : (x.p : Int) + (k : Int) < s.size := by omega
  subst hf
  have HN := Lib.hid (HA.out.none_ hk hsuf (fun f t => pre_no f b true d t (.inr (by omega)) (.inl rfl) (by omega)))
  clear hsuf
  rw [hd] at hb
  clear hd hbd
  cases b
  all_goals
    go_wp2_with (first | (go_at_call 67; first | ((with_reducible refine (peekOk_yes _ _ _ _ _ _ (hR.drewN _) ?_).mono ?_); omega; rintro e w' ⟨rfl, nq, rfl⟩) | ((with_reducible refine (peekOk_yes _ _ _ _ _ _ hR ?_).mono ?_); omega; rintro e w' ⟨rfl, nq, rfl⟩) | ((with_reducible refine (peekOk_no _ _ _ _ _ _ (hR.drewN _) ?_).mono ?_); omega; rintro e w' ⟨rfl, nq, rfl⟩) | ((with_reducible refine (peekOk_no _ _ _ _ _ _ hR ?_).mono ?_); omega; rintro e w' ⟨rfl, nq, rfl⟩)) | (go_at_call 65; first | ((with_reducible refine (peekIs_yes _ _ _ _ _ _ _ (hR.drewN _) ?_).mono ?_); omega; rintro e w' ⟨rfl, nq, rfl⟩) | ((with_reducible refine (peekIs_yes _ _ _ _ _ _ _ hR ?_).mono ?_); omega; rintro e w' ⟨rfl, nq, rfl⟩) | ((with_reducible refine (peekIs_no _ _ _ _ _ _ _ (hR.drewN _) ?_).mono ?_); omega; rintro e w' ⟨rfl, nq, rfl⟩) | ((with_reducible refine (peekIs_no _ _ _ _ _ _ _ hR ?_).mono ?_); omega; rintro e w' ⟨rfl, nq, rfl⟩)))
    exact LPost.out HN.out ⟨_, _, _, [_, _, _, _, _, _, _, _, _, _, _, _, _, _, _, _, _, _, _, _, _, _, _, _, _, _, _, _, _, _, _, _, _, _, _, _, _, _, _, _, _, _, _, _, _, _, _, _, _, _, _, _, _, _, _, _, _, _, _, _, _, _, _, _, _, _, _, _], rfl, rfl⟩


end Go.Proofs.YtngofbhlhcalpaaGreatDoor.lexer
