/-
  Lemmas and contracts of this claim, texts LetC. No statement of the seat is proved here.
-/
import Derived.Test.YtngofbhlhcalpaaGreatDoorZ20
import Derived.Test.YtngofbhlhcalpaaGreatDoorZ21
import Derived.Test.YtngofbhlhcalpaaGreatDoorZ22
import Derived.Test.YtngofbhlhcalpaaGreatDoorZ23
namespace Go.Proofs.YtngofbhlhcalpaaGreatDoor.lexer
open Go.RowKit Go.Proofs.YtngofbhlhcalpaaGreatDoor.gen

set_option maxRecDepth 100000 in
theorem let_any
    (lb fb : Nat) (fp s : ByteArray) (x : LX) (np : Bool) (P : Option (Nat × Bool × Bool)) (U V : Nat → Value) (w : World) (k m : Nat) (b r : Bool) (H : LCtx lb fb fp s x np P w) (HB : PreAt s x.p k b r P) :
    Code.wp Tryz.prog lBody (LPost lb fb fp s x np P U w k) ⟨#[.pointer (some ⟨lb, 0, none⟩), .bool np, U 2, U 3, U 4, U 5, U 6, .bool b, .bool r, .int .i64 k, U 10, U 11, U 12, U 13, U 14, U 15, U 16, U 17, U 18, U 19, U 20, U 21, U 22, U 23, U 24, U 25, U 26, U 27, U 28, U 29, U 30, U 31, U 32, U 33, U 34, U 35, U 36, U 37, U 38, U 39, U 40, U 41, U 42, U 43, U 44, U 45, U 46, U 47, U 48, U 49, U 50, U 51, U 52, U 53, U 54, U 55, U 56, U 57, U 58, U 59, U 60, U 61, U 62, U 63, U 64, U 65, U 66, U 67, U 68, U 69, U 70, U 71, U 72, U 73, U 74, U 75, U 76, U 77, U 78, U 79, U 80, U 81, U 82, U 83, U 84, U 85, U 86, U 87, U 88, U 89, U 90, U 91, U 92, U 93, U 94, U 95, U 96, U 97, U 98, U 99, U 100, U 101, U 102, U 103, U 104, U 105, U 106, U 107, U 108, U 109, U 110, U 111, U 112, U 113, U 114, U 115, U 116, U 117, U 118, U 119, U 120, U 121, U 122, U 123, U 124, U 125, U 126, U 127, U 128, U 129, U 130, U 131, U 132, U 133, U 134, U 135, U 136, U 137, U 138, U 139, U 140, U 141, U 142, U 143, U 144, U 145, U 146, U 147, U 148, U 149, U 150, U 151, U 152, U 153, U 154, U 155, U 156, U 157, U 158, U 159, U 160, U 161, U 162, U 163, U 164, U 165, U 166, U 167, U 168, U 169, U 170, U 171, U 172, U 173, U 174, U 175, U 176, U 177, U 178, U 179, U 180, U 181, U 182, U 183, U 184, U 185, U 186, U 187, U 188, U 189, U 190, U 191, U 192, U 193, U 194, U 195, U 196, U 197, U 198, U 199, U 200, U 201, U 202, U 203, U 204, U 205, U 206, U 207, U 208, U 209, U 210, U 211, U 212, U 213, U 214, U 215, U 216, U 217, U 218, U 219, U 220, U 221, U 222, U 223, U 224, U 225, U 226, U 227, U 228, U 229, U 230, U 231, U 232, U 233, U 234, U 235, U 236, U 237, U 238, U 239, U 240, U 241, U 242, U 243, U 244, U 245, U 246, U 247, U 248, U 249, U 250, U 251, U 252, U 253, U 254, U 255, U 256, U 257, U 258, U 259, U 260, U 261, U 262, U 263, U 264, U 265, U 266, U 267, U 268, U 269, U 270, U 271, U 272, U 273, U 274, U 275, U 276, U 277, U 278, U 279, U 280, U 281, U 282, U 283, U 284, U 285, U 286, U 287, U 288, U 289, U 290, U 291, U 292, U 293, U 294, U 295, U 296, U 297, U 298, U 299, U 300, U 301, U 302, U 303, U 304, U 305, U 306, U 307, U 308, U 309, U 310, U 311, U 312, U 313, U 314, U 315, U 316, U 317, U 318, U 319, U 320, U 321, U 322, U 323, U 324, U 325, U 326, U 327, U 328, U 329, U 330, U 331, U 332, U 333, U 334, U 335, U 336, U 337, U 338, U 339, U 340, U 341, U 342, U 343, U 344, U 345, U 346, U 347, V 348, V 349, V 350, V 351, V 352, V 353, V 354, V 355, V 356, V 357, V 358, V 359, V 360, V 361, V 362, V 363, V 364, V 365, V 366, V 367, V 368, V 369, V 370, V 371, V 372, V 373, V 374, V 375, V 376, V 377, V 378, V 379, V 380, V 381, V 382, V 383, V 384, V 385, V 386, V 387, V 388, V 389, V 390, V 391, V 392, V 393, V 394, V 395, V 396, V 397, V 398, V 399, V 400, V 401, V 402, V 403, V 404, V 405, V 406, V 407, V 408, V 409, V 410, V 411, V 412, V 413, V 414, V 415, U 416, U 417, U 418, U 419, U 420, U 421, U 422, U 423, U 424, U 425, U 426, U 427, U 428, U 429, U 430, U 431, U 432, U 433, U 434, U 435, U 436, U 437, U 438, U 439, U 440, U 441, U 442, U 443, U 444, U 445, U 446, U 447, U 448, U 449, U 450, U 451, U 452, U 453, U 454, U 455, U 456, U 457, U 458, U 459, U 460, U 461, U 462, U 463], []⟩ (w.drewN m) := by
  rcases suf_byt s (x.p + k) with ⟨_, _, hge⟩ | ⟨d, hb, hsuf, hlt⟩
  · exact let_end lb fb fp s x np P U V w k m b r H HB (.inr hge)
  · rw [show ((x.p + k : Nat) : Int) = (x.p : Int) + (k : Int) from by omega] at hb
    by_cases hk : k < 3
    case neg => exact let_end lb fb fp s x np P U V w k m b r H HB (.inl (by have := HB.1; omega))
    case pos =>
      by_cases e66 : nn d = 66
      · cases hf : b with
        | false => subst hf; exact let_B66_on lb fb fp s x np P U V w k m false r H HB d hb hsuf hlt hk e66 rfl
        | true => subst hf; exact let_B66_no lb fb fp s x np P U V w k m true r H HB d hb hsuf hlt hk e66 rfl
      by_cases e98 : nn d = 98
      · cases hf : b with
        | false => subst hf; exact let_B98_on lb fb fp s x np P U V w k m false r H HB d hb hsuf hlt hk e98 rfl
        | true => subst hf; exact let_B98_no lb fb fp s x np P U V w k m true r H HB d hb hsuf hlt hk e98 rfl
      by_cases e82 : nn d = 82
      · cases hf : r with
        | false => subst hf; exact let_R82_on lb fb fp s x np P U V w k m b false H HB d hb hsuf hlt hk e82 rfl
        | true => subst hf; exact let_R82_no lb fb fp s x np P U V w k m b true H HB d hb hsuf hlt hk e82 rfl
      by_cases e114 : nn d = 114
      · cases hf : r with
        | false => subst hf; exact let_R114_on lb fb fp s x np P U V w k m b false H HB d hb hsuf hlt hk e114 rfl
        | true => subst hf; exact let_R114_no lb fb fp s x np P U V w k m b true H HB d hb hsuf hlt hk e114 rfl
      by_cases e34 : nn d = 34
      · cases hf : b with
        | false =>
          cases hg : r with
          | false => subst hf hg; exact let_consumeString34 lb fb fp s x np P U V w k m false false H HB d hb hsuf hlt hk e34 rfl rfl
          | true => subst hf hg; exact let_consumeRawString34 lb fb fp s x np P U V w k m false true H HB d hb hsuf hlt hk e34 rfl rfl
        | true =>
          cases hg : r with
          | false => subst hf hg; exact let_consumeBytes34 lb fb fp s x np P U V w k m true false H HB d hb hsuf hlt hk e34 rfl rfl
          | true => subst hf hg; exact let_consumeRawBytes34 lb fb fp s x np P U V w k m true true H HB d hb hsuf hlt hk e34 rfl rfl
      by_cases e39 : nn d = 39
      · cases hf : b with
        | false =>
          cases hg : r with
          | false => subst hf hg; exact let_consumeString39 lb fb fp s x np P U V w k m false false H HB d hb hsuf hlt hk e39 rfl rfl
          | true => subst hf hg; exact let_consumeRawString39 lb fb fp s x np P U V w k m false true H HB d hb hsuf hlt hk e39 rfl rfl
        | true =>
          cases hg : r with
          | false => subst hf hg; exact let_consumeBytes39 lb fb fp s x np P U V w k m true false H HB d hb hsuf hlt hk e39 rfl rfl
          | true => subst hf hg; exact let_consumeRawBytes39 lb fb fp s x np P U V w k m true true H HB d hb hsuf hlt hk e39 rfl rfl
      exact let_other lb fb fp s x np P U V w k m b r H HB d hb hsuf hlt hk ⟨e66, e98⟩ ⟨e82, e114⟩ ⟨e34, e39⟩

set_option maxRecDepth 100000 in
set_option maxHeartbeats 16000000 in
theorem let_scope (lb fb : Nat) (fp s : ByteArray) (x : LX) (np : Bool) (P : Option (Nat × Bool × Bool)) (U V : Nat → Value) (w : World) (m : Nat) (v7 v8 v9 : Value) (H : LCtx lb fb fp s x np P w) (HB : PreAt s x.p 0 false false P) :
    Code.wp Tryz.prog lScope (SPost lb fb fp s x np P U w) ⟨#[.pointer (some ⟨lb, 0, none⟩), .bool np, U 2, U 3, U 4, U 5, U 6, v7, v8, v9, U 10, U 11, U 12, U 13, U 14, U 15, U 16, U 17, U 18, U 19, U 20, U 21, U 22, U 23, U 24, U 25, U 26, U 27, U 28, U 29, U 30, U 31, U 32, U 33, U 34, U 35, U 36, U 37, U 38, U 39, U 40, U 41, U 42, U 43, U 44, U 45, U 46, U 47, U 48, U 49, U 50, U 51, U 52, U 53, U 54, U 55, U 56, U 57, U 58, U 59, U 60, U 61, U 62, U 63, U 64, U 65, U 66, U 67, U 68, U 69, U 70, U 71, U 72, U 73, U 74, U 75, U 76, U 77, U 78, U 79, U 80, U 81, U 82, U 83, U 84, U 85, U 86, U 87, U 88, U 89, U 90, U 91, U 92, U 93, U 94, U 95, U 96, U 97, U 98, U 99, U 100, U 101, U 102, U 103, U 104, U 105, U 106, U 107, U 108, U 109, U 110, U 111, U 112, U 113, U 114, U 115, U 116, U 117, U 118, U 119, U 120, U 121, U 122, U 123, U 124, U 125, U 126, U 127, U 128, U 129, U 130, U 131, U 132, U 133, U 134, U 135, U 136, U 137, U 138, U 139, U 140, U 141, U 142, U 143, U 144, U 145, U 146, U 147, U 148, U 149, U 150, U 151, U 152, U 153, U 154, U 155, U 156, U 157, U 158, U 159, U 160, U 161, U 162, U 163, U 164, U 165, U 166, U 167, U 168, U 169, U 170, U 171, U 172, U 173, U 174, U 175, U 176, U 177, U 178, U 179, U 180, U 181, U 182, U 183, U 184, U 185, U 186, U 187, U 188, U 189, U 190, U 191, U 192, U 193, U 194, U 195, U 196, U 197, U 198, U 199, U 200, U 201, U 202, U 203, U 204, U 205, U 206, U 207, U 208, U 209, U 210, U 211, U 212, U 213, U 214, U 215, U 216, U 217, U 218, U 219, U 220, U 221, U 222, U 223, U 224, U 225, U 226, U 227, U 228, U 229, U 230, U 231, U 232, U 233, U 234, U 235, U 236, U 237, U 238, U 239, U 240, U 241, U 242, U 243, U 244, U 245, U 246, U 247, U 248, U 249, U 250, U 251, U 252, U 253, U 254, U 255, U 256, U 257, U 258, U 259, U 260, U 261, U 262, U 263, U 264, U 265, U 266, U 267, U 268, U 269, U 270, U 271, U 272, U 273, U 274, U 275, U 276, U 277, U 278, U 279, U 280, U 281, U 282, U 283, U 284, U 285, U 286, U 287, U 288, U 289, U 290, U 291, U 292, U 293, U 294, U 295, U 296, U 297, U 298, U 299, U 300, U 301, U 302, U 303, U 304, U 305, U 306, U 307, U 308, U 309, U 310, U 311, U 312, U 313, U 314, U 315, U 316, U 317, U 318, U 319, U 320, U 321, U 322, U 323, U 324, U 325, U 326, U 327, U 328, U 329, U 330, U 331, U 332, U 333, U 334, U 335, U 336, U 337, U 338, U 339, U 340, U 341, U 342, U 343, U 344, U 345, U 346, U 347, V 348, V 349, V 350, V 351, V 352, V 353, V 354, V 355, V 356, V 357, V 358, V 359, V 360, V 361, V 362, V 363, V 364, V 365, V 366, V 367, V 368, V 369, V 370, V 371, V 372, V 373, V 374, V 375, V 376, V 377, V 378, V 379, V 380, V 381, V 382, V 383, V 384, V 385, V 386, V 387, V 388, V 389, V 390, V 391, V 392, V 393, V 394, V 395, V 396, V 397, V 398, V 399, V 400, V 401, V 402, V 403, V 404, V 405, V 406, V 407, V 408, V 409, V 410, V 411, V 412, V 413, V 414, V 415, U 416, U 417, U 418, U 419, U 420, U 421, U 422, U 423, U 424, U 425, U 426, U 427, U 428, U 429, U 430, U 431, U 432, U 433, U 434, U 435, U 436, U 437, U 438, U 439, U 440, U 441, U 442, U 443, U 444, U 445, U 446, U 447, U 448, U 449, U 450, U 451, U 452, U 453, U 454, U 455, U 456, U 457, U 458, U 459, U 460, U 461, U 462, U 463], []⟩ (w.drewN m) := by
  have HH := Lib.hid H
  have HA := Lib.hid HB
  clear H HB
  conv => arg 2; whnf
  go_wp2_with fail
  go_step3
  go_wp2_with fail
  refine wp_loop (LInv lb s x np P U w) (fun a' _ => Lmu a') ?_ ?_
  · exact ⟨rfl, 0, false, false, [_, _, _, _, _, _, _, _, _, _, _, _, _, _, _, _, _, _, _, _, _, _, _, _, _, _, _, _, _, _, _, _, _, _, _, _, _, _, _, _, _, _, _, _, _, _, _, _, _, _, _, _, _, _, _, _, _, _, _, _, _, _, _, _, _, _, _, _], m, HA.out, rfl, rfl, rfl⟩
  · rintro ⟨tm, df⟩ wr ⟨hdf, k, b, r, M, m2, hA, hM, htm, rfl⟩
    obtain ⟨V2, rfl⟩ := list_letters68 M hM
    simp only at hdf htm
    subst hdf htm
    refine wp_mono (let_any lb fb fp s x np P U V2 w k m2 b r HH.out hA) ?_
    intro e a' w' hP
    cases e with
    | normal => exact hP
    | ret => exact hP
    | panic chain => exact hP
    | outgrown => exact hP.elim
    | goto g => exact hP.elim
    | exit n =>
      obtain ⟨rfl, hO⟩ := hP
      exact hO

set_option maxRecDepth 1000000 in
theorem list_letters2 (u2 u3 u4 u5 u6 : Value) (F1 F2 : List Value) (h1 : F1.length = 338) (h2 : F2.length = 48) : ∃ U : Nat → Value, u2 = U 2 ∧ u3 = U 3 ∧ u4 = U 4 ∧ u5 = U 5 ∧ u6 = U 6 ∧
    F1 = [U 10, U 11, U 12, U 13, U 14, U 15, U 16, U 17, U 18, U 19, U 20, U 21, U 22, U 23, U 24, U 25, U 26, U 27, U 28, U 29, U 30, U 31, U 32, U 33, U 34, U 35, U 36, U 37, U 38, U 39, U 40, U 41, U 42, U 43, U 44, U 45, U 46, U 47, U 48, U 49, U 50, U 51, U 52, U 53, U 54, U 55, U 56, U 57, U 58, U 59, U 60, U 61, U 62, U 63, U 64, U 65, U 66, U 67, U 68, U 69, U 70, U 71, U 72, U 73, U 74, U 75, U 76, U 77, U 78, U 79, U 80, U 81, U 82, U 83, U 84, U 85, U 86, U 87, U 88, U 89, U 90, U 91, U 92, U 93, U 94, U 95, U 96, U 97, U 98, U 99, U 100, U 101, U 102, U 103, U 104, U 105, U 106, U 107, U 108, U 109, U 110, U 111, U 112, U 113, U 114, U 115, U 116, U 117, U 118, U 119, U 120, U 121, U 122, U 123, U 124, U 125, U 126, U 127, U 128, U 129, U 130, U 131, U 132, U 133, U 134, U 135, U 136, U 137, U 138, U 139, U 140, U 141, U 142, U 143, U 144, U 145, U 146, U 147, U 148, U 149, U 150, U 151, U 152, U 153, U 154, U 155, U 156, U 157, U 158, U 159, U 160, U 161, U 162, U 163, U 164, U 165, U 166, U 167, U 168, U 169, U 170, U 171, U 172, U 173, U 174, U 175, U 176, U 177, U 178, U 179, U 180, U 181, U 182, U 183, U 184, U 185, U 186, U 187, U 188, U 189, U 190, U 191, U 192, U 193, U 194, U 195, U 196, U 197, U 198, U 199, U 200, U 201, U 202, U 203, U 204, U 205, U 206, U 207, U 208, U 209, U 210, U 211, U 212, U 213, U 214, U 215, U 216, U 217, U 218, U 219, U 220, U 221, U 222, U 223, U 224, U 225, U 226, U 227, U 228, U 229, U 230, U 231, U 232, U 233, U 234, U 235, U 236, U 237, U 238, U 239, U 240, U 241, U 242, U 243, U 244, U 245, U 246, U 247, U 248, U 249, U 250, U 251, U 252, U 253, U 254, U 255, U 256, U 257, U 258, U 259, U 260, U 261, U 262, U 263, U 264, U 265, U 266, U 267, U 268, U 269, U 270, U 271, U 272, U 273, U 274, U 275, U 276, U 277, U 278, U 279, U 280, U 281, U 282, U 283, U 284, U 285, U 286, U 287, U 288, U 289, U 290, U 291, U 292, U 293, U 294, U 295, U 296, U 297, U 298, U 299, U 300, U 301, U 302, U 303, U 304, U 305, U 306, U 307, U 308, U 309, U 310, U 311, U 312, U 313, U 314, U 315, U 316, U 317, U 318, U 319, U 320, U 321, U 322, U 323, U 324, U 325, U 326, U 327, U 328, U 329, U 330, U 331, U 332, U 333, U 334, U 335, U 336, U 337, U 338, U 339, U 340, U 341, U 342, U 343, U 344, U 345, U 346, U 347] ∧ F2 = [U 416, U 417, U 418, U 419, U 420, U 421, U 422, U 423, U 424, U 425, U 426, U 427, U 428, U 429, U 430, U 431, U 432, U 433, U 434, U 435, U 436, U 437, U 438, U 439, U 440, U 441, U 442, U 443, U 444, U 445, U 446, U 447, U 448, U 449, U 450, U 451, U 452, U 453, U 454, U 455, U 456, U 457, U 458, U 459, U 460, U 461, U 462, U 463] := by
  refine ⟨fun n => if n < 10 then [undef, undef, u2, u3, u4, u5, u6].getD n undef else if n < 400 then F1.getD (n - 10) undef else F2.getD (n - 416) undef, rfl, rfl, rfl, rfl, rfl, ?_, ?_⟩
  · exact (list_fn F1 undef 338 h1).trans (by kernel_rfl)
  · exact (list_fn F2 undef 48 h2).trans (by kernel_rfl)

def LOut2 (lb : Nat) (np : Bool) (P : Option (Nat × Bool × Bool)) (u2 u3 u4 u5 u6 : Value) (F1 F2 : List Value) (w : World) (a : Act) (w' : World) : Prop :=
  P = none ∧ a.defers = [] ∧ ∃ (b r i : Value) (M : List Value) (m : Nat), M.length = 68 ∧ a.tmps = List.toArray (.pointer (some ⟨lb, 0, none⟩) :: .bool np :: u2 :: u3 :: u4 :: u5 :: u6 :: b :: r :: i :: (F1 ++ (M ++ F2))) ∧ w' = w.drewN m

def SPost2 (lb fb : Nat) (fp s : ByteArray) (x : LX) (np : Bool) (P : Option (Nat × Bool × Bool)) (u2 u3 u4 u5 u6 : Value) (F1 F2 : List Value) (w : World) : Exit → Act → World → Prop
  | .normal, a, w' => LOut2 lb np P u2 u3 u4 u5 u6 F1 F2 w a w'
  | .ret, a, w' => a.defers = [] ∧ LetRes np lb fb fp s x P w (.returned (.tuple #[])) w'
  | .panic chain, a, w' => a.defers = [] ∧ LetRes np lb fb fp s x P w (.panicked chain) w'
  | _, _, _ => False

set_option maxRecDepth 100000 in
theorem let_scope2 (lb fb : Nat) (fp s : ByteArray) (x : LX) (np : Bool) (P : Option (Nat × Bool × Bool)) (w : World) (m : Nat) (u2 u3 u4 u5 u6 v7 v8 v9 : Value) (F1 M F2 : List Value) (h1 : F1.length = 338) (hM : M.length = 68) (h2 : F2.length = 48)
    (H : LCtx lb fb fp s x np P w) (HB : PreAt s x.p 0 false false P) :
    Code.wp Tryz.prog lScope (SPost2 lb fb fp s x np P u2 u3 u4 u5 u6 F1 F2 w) ⟨List.toArray (.pointer (some ⟨lb, 0, none⟩) :: .bool np :: u2 :: u3 :: u4 :: u5 :: u6 :: v7 :: v8 :: v9 :: (F1 ++ (M ++ F2))), []⟩ (w.drewN m) := by
  obtain ⟨U, rfl, rfl, rfl, rfl, rfl, rfl, rfl⟩ := list_letters2 u2 u3 u4 u5 u6 F1 F2 h1 h2
  obtain ⟨V, rfl⟩ := list_letters68 M hM
  refine wp_mono (let_scope lb fb fp s x np P U V w m v7 v8 v9 H HB) ?_
  intro e a' w' hP
  cases e with
  | normal => exact hP
  | ret => exact hP
  | panic chain => exact hP
  | outgrown => exact hP.elim
  | goto g => exact hP.elim
  | exit n => exact hP.elim

end Go.Proofs.YtngofbhlhcalpaaGreatDoor.lexer
