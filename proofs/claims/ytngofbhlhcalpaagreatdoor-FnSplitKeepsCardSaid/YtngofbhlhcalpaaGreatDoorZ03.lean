/-
  Lemmas and contracts of this claim, texts QuoP, QuoL, QuoT, QuoB, Spc, QuoC, QuoD. No statement of the seat is proved here.
-/
import Derived.Test.YtngofbhlhcalpaaGreatDoorZ02
import Derived.Laws.BytesString
import Derived.Deep.RegionWith
import Derived.StillTailTactics
import Derived.BigRegion
import Derived.Test.YtngofbhlhcalpaaGreatDoorZ00
namespace Go.Proofs.YtngofbhlhcalpaaGreatDoor.lexer
open Go.RowKit Go.Proofs.YtngofbhlhcalpaaGreatDoor.gen

theorem qr_nil (q : List UInt8) (raw uni : Bool) : qr q raw uni [] = ([], 0, .unclosed) := by rw [qr.eq_def]
theorem qr_close (q : List UInt8) (raw uni : Bool) (c : UInt8) (r : List UInt8) (h : ((c :: r).take q.length == q) = true) : qr q raw uni (c :: r) = ([], 0, .closed) := by
  rw [qr.eq_def]; simp only [h, if_true]
theorem qr_rawEnd (q : List UInt8) (uni : Bool) (c : UInt8) (h : ([c].take q.length == q) = false) (hc : nn c = 92) : qr q true uni [c] = ([], 0, .escape) := by
  rw [qr.eq_def]; simp only [h, hc, beq_self_eq_true, if_true, Bool.false_eq_true, if_false]
theorem qr_raw (q : List UInt8) (uni : Bool) (c d : UInt8) (r : List UInt8) (h : ((c :: d :: r).take q.length == q) = false) (hc : nn c = 92) :
    qr q true uni (c :: d :: r) = (c :: d :: (qr q true uni r).1, (qr q true uni r).2.1 + 2, (qr q true uni r).2.2) := by
  rw [qr.eq_def]; simp only [h, hc, beq_self_eq_true, if_true, Bool.false_eq_true, if_false]
theorem qr_escBad (q : List UInt8) (uni : Bool) (c : UInt8) (r : List UInt8) (h : ((c :: r).take q.length == q) = false) (hc : nn c = 92) (he : esc uni r = none) :
    qr q false uni (c :: r) = ([], 0, .escape) := by
  rw [qr.eq_def]; simp only [h, hc, he, beq_self_eq_true, if_true, Bool.false_eq_true, if_false]
theorem qr_esc (q : List UInt8) (uni : Bool) (c : UInt8) (r bs : List UInt8) (n : Nat) (h : ((c :: r).take q.length == q) = false) (hc : nn c = 92) (he : esc uni r = some (bs, n)) :
    qr q false uni (c :: r) = (bs ++ (qr q false uni (r.drop (n - 1))).1, (qr q false uni (r.drop (n - 1))).2.1 + n, (qr q false uni (r.drop (n - 1))).2.2) := by
  rw [qr.eq_def]; simp only [h, hc, he, beq_self_eq_true, if_true, Bool.false_eq_true, if_false]
theorem qr_newline (q : List UInt8) (raw uni : Bool) (c : UInt8) (r : List UInt8) (h : ((c :: r).take q.length == q) = false) (hc : nn c = 10) (hq : q.length ≠ 3) :
    qr q raw uni (c :: r) = ([], 0, .newline) := by
  rw [qr.eq_def]
  have h1 : (q.length != 3) = true := by simpa using hq
  have h2 : ((10 : Int) == 92) = false := by decide
  simp only [h, hc, h1, h2, beq_self_eq_true, Bool.and_self, if_true, Bool.false_eq_true, if_false]
theorem qr_char (q : List UInt8) (raw uni : Bool) (c : UInt8) (r : List UInt8) (h : ((c :: r).take q.length == q) = false) (hc : ¬ nn c = 92) (hn : nn c = 10 → q.length = 3) :
    qr q raw uni (c :: r) = (c :: (qr q raw uni r).1, (qr q raw uni r).2.1 + 1, (qr q raw uni r).2.2) := by
  rw [qr.eq_def]
  have h1 : (nn c == 92) = false := by simpa using hc
  have h2 : (nn c == 10 && q.length != 3) = false := by
    by_cases h3 : nn c = 10
    · rw [hn h3]; simp
    · have : (nn c == 10) = false := by simpa using h3
      rw [this]; rfl
  simp only [h, h1, h2, Bool.false_eq_true, if_false]

end Go.Proofs.YtngofbhlhcalpaaGreatDoor.lexer

namespace Go.Proofs.YtngofbhlhcalpaaGreatDoor.lexer
open Go.RowKit Go.Proofs.YtngofbhlhcalpaaGreatDoor.gen

theorem list_fn {α : Type} (L : List α) (d : α) (n : Nat) (h : L.length = n) : L = (List.range n).map (fun j => L.getD j d) := by
  subst h
  refine List.ext_getElem (by simp) fun i h1 h2 => ?_
  simp [List.getD, List.getElem?_eq_getElem h1]

set_option maxRecDepth 1000000 in
/-- The scratch slots of a frame. -/
def uls (U : Nat → Value) : List Value := [U 17, U 18, U 19, U 20, U 21, U 22, U 23, U 24, U 25, U 26, U 27, U 28, U 29, U 30, U 31, U 32, U 33, U 34, U 35, U 36, U 37, U 38, U 39, U 40, U 41, U 42, U 43, U 44, U 45, U 46, U 47, U 48, U 49, U 50, U 51, U 52, U 53, U 54, U 55, U 56, U 57, U 58, U 59, U 60, U 61, U 62, U 63, U 64, U 65, U 66, U 67, U 68, U 69, U 70, U 71, U 72, U 73, U 74, U 75, U 76, U 77, U 78, U 79, U 80, U 81, U 82, U 83, U 84, U 85, U 86, U 87, U 88, U 89, U 90, U 91, U 92, U 93, U 94, U 95, U 96, U 97, U 98, U 99, U 100, U 101, U 102, U 103, U 104, U 105, U 106, U 107, U 108, U 109, U 110, U 111, U 112, U 113, U 114, U 115, U 116, U 117, U 118, U 119, U 120, U 121, U 122, U 123, U 124, U 125, U 126, U 127, U 128, U 129, U 130, U 131, U 132, U 133, U 134, U 135, U 136, U 137, U 138, U 139, U 140, U 141, U 142, U 143, U 144, U 145, U 146, U 147, U 148, U 149, U 150, U 151, U 152, U 153, U 154, U 155, U 156, U 157, U 158, U 159, U 160, U 161, U 162, U 163, U 164, U 165, U 166, U 167, U 168, U 169, U 170, U 171, U 172, U 173, U 174, U 175, U 176, U 177, U 178, U 179, U 180, U 181, U 182, U 183, U 184, U 185, U 186, U 187, U 188, U 189, U 190, U 191, U 192, U 193, U 194, U 195, U 196, U 197, U 198, U 199, U 200, U 201, U 202, U 203, U 204, U 205, U 206, U 207, U 208, U 209, U 210, U 211, U 212, U 213, U 214, U 215, U 216, U 217, U 218, U 219, U 220, U 221, U 222, U 223, U 224, U 225, U 226, U 227, U 228, U 229, U 230, U 231, U 232, U 233, U 234, U 235, U 236, U 237, U 238, U 239, U 240, U 241, U 242, U 243, U 244, U 245, U 246, U 247, U 248, U 249, U 250, U 251, U 252, U 253, U 254, U 255, U 256, U 257, U 258, U 259, U 260, U 261, U 262, U 263, U 264, U 265, U 266, U 267, U 268, U 269, U 270, U 271, U 272, U 273, U 274, U 275, U 276, U 277, U 278, U 279, U 280, U 281, U 282, U 283, U 284, U 285, U 286, U 287, U 288, U 289, U 290, U 291, U 292, U 293, U 294, U 295, U 296, U 297, U 298, U 299, U 300, U 301, U 302, U 303, U 304, U 305, U 306, U 307, U 308, U 309, U 310, U 311, U 312, U 313, U 314, U 315, U 316, U 317, U 318, U 319, U 320, U 321, U 322, U 323, U 324, U 325, U 326, U 327, U 328, U 329, U 330, U 331, U 332, U 333, U 334, U 335, U 336, U 337, U 338, U 339, U 340, U 341, U 342, U 343, U 344, U 345, U 346, U 347, U 348, U 349, U 350, U 351, U 352, U 353, U 354, U 355, U 356, U 357, U 358, U 359, U 360, U 361, U 362, U 363, U 364, U 365, U 366, U 367, U 368, U 369, U 370, U 371, U 372, U 373, U 374, U 375, U 376, U 377, U 378, U 379, U 380, U 381, U 382, U 383, U 384, U 385, U 386, U 387, U 388, U 389, U 390, U 391, U 392, U 393, U 394, U 395, U 396, U 397, U 398, U 399, U 400, U 401, U 402, U 403, U 404, U 405, U 406, U 407, U 408, U 409, U 410, U 411, U 412, U 413, U 414, U 415, U 416, U 417, U 418, U 419, U 420, U 421, U 422, U 423, U 424, U 425, U 426, U 427, U 428, U 429, U 430, U 431, U 432, U 433, U 434, U 435, U 436, U 437, U 438, U 439, U 440, U 441, U 442, U 443, U 444, U 445, U 446, U 447, U 448, U 449, U 450, U 451, U 452, U 453, U 454, U 455, U 456, U 457, U 458, U 459, U 460, U 461, U 462, U 463, U 464, U 465, U 466, U 467, U 468, U 469, U 470, U 471, U 472, U 473, U 474, U 475, U 476, U 477, U 478, U 479, U 480, U 481, U 482, U 483, U 484, U 485, U 486, U 487, U 488, U 489, U 490, U 491, U 492, U 493, U 494, U 495, U 496, U 497, U 498, U 499, U 500, U 501, U 502, U 503, U 504, U 505, U 506, U 507, U 508, U 509, U 510, U 511]

set_option maxRecDepth 1000000 in
theorem list_letters (L : List Value) (h : L.length = 495) : ∃ U : Nat → Value, L = uls U := by
  refine ⟨fun n => L.getD (n - 17) undef, ?_⟩
  exact (list_fn L undef 495 h).trans (by kernel_rfl)

end Go.Proofs.YtngofbhlhcalpaaGreatDoor.lexer

namespace Go.Proofs.YtngofbhlhcalpaaGreatDoor.lexer
open Go.RowKit Go.Proofs.YtngofbhlhcalpaaGreatDoor.gen
open Go.Proofs.YtngofbhlhcalpaaGreatDoor.upper (bv bv_len)

theorem textNil {P : Program} (w : World) (src dst e : TypeId) (hs : P.underlying src = some (.slice e)) (he : P.underlying e = some (.int .u8)) (hd : P.underlying dst = some .string) :
    (convert src dst (.slice none 0 0)).run P w = .ok (.string ⟨#[]⟩) w := by
  rw [run_convert_bytes_string w src dst e none 0 0 hs he hd]
  rfl

theorem textAny {P : Program} {w : World} {base : Nat} {v : Value} {l : List UInt8} (src dst e : TypeId) (hs : P.underlying src = some (.slice e)) (he : P.underlying e = some (.int .u8)) (hd : P.underlying dst = some .string)
    (h : OwnC w base v (bv l)) : (convert src dst v).run P w = .ok (.string ⟨l.toArray⟩) w := by
  have h0 := h
  rcases h with ⟨rfl, hx⟩ | ⟨g, cap, rfl, _⟩
  · have : l = [] := by cases l with
      | nil => rfl
      | cons a b => simp [bv] at hx
    subst this
    exact textNil w src dst e hs he hd
  · exact OwnC.text src dst e hs he hd h0

theorem own_len {w : World} {base : Nat} {v : Value} {l : List UInt8} (h : OwnC w base v (bv l)) : ∃ a cap, v = .slice a l.length cap := by
  rcases h with ⟨rfl, hx⟩ | ⟨g, cap, rfl, _⟩
  · have : l = [] := by cases l with
      | nil => rfl
      | cons a b => simp [bv] at hx
    subst this
    exact ⟨_, _, rfl⟩
  · exact ⟨some ⟨g, 0, none⟩, cap, by rw [bv_len]⟩

theorem ext_suf_min (s : ByteArray) (p N : Nat) : (s.extract p (min (p + N) s.size)).data.toList = (suf s p).take N := by
  rw [ByteArray.data_extract, Array.toList_extract]
  unfold suf
  have hl : s.data.toList.length = s.size := len_list s
  rw [List.take_drop]
  rcases Nat.le_total (p + N) s.size with h | h
  · rw [Nat.min_eq_left h]; simp [List.take_drop]
  · rw [Nat.min_eq_right h]
    simp
    rw [List.take_of_length_le (by simp <;> omega), List.take_of_length_le (by simp <;> omega)]

theorem bytes_ext {a b : ByteArray} (h : a.data.toList = b.data.toList) : a = b := by
  cases a with | mk a => cases b with | mk b => exact congrArg ByteArray.mk (Array.toList_inj.1 h)

end Go.Proofs.YtngofbhlhcalpaaGreatDoor.lexer

namespace Go.Proofs.YtngofbhlhcalpaaGreatDoor.lexer
open Go.RowKit Go.Proofs.YtngofbhlhcalpaaGreatDoor.gen
open Go.Proofs.YtngofbhlhcalpaaGreatDoor.upper (bv bv_len)

/-- The literal ends badly. -/
def QBad (ident : Bool) (z : List UInt8 × Nat × QEnd) : Prop := z.2.2 ≠ .closed ∨ (ident && z.1.isEmpty) = true

/-- What consumeQuotedContent gives. -/
def QuoRes (lb fb : Nat) (fp s : ByteArray) (x : LX) (Q : List UInt8) (raw uni ident np : Bool) (w : World) (e : Ending) (w' : World) : Prop :=
  (∃ bs n, qr Q raw uni (suf s (x.p + Q.length)) = (bs, n, .closed) ∧ (ident && bs.isEmpty) = false ∧ Goes (.tuple #[.string ⟨bs.toArray⟩, .bool false]) lb fb fp s { x with p := x.p + (Q.length + n + Q.length) } w e w') ∨
  (∃ off, (∀ kind, qtok Q raw uni ident kind (suf s x.p) = .bad off) ∧ np = false ∧ FaultL lb fb (x.p + off) w e w') ∨
  (∃ n t b, QBad ident (qr Q raw uni (suf s (x.p + Q.length))) ∧ np = true ∧ 0 < n ∧ Goes (.tuple #[.string t, .bool b]) lb fb fp s { x with p := x.p + n } w e w')

/-- The state at a round's head, in plain words: k bytes are read, they mean l; he: a fault was met. -/
structure QS (s : ByteArray) (p : Nat) (Q : List UInt8) (raw uni ident np : Bool) (z : List UInt8 × Nat × QEnd) (k : Nat) (l : List UInt8) (he : Bool) : Prop where
  lo : Q.length ≤ k
  hi : p + k ≤ s.size
  len : l.length ≤ k
  st : (he = false ∧ l ++ (qr Q raw uni (suf s (p + k))).1 = z.1 ∧ k + (qr Q raw uni (suf s (p + k))).2.1 = Q.length + z.2.1 ∧ (qr Q raw uni (suf s (p + k))).2.2 = z.2.2) ∨ (np = true ∧ QBad ident z)

section
variable {s : ByteArray} {p : Nat} {Q : List UInt8} {raw uni ident np : Bool} {z : List UInt8 × Nat × QEnd} {k : Nat} {l : List UInt8} {he : Bool}

/-- One step on: n bytes that mean bs. -/
theorem QS.on (h : QS s p Q raw uni ident np z k l he) (n : Nat) (bs : List UInt8) (hn : p + (k + n) ≤ s.size) (hb : bs.length ≤ n)
    (hq : qr Q raw uni (suf s (p + k)) = (bs ++ (qr Q raw uni (suf s (p + (k + n)))).1, (qr Q raw uni (suf s (p + (k + n)))).2.1 + n, (qr Q raw uni (suf s (p + (k + n)))).2.2)) :
    QS s p Q raw uni ident np z (k + n) (l ++ bs) he := by
  refine ⟨by have := h.lo; omega, hn, by have := h.len; rw [List.length_append]; omega, ?_⟩
  rcases h.st with ⟨h0, h1, h2, h3⟩ | h1
  · rw [hq] at h1 h2 h3
    refine .inl ⟨h0, by rw [List.append_assoc]; exact h1, ?_, h3⟩
    simp only at h2
    omega
  · exact .inr h1

/-- A fault is passed over. -/
theorem QS.fault (h : QS s p Q raw uni ident np z k l he) (hp : np = true) (hb : he = false → (qr Q raw uni (suf s (p + k))).2.2 ≠ .closed) (n : Nat) (hn : p + (k + n) ≤ s.size) (he' : Bool) :
    QS s p Q raw uni ident np z (k + n) l he' := by
  refine ⟨by have := h.lo; omega, hn, by have := h.len; omega, .inr ⟨hp, ?_⟩⟩
  rcases h.st with ⟨h0, h1, h2, h3⟩ | h1
  · exact .inl (by rw [← h3]; exact hb h0)
  · exact h1.2

theorem QS.exact (h : QS s p Q raw uni ident np z k l he) (hp : np = false) : he = false ∧ l ++ (qr Q raw uni (suf s (p + k))).1 = z.1 ∧ k + (qr Q raw uni (suf s (p + k))).2.1 = Q.length + z.2.1 ∧ (qr Q raw uni (suf s (p + k))).2.2 = z.2.2 := by
  rcases h.st with h1 | h1
  · exact h1
  · rw [hp] at h1; exact absurd h1.1 (by simp)

theorem suf_drop' (s : ByteArray) (p k : Nat) : (suf s p).drop k = suf s (p + k) := by unfold suf; rw [List.drop_drop]

theorem qtok_bad (hz : qr Q raw uni (suf s (p + Q.length)) = z) (off : Nat) (hb : (z.2.2 = .escape ∧ off = Q.length + z.2.1) ∨ (z.2.2 = .unclosed ∧ off = 0) ∨ (z.2.2 = .newline ∧ off = 0) ∨ (z.2.2 = .closed ∧ (ident && z.1.isEmpty) = true ∧ off = 0)) :
    ∀ kind, qtok Q raw uni ident kind (suf s p) = .bad off := by
  intro kind
  unfold qtok
  rw [suf_drop', hz]
  obtain ⟨a, b, d⟩ := z
  rcases hb with ⟨h1, h2⟩ | ⟨h1, h2⟩ | ⟨h1, h2⟩ | ⟨h1, h3, h2⟩ <;> simp only at h1 h2 <;> subst h1 h2
  · rfl
  · rfl
  · rfl
  · simp only at h3; simp only [h3, if_true]

theorem qtok_ok {t : Tk} {kind : ByteArray} (hz : qr Q raw uni (suf s (p + Q.length)) = z) (h : qtok Q raw uni ident kind (suf s p) = .ok t) : ¬ QBad ident z := by
  intro hb
  unfold qtok at h
  rw [suf_drop', hz] at h
  obtain ⟨a, b, d⟩ := z
  rcases hb with hb | hb
  · cases d <;> first | (exact hb rfl) | (cases h)
  · cases d
    · simp only at hb; simp only [hb, if_true] at h; cases h
    · cases h
    · cases h
    · cases h

/-- Where a backslash stands there is room, or it opens a good escape. -/
theorem QS.room (h : QS s p Q raw uni ident np z k l he) (hz : qr Q raw uni (suf s (p + Q.length)) = z) (hok : NB s ∨ ∃ t, qtok Q raw uni ident kNone (suf s p) = .ok t) (c : UInt8) (hc : nn c = 92)
    (hb : byt s ((p : Int) + (k : Int)) = nn c) : p + k + 9 < s.size ∨ (np = false ∨ np = true) ∧ (qr Q raw uni (suf s (p + k))).2.2 = .closed := by
  rcases hok with h1 | ⟨t, ht⟩
  · left
    exact h1 (p + k) (by rw [show ((p + k : Nat) : Int) = (p : Int) + (k : Int) from by omega, hb, hc])
  · right
    have hn := qtok_ok hz ht
    refine ⟨by cases np <;> simp, ?_⟩
    rcases h.st with ⟨_, _, _, h3⟩ | h1
    · rw [h3]
      cases hzz : z.2.2 with
      | closed => rfl
      | unclosed => exact absurd (.inl (by rw [hzz]; simp)) hn
      | newline => exact absurd (.inl (by rw [hzz]; simp)) hn
      | escape => exact absurd (.inl (by rw [hzz]; simp)) hn
    · exact absurd h1.2 hn
end

/-- The frame of the loop. -/
def QFr (lb : Nat) (q nm : ByteArray) (raw uni np : Bool) (i v he : Value) (L : List Value) : Array Value :=
  List.toArray (.pointer (some ⟨lb, 0, none⟩) :: .string q :: .bool raw :: .bool uni :: .string nm :: .bool np :: undef :: undef :: undef :: undef :: undef :: undef :: .string ⟨#[]⟩ :: .bool false :: i :: v :: he :: L)

structure QCtx (lb fb : Nat) (fp s : ByteArray) (x : LX) (q nm : ByteArray) (raw uni ident np : Bool) (z : List UInt8 × Nat × QEnd) (w : World) (k : Nat) (l : List UInt8) (he : Bool) (v : Value) (wr : World) : Prop where
  st : St w lb fb fp s x
  env : Env w lb fb
  frm : Frm w wr []
  own : OwnC wr w.heap.size v (bv l)
  qs : QS s x.p q.data.toList raw uni ident np z k l he
  size : s.size ≤ 1048576
  qpos : 0 < q.size ∧ q.size ≤ 3
  z : qr q.data.toList raw uni (suf s (x.p + q.data.toList.length)) = z
  ok : NB s ∨ ∃ t, qtok q.data.toList raw uni ident kNone (suf s x.p) = .ok t
  idn : (nm.toList == [105, 100, 101, 110, 116, 105, 102, 105, 101, 114]) = ident

def QInv (lb fb : Nat) (fp s : ByteArray) (x : LX) (q nm : ByteArray) (raw uni ident np : Bool) (z : List UInt8 × Nat × QEnd) (w : World) (a : Act) (w' : World) : Prop :=
  a.defers = [] ∧ ∃ (k : Nat) (l : List UInt8) (he : Bool) (v : Value) (L : List Value), QCtx lb fb fp s x q nm raw uni ident np z w k l he v w' ∧ a.tmps = QFr lb q nm raw uni np (.int .i64 k) v (.bool he) L ∧ L.length = 495

def Qmu (s : ByteArray) (a : Act) : Nat := s.size - (intOf (a.tmps.getD 14 undef)).toNat

/-- What a round gives. -/
def QPost (lb fb : Nat) (fp s : ByteArray) (x : LX) (q nm : ByteArray) (raw uni ident np : Bool) (z : List UInt8 × Nat × QEnd) (w : World) (k : Nat) : Exit → Act → World → Prop
  | .normal, a, w' => QInv lb fb fp s x q nm raw uni ident np z w a w' ∧ Qmu s a < s.size - k
  | .ret, a, w' => a.defers = [] ∧ QuoRes lb fb fp s x q.data.toList raw uni ident np w (.returned (.tuple #[a.tmps.getD 12 undef, a.tmps.getD 13 undef])) w'
  | .panic chain, a, w' => a.defers = [] ∧ QuoRes lb fb fp s x q.data.toList raw uni ident np w (.panicked chain) w'
  | .exit 0, a, w' => QInv lb fb fp s x q nm raw uni ident np z w a w' ∧ (s.size : Int) ≤ x.p + intOf (a.tmps.getD 14 undef)
  | _, _, _ => False

theorem QPost.next {lb fb : Nat} {fp s : ByteArray} {x : LX} {q nm : ByteArray} {raw uni ident np : Bool} {z : List UInt8 × Nat × QEnd} {w : World} {k : Nat} {i : Int} {k' : Nat} {l' : List UInt8} {he' : Bool} {v' : Value} {L : List Value} {w' : World}
    (hL : L.length = 495) (hi : i = (k' : Int)) (hC : QCtx lb fb fp s x q nm raw uni ident np z w k' l' he' v' w') (hlt : k < k') :
    QPost lb fb fp s x q nm raw uni ident np z w k .normal ⟨List.toArray (.pointer (some ⟨lb, 0, none⟩) :: .string q :: .bool raw :: .bool uni :: .string nm :: .bool np :: undef :: undef :: undef :: undef :: undef :: undef :: .string ⟨#[]⟩ :: .bool false :: .int .i64 i :: v' :: .bool he' :: L), []⟩ w' := by
  subst hi
  refine ⟨⟨rfl, k', l', he', v', L, hC, rfl, hL⟩, ?_⟩
  have h1 := hC.qs.hi
  show s.size - ((k' : Int)).toNat < s.size - k
  omega

theorem QPost.out {lb fb : Nat} {fp s : ByteArray} {x : LX} {q nm : ByteArray} {raw uni ident np : Bool} {z : List UInt8 × Nat × QEnd} {w : World} {k0 k : Nat} {l : List UInt8} {he : Bool} {v : Value} {L : List Value} {w' : World}
    (hL : L.length = 495) (hC : QCtx lb fb fp s x q nm raw uni ident np z w k l he v w') (hge : s.size ≤ x.p + k) :
    QPost lb fb fp s x q nm raw uni ident np z w k0 (.exit 0) ⟨List.toArray (.pointer (some ⟨lb, 0, none⟩) :: .string q :: .bool raw :: .bool uni :: .string nm :: .bool np :: undef :: undef :: undef :: undef :: undef :: undef :: .string ⟨#[]⟩ :: .bool false :: .int .i64 k :: v :: .bool he :: L), []⟩ w' := by
  refine ⟨⟨rfl, k, l, he, v, L, hC, rfl, hL⟩, ?_⟩
  show (s.size : Int) ≤ (x.p : Int) + (k : Int)
  omega

section
variable {lb fb : Nat} {fp s : ByteArray} {x : LX} {q nm : ByteArray} {raw uni ident np : Bool} {z : List UInt8 × Nat × QEnd} {w : World} {k : Nat} {l : List UInt8} {he : Bool} {v : Value} {wr : World}
theorem QCtx.st' (h : QCtx lb fb fp s x q nm raw uni ident np z w k l he v wr) : St wr lb fb fp s x := h.st.frm h.frm
theorem QCtx.env' (h : QCtx lb fb fp s x q nm raw uni ident np z w k l he v wr) : Env wr lb fb := h.env.frm h.frm (by simp)
theorem QCtx.next (h : QCtx lb fb fp s x q nm raw uni ident np z w k l he v wr) {k' : Nat} {l' : List UInt8} {he' : Bool} {v' : Value} {w' : World} (hF : Frm w w' []) (hO : OwnC w' w.heap.size v' (bv l'))
    (hQ : QS s x.p q.data.toList raw uni ident np z k' l' he') : QCtx lb fb fp s x q nm raw uni ident np z w k' l' he' v' w' :=
  ⟨h.st, h.env, hF, hO, hQ, h.size, h.qpos, h.z, h.ok, h.idn⟩
theorem QCtx.drewN (h : QCtx lb fb fp s x q nm raw uni ident np z w k l he v wr) (n : Nat) : QCtx lb fb fp s x q nm raw uni ident np z w k l he v (wr.drewN n) :=
  h.next (h.frm.drewN n) (h.own.below (gen.below_drewN (Below.refl _ _) n)) h.qs
end

noncomputable def firstLoop : Code → Option Code
  | .loop c => some c
  | .seq a b => match firstLoop a with
    | some c => some c
    | none => firstLoop b
  | .block _ c => firstLoop c
  | .scope c => firstLoop c
  | .cond _ a b => match firstLoop a with
    | some c => some c
    | none => firstLoop b
  | _ => none

noncomputable def qBody : Code := ((Tryz.f75.body.bind firstLoop).getD .skip)

theorem region_tail {P : Program} {id : Nat} {Q : Exit → Act → World → Prop} {a : Act} {w : World} {l : List Oper} (n : Nat) (hm : P.follows .mixedOrders = true) (hB : Region.lexTailB .any l.toArray n = true)
    (h : ∀ W, W = w.drewN 1 → wpStill P l.toArray W (fun a' => wpList P l.toArray Q (l.drop n) a' W) (l.take n) a) : (Code.region id l.toArray true).wp P Q a w :=
  wp_region_still_tail n hm hB (h _ rfl)

theorem errorfAt_int (lb fb : Nat) (fp s : ByteArray) (x : LX) (P R : Int) (p r : Nat) (msg : ByteArray) (w : World) (hs : s.size ≤ 1048576) (hP : P = (p : Int)) (hR : R = (r : Int)) (hp : p ≤ r) (hq : r ≤ s.size) (h : St w lb fb fp s x) (hE : Env w lb fb) :
    Calls Tryz.prog 100 #[.pointer (some ⟨lb, 0, none⟩), .int .i64 P, .int .i64 R, .string msg] w (ErrRes fb p w) := by
  subst hP hR
  exact errorfAt_any lb fb fp s x p r msg w hs hp hq h hE

theorem panicfAt_int (lb fb : Nat) (fp s : ByteArray) (x : LX) (P R : Int) (p r : Nat) (msg : ByteArray) (w : World) (hs : s.size ≤ 1048576) (hP : P = (p : Int)) (hR : R = (r : Int)) (hp : p ≤ r) (hq : r ≤ s.size) (h : St w lb fb fp s x) (hE : Env w lb fb) :
    Calls Tryz.prog 94 #[.pointer (some ⟨lb, 0, none⟩), .int .i64 P, .int .i64 R, .string msg] w (Fault fb p w) := by
  subst hP hR
  exact panicfAt_any lb fb fp s x p r msg w hs hp hq h hE

theorem frm_own {a w w' : World} {v : Value} {xs : List Value} (h : Frm a w []) (ho : OwnC w a.heap.size v xs) (hg : w.grownBy w' v.ownBlock) : Frm a w' [] := by
  refine h.trans (Frm.grown (S := v.ownBlock.toList) hg ?_) ?_
  · intro k hk; left; rw [hk]; simp
  · intro y hy
    right
    cases hv : v.ownBlock with
    | none => rw [hv] at hy; simp at hy
    | some g =>
      rw [hv] at hy
      have : y = g := by simpa using hy
      subst this
      exact (ho.lt y hv).1

theorem bv_snoc (l : List UInt8) (c : UInt8) : bv (l ++ [c]) = bv l ++ [.int .u8 (nn c)] := by simp [bv, nn]
theorem info_u8 : (Tryz.prog.info? 5).map (fun i => (i.zero, i.size, i.bytes)) = some (some (.int .u8 0), 1, 1) := by kernel_rfl

/-- The comparison with the delimiter, as the walk has it. -/
theorem delim_eq (s q : ByteArray) (p k : Nat) : ((s.extract (p + k) (min (p + (k + q.size)) s.size)).toList == q.toList) = ((suf s (p + k)).take q.data.toList.length == q.data.toList) := by
  rw [ByteArray.toList_eq, ByteArray.toList_eq, show p + (k + q.size) = p + k + q.size from by omega, ext_suf_min, len_list]

theorem slice_int (lb fb : Nat) (s : ByteArray) (p : Nat) (A B : Int) (a b : Nat) (t : ByteArray) (w : World) (h : Rd w lb fb s p) (hA : A = (a : Int)) (hB : B = (b : Int)) (hb : b ≤ 2147483648) (hab : a ≤ b) (ha : p + a ≤ s.size) (ht : t = s.extract (p + a) (min (p + b) s.size)) :
    Calls Tryz.prog 80 #[.pointer (some ⟨lb, 0, none⟩), .int .i64 A, .int .i64 B] w (Drawn (.string t) w) := by
  subst hA hB
  exact slice_any lb fb s p a b t w h hb hab ha ht

section
variable {lb fb : Nat} {fp s : ByteArray} {x : LX} {q nm : ByteArray} {raw uni ident np : Bool} {z : List UInt8 × Nat × QEnd} {w : World} {k : Nat} {l : List UInt8} {he : Bool} {v : Value} {W : World}
  {ops : Array Oper} {rest : List Oper} {o : Oper} {a : Act} {Q : Exit → Act → World → Prop}

theorem app_list (hF : Frm w W []) (hO : OwnC W w.heap.size v (bv l)) (hgd : o.guard = none) (S X : Operand) (ho : o.op = .call { callee := .builtin .append, args := #[S, X], argTypes := #[44, 44] }) (hs : a.eval S = v)
    (ad : Addr) (m c : Nat) (bs : List UInt8) (hx : a.eval X = .slice (some ad) m c) (hm : bs.length = m) (hpos : 0 < m) (hm2 : m ≤ 1048576) (hnews : ∀ j u, (bv bs)[j]? = some u → W.cell? (ad.add j) = some u) (hl : l.length ≤ 1048576)
    (h : ∀ g' cap' w', OwnC w' w.heap.size (.slice (some ⟨g', 0, none⟩) (l.length + m) cap') (bv (l ++ bs)) → Frm w w' [] → wpList Tryz.prog ops Q rest (a.put o.dst (.slice (some ⟨g', 0, none⟩) (l.length + m) cap')) w') :
    wpList Tryz.prog ops Q (o :: rest) a W := by
  obtain ⟨i0, hi, hz0, hz1, hz2⟩ := info_parts info_u8
  refine wpList_append_ownC _ hgd S X 44 ho w.heap.size 5 i0 (.int .u8 0) 1 Tryz.underlying44 hi hz0 hz1 hz2 rfl v l.length (bv l) hs (bv_len l) hO ad m c (bv bs) hx (by rw [bv_len]; exact hm) hpos hnews ?_ (by unfold maxLen; omega) (by omega) hF.size ?_
  · intro u hu
    obtain ⟨b, _, rfl⟩ := List.mem_map.1 hu
    rfl
  · intro g' cap' w' h1 h2 h3
    exact h g' cap' w' (by rw [show bv (l ++ bs) = bv l ++ bv bs from by simp [bv]]; exact h1) (frm_own hF hO h2)

theorem app_one (hF : Frm w W []) (hO : OwnC W w.heap.size v (bv l)) (hgd : o.guard = none) (S X : Operand) (ho : o.op = .call { callee := .builtin .append, args := #[S, X], argTypes := #[44, 44] }) (hs : a.eval S = v)
    (y : Int) (b : UInt8) (hy : y = nn b) (hx : a.eval X = .slice (some ⟨W.heap.size, 0, none⟩) 1 1) (hl : l.length ≤ 1048576)
    (h : ∀ g' cap' w', OwnC w' w.heap.size (.slice (some ⟨g', 0, none⟩) (l.length + 1) cap') (bv (l ++ [b])) → Frm w w' [] → wpList Tryz.prog ops Q rest (a.put o.dst (.slice (some ⟨g', 0, none⟩) (l.length + 1) cap')) w') :
    wpList Tryz.prog ops Q (o :: rest) a (W.alloc (.cells #[.int .u8 y] 5)) := by
  subst hy
  exact app_list (hF.alloc _) (hO.alloc _) hgd S X ho hs ⟨W.heap.size, 0, none⟩ 1 1 [b] hx rfl (by decide) (by decide) (cell_one_at _ _ _ _ rfl) hl h

theorem app_two (hF : Frm w W []) (hO : OwnC W w.heap.size v (bv l)) (hgd : o.guard = none) (S X : Operand) (ho : o.op = .call { callee := .builtin .append, args := #[S, X], argTypes := #[44, 44] }) (hs : a.eval S = v)
    (y y2 : Int) (b b2 : UInt8) (hy : y = nn b) (hy2 : y2 = nn b2) (hx : a.eval X = .slice (some ⟨W.heap.size, 0, none⟩) 2 2) (hl : l.length ≤ 1048576)
    (h : ∀ g' cap' w', OwnC w' w.heap.size (.slice (some ⟨g', 0, none⟩) (l.length + 2) cap') (bv (l ++ [b, b2])) → Frm w w' [] → wpList Tryz.prog ops Q rest (a.put o.dst (.slice (some ⟨g', 0, none⟩) (l.length + 2) cap')) w') :
    wpList Tryz.prog ops Q (o :: rest) a (W.alloc (.cells #[.int .u8 y, .int .u8 y2] 5)) := by
  subst hy hy2
  refine app_list (hF.alloc _) (hO.alloc _) hgd S X ho hs ⟨W.heap.size, 0, none⟩ 2 2 [b, b2] hx rfl (by decide) (by decide) (fun j u hj => ?_) hl h
  rcases j with _ | _ | j
  · simp [bv] at hj; subst hj; simp [Addr.add, nn]
  · simp [bv] at hj; subst hj; simp [Addr.add, nn]
  · simp [bv] at hj
end

end Go.Proofs.YtngofbhlhcalpaaGreatDoor.lexer

namespace Go.Proofs.YtngofbhlhcalpaaGreatDoor.lexer
open Go.RowKit Go.Proofs.YtngofbhlhcalpaaGreatDoor.gen
open Go.Lib (headSpace isSpaceR decodeL)

theorem dec_bounds (l : ByteArray) : 1 ≤ (Go.Utf8.decode l 0).2 ∧ (Go.Utf8.decode l 0).1 ≤ 2147483647 := by
  unfold Go.Utf8.decode
  simp only
  have h : ∀ k, (l.get! k).toNat < 256 := fun k => (l.get! k).toNat_lt
  have h0 := h (0 + 0)
  have h1 := h (0 + 1)
  have h2 := h (0 + 2)
  have h3 := h (0 + 3)
  repeat' split
  all_goals (refine ⟨by simp, ?_⟩)
  all_goals (simp only [Go.Utf8.runeError])
  all_goals omega

theorem dec_suf (s : ByteArray) (p : Nat) (h : p < s.size) : Go.Lib.decodeGo (s.extract p s.size) = decodeL (suf s p) := by
  have h1 : s.extract p s.size = ⟨(suf s p).toArray⟩ := by
    refine bytes_ext ?_
    have := ext_suf_min s p (s.size - p)
    rw [show min (p + (s.size - p)) s.size = s.size from by omega] at this
    rw [this, List.take_of_length_le (by rw [suf_len]; exact Nat.le_refl _)]
  have h2 : (s.extract p s.size).size ≠ 0 := by
    rw [h1]
    show (suf s p).toArray.size ≠ 0
    rw [List.size_toArray, suf_len]; omega
  unfold Go.Lib.decodeGo decodeL
  rw [if_neg h2, h1]

theorem spc_zero (l : List UInt8) (h : headSpace l = 0) : spc l = 0 := by rw [spc.eq_def, dif_pos h]
theorem spc_on (l : List UInt8) (h : ¬ headSpace l = 0) : spc l = headSpace l + spc (l.drop (headSpace l)) := by rw [spc.eq_def, dif_neg h]

/-- Whether a blank stands there, as Go's functions have it. -/
theorem blank_at (s : ByteArray) (p : Nat) (h : p < s.size) : (isSpaceR (decodeL (suf s p)).1 = true ∧ headSpace (suf s p) = (decodeL (suf s p)).2 ∧ 1 ≤ (decodeL (suf s p)).2 ∧ p + (decodeL (suf s p)).2 ≤ s.size ∧ spc (suf s p) = (decodeL (suf s p)).2 + spc (suf s (p + (decodeL (suf s p)).2))) ∨
    (isSpaceR (decodeL (suf s p)).1 = false ∧ spc (suf s p) = 0) := by
  have hne : suf s p ≠ [] := by
    intro h1
    have := suf_len s p
    rw [h1] at this
    simp at this; omega
  have he := Go.Lib.headSpace_eq (suf s p) hne
  have hb : 1 ≤ (decodeL (suf s p)).2 := (dec_bounds _).1
  cases hsp : isSpaceR (decodeL (suf s p)).1 with
  | true =>
    rw [hsp, if_pos rfl] at he
    left
    have hle := headSpace_le (suf s p)
    rw [suf_len] at hle
    refine ⟨rfl, he, hb, by omega, ?_⟩
    rw [spc_on _ (by omega), suf_drop', he]
  | false =>
    rw [hsp] at he
    exact .inr ⟨rfl, spc_zero _ (by simpa using he)⟩

set_option maxRecDepth 100000 in
set_option maxHeartbeats 4000000 in
theorem skipSpaces_any (lb fb : Nat) (fp s : ByteArray) (x : LX) (w : World) (hE : Env w lb fb) (hS : St w lb fb fp s x) (N : Nat) (hN : spc (suf s x.p) = N) :
    Calls Tryz.prog 49 #[.pointer (some ⟨lb, 0, none⟩)] w (Goes (.tuple #[]) lb fb fp s { x with p := x.p + N } w) := by
  have HS := Lib.hid hS
  have HE := Lib.hid hE
  have HN := Lib.hid hN
  have hsz := hS.sz
  have hpz := hS.pz
  clear hS hE hN
  go_enter Tryz.func49, Tryz.ntmps49
  go_wp2_with fail
  go_loopg [2] s.size (fun g _ wr => ∃ k : Nat, g = s.size - k ∧ x.p + k ≤ s.size ∧ Hid (St wr lb fb fp s { x with p := x.p + k } ∧ Frm w wr [lb] ∧ k + spc (suf s (x.p + k)) = N))
  case atStart => exact ⟨0, rfl, hpz, HS.out, Frm.refl _ _, by simpa using HN.out⟩
  case round =>
    obtain ⟨k, hg, hpk, HK⟩ := hrel
    have hR := HK.out.1.rd
    by_cases hlt : x.p + k < s.size
    · have hB := blank_at s (x.p + k) hlt
      have hDL := dec_suf s (x.p + k) hlt
      have hbd : 1 ≤ (decodeL (suf s (x.p + k))).2 ∧ (decodeL (suf s (x.p + k))).1 ≤ 2147483647 := dec_bounds ⟨(suf s (x.p + k)).toArray⟩
      obtain ⟨r, z, hrz⟩ : ∃ r z, decodeL (suf s (x.p + k)) = (r, z) := ⟨_, _, rfl⟩
      rw [hrz] at hB hDL hbd
      have HDec := Lib.hid (show ∀ W, Env W lb fb → Calls Tryz.prog 62 #[.string (s.extract (x.p + k) s.size)] W (fun e w' => e = .returned (.tuple #[.int .i32 (r : Int), .int .i64 (z : Int)]) ∧ Below W.heap.size W w') from fun W hW => by
        have := Tryz.utf8_DecodeRuneInString (s.extract (x.p + k) s.size) W hW.tabs.utf
        rw [hDL] at this
        exact this)
      have HSp := Lib.hid (show ∀ W, Env W lb fb → Calls Tryz.prog 63 #[.int .i32 (r : Int)] W (fun e w' => e = .returned (.bool (isSpaceR r)) ∧ ∃ q, w' = W.drewN q) from fun W hW => by
        have := Tryz.unicode_IsSpace_any_d (r : Int) W (by omega) (by have := hbd.2; simp only at this; omega) hW.tabs.white
        rw [Go.Lib.isSpaceZ_nat] at this
        exact this)
      have HEk := Lib.hid (HE.out.frm HK.out.2.1 (by simp))
      have e0 : (0 : Int) ≤ ((x.p + k : Nat) : Int) := by omega
      have e1 : ((x.p + k : Nat) : Int) ≤ (s.size : Int) := by omega
      have c0 : wr.cell? ⟨lb, 0, none⟩ = some (.pointer (some ⟨fb, 0, none⟩)) := hR.c0
      have c9 : wr.cell? ⟨lb, 9, none⟩ = some (.int .i64 ((x.p + k : Nat) : Int)) := hR.c9
      have cB : wr.cell? ⟨fb, 1, none⟩ = some (.string s) := hR.cB
      obtain ⟨B, hBv⟩ : ∃ B, isSpaceR r = B := ⟨_, rfl⟩
      rw [hBv] at HSp hB
      clear hDL hbd hrz hBv hpz
      cases B with
      | true =>
        have hB2 : z + (x.p + k) ≤ s.size ∧ 1 ≤ z ∧ spc (suf s (x.p + k)) = z + spc (suf s (x.p + k + z)) := by
          rcases hB with ⟨_, h2, h3, h4, h5⟩ | ⟨h, _⟩
          · exact ⟨by omega, h3, h5⟩
          · cases h
        obtain ⟨hz1, hz2, hz3⟩ := hB2
        have HZ := Lib.hid hz3
        clear hB hz3
        go_wp2_with (first | (go_at_call 61; first | ((with_reducible refine (eof_yes _ _ _ _ _ (hR.drewN _) ?_).mono ?_); omega; rintro e w' ⟨rfl, nq, rfl⟩) | ((with_reducible refine (eof_yes _ _ _ _ _ hR ?_).mono ?_); omega; rintro e w' ⟨rfl, nq, rfl⟩) | ((with_reducible refine (eof_no _ _ _ _ _ (hR.drewN _) ?_).mono ?_); omega; rintro e w' ⟨rfl, nq, rfl⟩) | ((with_reducible refine (eof_no _ _ _ _ _ hR ?_).mono ?_); omega; rintro e w' ⟨rfl, nq, rfl⟩)))
        go_region_with (go_at_call 62; refine (HDec.out _ (HEk.out.drewN _)).mono ?_; rintro e w6 ⟨rfl, hb6⟩)
        all_goals
          have hF6 : Frm wr w6 [] := ((Frm.refl wr []).drewN _).step (Frm.ofBelow hb6 [])
          have HS6 := Lib.hid (HK.out.1.frm hF6)
          have HE6 := Lib.hid (HEk.out.frm hF6 (by simp))
          have HF6 := Lib.hid (HK.out.2.1.step (hF6.mono (by simp)))
          clear hb6 hF6
          go_wp2_with fail
          refine (HSp.out _ HE6.out).mono ?_
          rintro e w7 ⟨rfl, q7, rfl⟩
          go_wp2_with fail
          refine (skipN_any lb fb fp s _ z { x with p := x.p + (k + z) } _ (HS6.out.drewN _) ⟨by omega, by show ((x.p + k : Nat) : Int) + _ ≤ _; omega⟩ (by show _ = { x with p := (((x.p + k : Nat) : Int) + (z : Int)).toNat }; congr 1; omega)).mono ?_
          rintro e w8 ⟨rfl, hS8, hF8⟩
          have HS8 := Lib.hid hS8
          have HF8 := Lib.hid ((HF6.out.drewN _).step hF8)
          clear hS8 hF8
          go_wp2_with fail
          go_roundg (s.size - (k + z))
          case measure => omega
          case rel => exact ⟨k + z, rfl, by omega, HS8.out, HF8.out, by have := HK.out.2.2; rw [HZ.out] at this; rw [show x.p + (k + z) = x.p + k + z from by omega]; omega⟩
      | false =>
        have hB2 : spc (suf s (x.p + k)) = 0 := by
          rcases hB with ⟨h, _⟩ | ⟨_, h⟩
          · cases h
          · exact h
        have hk : k = N := by have := HK.out.2.2; omega
        subst hk
        clear hB hB2
        go_wp2_with (first | (go_at_call 61; first | ((with_reducible refine (eof_yes _ _ _ _ _ (hR.drewN _) ?_).mono ?_); omega; rintro e w' ⟨rfl, nq, rfl⟩) | ((with_reducible refine (eof_yes _ _ _ _ _ hR ?_).mono ?_); omega; rintro e w' ⟨rfl, nq, rfl⟩) | ((with_reducible refine (eof_no _ _ _ _ _ (hR.drewN _) ?_).mono ?_); omega; rintro e w' ⟨rfl, nq, rfl⟩) | ((with_reducible refine (eof_no _ _ _ _ _ hR ?_).mono ?_); omega; rintro e w' ⟨rfl, nq, rfl⟩)))
        go_region_with (go_at_call 62; refine (HDec.out _ (HEk.out.drewN _)).mono ?_; rintro e w6 ⟨rfl, hb6⟩)
        all_goals
          have hF6 : Frm wr w6 [] := ((Frm.refl wr []).drewN _).step (Frm.ofBelow hb6 [])
          have HS6 := Lib.hid (HK.out.1.frm hF6)
          have HE6 := Lib.hid (HEk.out.frm hF6 (by simp))
          have HF6 := Lib.hid (HK.out.2.1.step (hF6.mono (by simp)))
          clear hb6 hF6
          go_wp2_with fail
          refine (HSp.out _ HE6.out).mono ?_
          rintro e w7 ⟨rfl, q7, rfl⟩
          go_wp2_with fail
          refine bodyPost_ret (results_none rfl _ _ _) rfl ⟨rfl, HS6.out.drewN _, HF6.out.drewN _⟩
    · have hk : k = N := by
        have h1 := HK.out.2.2
        rw [suf_nil s _ (by omega)] at h1
        have h2 : spc [] = 0 := spc_zero _ (by decide)
        omega
      subst hk
      have hge2 : s.size ≤ x.p + k := by omega
      go_wp2_with (go_at_call 61; refine (eof_yes lb fb s (x.p + k) _ hR hge2).mono ?_; rintro e w' ⟨rfl, nq, rfl⟩)
      go_end0
      exact ⟨rfl, HK.out.1.drewN _, HK.out.2.1.drewN _⟩

end Go.Proofs.YtngofbhlhcalpaaGreatDoor.lexer

namespace Go.Proofs.YtngofbhlhcalpaaGreatDoor.lexer
open Go.RowKit Go.Proofs.YtngofbhlhcalpaaGreatDoor.gen
open Go.Proofs.YtngofbhlhcalpaaGreatDoor.upper (bv bv_len)


set_option maxRecDepth 100000 in
set_option maxHeartbeats 4000000 in
theorem round_end
    (lb fb : Nat) (fp s : ByteArray) (x : LX) (q nm : ByteArray) (raw uni ident np : Bool) (z : List UInt8 × Nat × QEnd) (w : World) (k : Nat) (l : List UInt8) (he : Bool) (v : Value) (wr : World) (U : Nat → Value)
        (H : QCtx lb fb fp s x q nm raw uni ident np z w k l he v wr)
    (hend : s.size ≤ x.p + k) :
    Code.wp Tryz.prog qBody (QPost lb fb fp s x q nm raw uni ident np z w k) ⟨QFr lb q nm raw uni np (.int .i64 k) v (.bool he) (uls U), []⟩ wr := by
  have hsz := H.size
  have hsz2 : s.size ≤ 2147483647 := by omega
  have hki := H.qs.hi
  have hQk := H.qs.lo
  obtain ⟨hqp, hq3⟩ := H.qpos
  have hlk := H.qs.len
  have hR := H.st'.rd
  have HH := Lib.hid H
  clear H
  unfold QFr uls
  conv => arg 2; whnf
  have hge2 : (s.size : Int) ≤ (x.p : Int) + (k : Int) := by omega
  go_wp2_with (first | (go_at_call 67; first | ((with_reducible refine (peekOk_yes _ _ _ _ _ _ (hR.drewN _) ?_).mono ?_); omega; rintro e w' ⟨rfl, nq, rfl⟩) | ((with_reducible refine (peekOk_yes _ _ _ _ _ _ hR ?_).mono ?_); omega; rintro e w' ⟨rfl, nq, rfl⟩) | ((with_reducible refine (peekOk_no _ _ _ _ _ _ (hR.drewN _) ?_).mono ?_); omega; rintro e w' ⟨rfl, nq, rfl⟩) | ((with_reducible refine (peekOk_no _ _ _ _ _ _ hR ?_).mono ?_); omega; rintro e w' ⟨rfl, nq, rfl⟩)))
  exact QPost.out rfl (HH.out.drewN _) hend

set_option maxRecDepth 100000 in
set_option maxHeartbeats 4000000 in
theorem round_char
    (lb fb : Nat) (fp s : ByteArray) (x : LX) (q nm : ByteArray) (raw uni ident np : Bool) (z : List UInt8 × Nat × QEnd) (w : World) (k : Nat) (l : List UInt8) (he : Bool) (v : Value) (wr : World) (U : Nat → Value)
        (H : QCtx lb fb fp s x q nm raw uni ident np z w k l he v wr)
    (c : UInt8) (hb : byt s ((x.p : Int) + (k : Int)) = nn c) (hsuf : suf s (x.p + k) = c :: suf s (x.p + k + 1)) (hlt : x.p + k < s.size) (hcl : ((suf s (x.p + k)).take q.data.toList.length == q.data.toList) = false) (h92 : ¬ nn c = 92) (h10 : nn c = 10 → q.size = 3) :
    Code.wp Tryz.prog qBody (QPost lb fb fp s x q nm raw uni ident np z w k) ⟨QFr lb q nm raw uni np (.int .i64 k) v (.bool he) (uls U), []⟩ wr := by
  have hsz := H.size
  have hsz2 : s.size ≤ 2147483647 := by omega
  have hki := H.qs.hi
  have hQk := H.qs.lo
  obtain ⟨hqp, hq3⟩ := H.qpos
  have hlk := H.qs.len
  have hR := H.st'.rd
  have HH := Lib.hid H
  clear H
  unfold QFr uls
  conv => arg 2; whnf
  have hbd := nn_bd c
  have hqr : qr q.data.toList raw uni (suf s (x.p + k)) = ([c] ++ (qr q.data.toList raw uni (suf s (x.p + (k + 1)))).1, (qr q.data.toList raw uni (suf s (x.p + (k + 1)))).2.1 + 1, (qr q.data.toList raw uni (suf s (x.p + (k + 1)))).2.2) := by
    rw [hsuf, qr_char _ _ _ _ _ (by rw [← hsuf]; exact hcl) h92 (by rw [len_list]; exact h10)]; rfl
  have HQ := Lib.hid hqr
  clear hqr
  have h92' : (nn c == 92) = false := by simpa using h92
  have h10' : ((nn c == 10) = false) ∨ ((nn c == 10) = true ∧ ((q.size : Int) != 3) = false) := by
    by_cases h : nn c = 10
    · exact .inr ⟨by simpa using h, by have := h10 h; simp; omega⟩
    · exact .inl (by simpa using h)
  clear h92 h10
  rcases h10' with h10' | ⟨h10', h3⟩
  case inl =>
    have hlt3 : (x.p : Int) + (k : Int) < s.size := by omega
    obtain ⟨t, ht⟩ : ∃ t, t = s.extract (x.p + k) (min (x.p + (k + q.size)) s.size) := ⟨_, rfl⟩
    have htq : (t.toList == q.toList) = false := by rw [ht, delim_eq]; exact hcl
    have HT := Lib.hid ht
    have HC := Lib.hid hcl
    have HU := Lib.hid hsuf
    clear ht hcl hsuf
    go_wp2_with (first | (go_at_call 67; first | ((with_reducible refine (peekOk_yes _ _ _ _ _ _ (hR.drewN _) ?_).mono ?_); omega; rintro e w' ⟨rfl, nq, rfl⟩) | ((with_reducible refine (peekOk_yes _ _ _ _ _ _ hR ?_).mono ?_); omega; rintro e w' ⟨rfl, nq, rfl⟩) | ((with_reducible refine (peekOk_no _ _ _ _ _ _ (hR.drewN _) ?_).mono ?_); omega; rintro e w' ⟨rfl, nq, rfl⟩) | ((with_reducible refine (peekOk_no _ _ _ _ _ _ hR ?_).mono ?_); omega; rintro e w' ⟨rfl, nq, rfl⟩)))
    refine (slice_int lb fb s x.p _ _ k (k + q.size) t _ (hR.drewN _) (by omega) (by omega) (by omega) (by omega) (by omega) HT.out).mono ?_
    rintro e w' ⟨rfl, nq, rfl⟩
    go_wp2_with (first | (at_builtin; refine app_one ((HH.out.drewN _).frm) ((HH.out.drewN _).own) rfl (.tmp 489) (.tmp 491) rfl rfl _ c rfl rfl (by omega) ?_) | (first | (go_at_call 69; first | ((with_reducible refine (peek_any _ _ _ _ _ _ _ (hR.drewN _) ⟨?_, ?_, by assumption⟩).mono ?_); omega; omega; rintro e w' ⟨rfl, nq, rfl⟩) | ((with_reducible refine (peek_any _ _ _ _ _ _ _ hR ⟨?_, ?_, by assumption⟩).mono ?_); omega; omega; rintro e w' ⟨rfl, nq, rfl⟩))))
    intro g' cap' w1 hO hF
    go_wp2_with fail
    exact QPost.next rfl (by omega) (QCtx.next HH.out hF hO (HH.out.qs.on 1 [c] (by omega) (by simp) HQ.out)) (by omega)
  case inr =>
    have hlt3 : (x.p : Int) + (k : Int) < s.size := by omega
    obtain ⟨t, ht⟩ : ∃ t, t = s.extract (x.p + k) (min (x.p + (k + q.size)) s.size) := ⟨_, rfl⟩
    have htq : (t.toList == q.toList) = false := by rw [ht, delim_eq]; exact hcl
    have HT := Lib.hid ht
    have HC := Lib.hid hcl
    have HU := Lib.hid hsuf
    clear ht hcl hsuf
    go_wp2_with (first | (go_at_call 67; first | ((with_reducible refine (peekOk_yes _ _ _ _ _ _ (hR.drewN _) ?_).mono ?_); omega; rintro e w' ⟨rfl, nq, rfl⟩) | ((with_reducible refine (peekOk_yes _ _ _ _ _ _ hR ?_).mono ?_); omega; rintro e w' ⟨rfl, nq, rfl⟩) | ((with_reducible refine (peekOk_no _ _ _ _ _ _ (hR.drewN _) ?_).mono ?_); omega; rintro e w' ⟨rfl, nq, rfl⟩) | ((with_reducible refine (peekOk_no _ _ _ _ _ _ hR ?_).mono ?_); omega; rintro e w' ⟨rfl, nq, rfl⟩)))
    refine (slice_int lb fb s x.p _ _ k (k + q.size) t _ (hR.drewN _) (by omega) (by omega) (by omega) (by omega) (by omega) HT.out).mono ?_
    rintro e w' ⟨rfl, nq, rfl⟩
    go_wp2_with (first | (at_builtin; refine app_one ((HH.out.drewN _).frm) ((HH.out.drewN _).own) rfl (.tmp 489) (.tmp 491) rfl rfl _ c rfl rfl (by omega) ?_) | (first | (go_at_call 69; first | ((with_reducible refine (peek_any _ _ _ _ _ _ _ (hR.drewN _) ⟨?_, ?_, by assumption⟩).mono ?_); omega; omega; rintro e w' ⟨rfl, nq, rfl⟩) | ((with_reducible refine (peek_any _ _ _ _ _ _ _ hR ⟨?_, ?_, by assumption⟩).mono ?_); omega; omega; rintro e w' ⟨rfl, nq, rfl⟩))))
    intro g' cap' w1 hO hF
    go_wp2_with fail
    exact QPost.next rfl (by omega) (QCtx.next HH.out hF hO (HH.out.qs.on 1 [c] (by omega) (by simp) HQ.out)) (by omega)

end Go.Proofs.YtngofbhlhcalpaaGreatDoor.lexer

namespace Go.Proofs.YtngofbhlhcalpaaGreatDoor.lexer
open Go.RowKit Go.Proofs.YtngofbhlhcalpaaGreatDoor.gen
open Go.Proofs.YtngofbhlhcalpaaGreatDoor.upper (bv bv_len)


set_option maxRecDepth 100000 in
set_option maxHeartbeats 4000000 in
theorem round_newline
    (lb fb : Nat) (fp s : ByteArray) (x : LX) (q nm : ByteArray) (raw uni ident np : Bool) (z : List UInt8 × Nat × QEnd) (w : World) (k : Nat) (l : List UInt8) (he : Bool) (v : Value) (wr : World) (U : Nat → Value)
        (H : QCtx lb fb fp s x q nm raw uni ident np z w k l he v wr)
    (c : UInt8) (hb : byt s ((x.p : Int) + (k : Int)) = nn c) (hsuf : suf s (x.p + k) = c :: suf s (x.p + k + 1)) (hlt : x.p + k < s.size) (hcl : ((suf s (x.p + k)).take q.data.toList.length == q.data.toList) = false) (h10 : nn c = 10) (h3 : ¬ q.size = 3) :
    Code.wp Tryz.prog qBody (QPost lb fb fp s x q nm raw uni ident np z w k) ⟨QFr lb q nm raw uni np (.int .i64 k) v (.bool he) (uls U), []⟩ wr := by
  have hsz := H.size
  have hsz2 : s.size ≤ 2147483647 := by omega
  have hki := H.qs.hi
  have hQk := H.qs.lo
  obtain ⟨hqp, hq3⟩ := H.qpos
  have hlk := H.qs.len
  have hR := H.st'.rd
  have HH := Lib.hid H
  clear H
  unfold QFr uls
  conv => arg 2; whnf
  have hqr : (qr q.data.toList raw uni (suf s (x.p + k))) = ([], 0, .newline) := by
    rw [hsuf, qr_newline _ _ _ _ _ (by rw [← hsuf]; exact hcl) h10 (by rw [len_list]; exact h3)]
  have HQ := Lib.hid hqr
  clear hqr
  rw [h10] at hb
  have hn3 : ((q.size : Int) != 3) = true := by simp; omega
  have e2 : IntKind.i64.wrap ((x.p : Int) + (k : Int)) = (x.p : Int) + (k : Int) := IntWalk.i64_in _ (by omega)
  clear h10 h3
  cases np with
  | true =>
    have hlt3 : (x.p : Int) + (k : Int) < s.size := by omega
    obtain ⟨t, ht⟩ : ∃ t, t = s.extract (x.p + k) (min (x.p + (k + q.size)) s.size) := ⟨_, rfl⟩
    have htq : (t.toList == q.toList) = false := by rw [ht, delim_eq]; exact hcl
    have HT := Lib.hid ht
    have HC := Lib.hid hcl
    have HU := Lib.hid hsuf
    clear ht hcl hsuf
    go_wp2_with (first | (go_at_call 67; first | ((with_reducible refine (peekOk_yes _ _ _ _ _ _ (hR.drewN _) ?_).mono ?_); omega; rintro e w' ⟨rfl, nq, rfl⟩) | ((with_reducible refine (peekOk_yes _ _ _ _ _ _ hR ?_).mono ?_); omega; rintro e w' ⟨rfl, nq, rfl⟩) | ((with_reducible refine (peekOk_no _ _ _ _ _ _ (hR.drewN _) ?_).mono ?_); omega; rintro e w' ⟨rfl, nq, rfl⟩) | ((with_reducible refine (peekOk_no _ _ _ _ _ _ hR ?_).mono ?_); omega; rintro e w' ⟨rfl, nq, rfl⟩)))
    refine (slice_int lb fb s x.p _ _ k (k + q.size) t _ (hR.drewN _) (by omega) (by omega) (by omega) (by omega) (by omega) HT.out).mono ?_
    rintro e w' ⟨rfl, nq, rfl⟩
    go_wp2_with (first | (go_at_call 69; first | ((with_reducible refine (peek_any _ _ _ _ _ _ _ (hR.drewN _) ⟨?_, ?_, by assumption⟩).mono ?_); omega; omega; rintro e w' ⟨rfl, nq, rfl⟩) | ((with_reducible refine (peek_any _ _ _ _ _ _ _ hR ⟨?_, ?_, by assumption⟩).mono ?_); omega; omega; rintro e w' ⟨rfl, nq, rfl⟩)))
    exact QPost.next rfl (by omega) (QCtx.next HH.out (HH.out.drewN _).frm (HH.out.drewN _).own (HH.out.qs.fault rfl (fun _ => by rw [HQ.out]; simp) 1 (by omega) true)) (by omega)
  | false =>
    have hbad : ∀ kind, qtok q.data.toList raw uni ident kind (suf s x.p) = .bad 0 := by
      have h1 := HH.out.qs.exact rfl
      rw [HQ.out] at h1
      exact qtok_bad HH.out.z 0 (.inr (.inr (.inl ⟨h1.2.2.2.symm, rfl⟩)))
    have HB := Lib.hid hbad
    clear hbad
    have hlt3 : (x.p : Int) + (k : Int) < s.size := by omega
    obtain ⟨t, ht⟩ : ∃ t, t = s.extract (x.p + k) (min (x.p + (k + q.size)) s.size) := ⟨_, rfl⟩
    have htq : (t.toList == q.toList) = false := by rw [ht, delim_eq]; exact hcl
    have HT := Lib.hid ht
    have HC := Lib.hid hcl
    have HU := Lib.hid hsuf
    clear ht hcl hsuf
    go_wp2_with (first | (go_at_call 67; first | ((with_reducible refine (peekOk_yes _ _ _ _ _ _ (hR.drewN _) ?_).mono ?_); omega; rintro e w' ⟨rfl, nq, rfl⟩) | ((with_reducible refine (peekOk_yes _ _ _ _ _ _ hR ?_).mono ?_); omega; rintro e w' ⟨rfl, nq, rfl⟩) | ((with_reducible refine (peekOk_no _ _ _ _ _ _ (hR.drewN _) ?_).mono ?_); omega; rintro e w' ⟨rfl, nq, rfl⟩) | ((with_reducible refine (peekOk_no _ _ _ _ _ _ hR ?_).mono ?_); omega; rintro e w' ⟨rfl, nq, rfl⟩)))
    refine (slice_int lb fb s x.p _ _ k (k + q.size) t _ (hR.drewN _) (by omega) (by omega) (by omega) (by omega) (by omega) HT.out).mono ?_
    rintro e w' ⟨rfl, nq, rfl⟩
    go_wp2_with (first | (go_at_call 69; first | ((with_reducible refine (peek_any _ _ _ _ _ _ _ (hR.drewN _) ⟨?_, ?_, by assumption⟩).mono ?_); omega; omega; rintro e w' ⟨rfl, nq, rfl⟩) | ((with_reducible refine (peek_any _ _ _ _ _ _ _ hR ⟨?_, ?_, by assumption⟩).mono ?_); omega; omega; rintro e w' ⟨rfl, nq, rfl⟩)))
    have c0 : wr.cell? ⟨lb, 0, none⟩ = some (.pointer (some ⟨fb, 0, none⟩)) := hR.c0
    have c9 : wr.cell? ⟨lb, 9, none⟩ = some (.int .i64 (x.p : Int)) := hR.c9
    refine region_tail 11 (by kernel_rfl) (by kernel_rfl) fun W hW => ?_
    have HW := Lib.hid (show QCtx lb fb fp s x q nm _ _ ident false z w _ _ _ _ W from hW ▸ (HH.out.drewN _).drewN 1)
    clear hW
    have c9d : W.cell? ⟨lb, 9, none⟩ = some (.int .i64 (x.p : Int)) := HW.out.st'.rd.c9
    simp only [List.take_succ_cons, List.take_zero, List.drop_succ_cons, List.drop_zero]
    repeat still_step
    refine wpStill_nil ?_
    go_wp2_with fail
    refine (panicfAt_int lb fb fp s x _ _ (x.p) (x.p + k) _ _ hsz (by omega) (by omega) (by omega) (by omega) HW.out.st' HW.out.env').mono ?_
    rintro e w6 ⟨eb, rfl, hea, hl, hf⟩
    go_wp2_with fail
    exact ⟨rfl, .inr (.inl ⟨0, HB.out, rfl, _, rfl, hea, Nat.le_trans HW.out.frm.size hl, (HW.out.frm.mono (by simp)).step (hf.mono (by simp))⟩)⟩

section
variable {lb fb : Nat} {fp s : ByteArray} {x : LX} {q nm : ByteArray} {raw uni ident np : Bool} {z : List UInt8 × Nat × QEnd} {w : World} {k : Nat} {l : List UInt8} {he : Bool} {v : Value} {wr : World}
theorem qr_at (hcl : ((suf s (x.p + k)).take q.data.toList.length == q.data.toList) = true) (hq : 0 < q.size) : qr q.data.toList raw uni (suf s (x.p + k)) = ([], 0, .closed) := by
  cases hs : suf s (x.p + k) with
  | nil =>
    rw [hs] at hcl
    have h1 : ([] : List UInt8) = q.data.toList := by simpa using hcl
    have h2 := len_list q
    rw [← h1] at h2
    simp at h2; omega
  | cons c r => rw [hs] at hcl; exact qr_close _ _ _ _ _ hcl

theorem close_good (H : QCtx lb fb fp s x q nm raw uni ident np z w k l he v wr) (hcl : ((suf s (x.p + k)).take q.data.toList.length == q.data.toList) = true) (hid : (ident && l.isEmpty) = false) {e : Ending} {w' : World} {y : LX}
    (hy : y = { x with p := x.p + (k + q.size) }) (hG : Goes (.tuple #[.string ⟨l.toArray⟩, .bool false]) lb fb fp s y w e w') : QuoRes lb fb fp s x q.data.toList raw uni ident np w e w' := by
  have hq := qr_at (raw := raw) (uni := uni) hcl H.qpos.1
  have hl := H.qs.lo
  rcases H.qs.st with ⟨_, h1, h2, h3⟩ | ⟨h1, h2⟩
  · rw [hq] at h1 h2 h3
    simp only [List.append_nil, Nat.add_zero] at h1 h2 h3
    obtain ⟨a, b, d⟩ := z
    simp only at h1 h2 h3
    subst h1 h3
    refine .inl ⟨l, b, H.z, hid, ?_⟩
    rw [hy, h2, ← len_list q] at hG
    exact hG
  · refine .inr (.inr ⟨k + q.size, ⟨l.toArray⟩, false, by rw [H.z]; exact h2, h1, by have := H.qpos; omega, ?_⟩)
    rw [hy] at hG
    exact hG

theorem close_bad (H : QCtx lb fb fp s x q nm raw uni ident np z w k l he v wr) (hcl : ((suf s (x.p + k)).take q.data.toList.length == q.data.toList) = true) (hnp : he = false → np = true ∧ (ident && l.isEmpty) = true) {e : Ending} {w' : World} {y : LX} {t : ByteArray} {b : Bool}
    (hy : y = { x with p := x.p + (k + q.size) }) (hG : Goes (.tuple #[.string t, .bool b]) lb fb fp s y w e w') : QuoRes lb fb fp s x q.data.toList raw uni ident np w e w' := by
  have hq := qr_at (raw := raw) (uni := uni) hcl H.qpos.1
  rw [hy] at hG
  rcases H.qs.st with ⟨h0, h1, h2, h3⟩ | ⟨h1, h2⟩
  · rw [hq] at h1
    simp only [List.append_nil] at h1
    refine .inr (.inr ⟨k + q.size, _, _, ?_, (hnp h0).1, by have := H.qpos; omega, hG⟩)
    rw [H.z]
    exact .inr (by rw [← h1]; exact (hnp h0).2)
  · exact .inr (.inr ⟨k + q.size, _, _, by rw [H.z]; exact h2, h1, by have := H.qpos; omega, hG⟩)
end

set_option maxRecDepth 100000 in
set_option maxHeartbeats 4000000 in
theorem round_close
    (lb fb : Nat) (fp s : ByteArray) (x : LX) (q nm : ByteArray) (raw uni ident np : Bool) (z : List UInt8 × Nat × QEnd) (w : World) (k : Nat) (l : List UInt8) (he : Bool) (v : Value) (wr : World) (U : Nat → Value)
        (H : QCtx lb fb fp s x q nm raw uni ident np z w k l he v wr)
    (hlt : x.p + k < s.size) (hcl : ((suf s (x.p + k)).take q.data.toList.length == q.data.toList) = true) (hid : (ident && l.isEmpty) = false) :
    Code.wp Tryz.prog qBody (QPost lb fb fp s x q nm raw uni ident np z w k) ⟨QFr lb q nm raw uni np (.int .i64 k) v (.bool he) (uls U), []⟩ wr := by
  have hsz := H.size
  have hsz2 : s.size ≤ 2147483647 := by omega
  have hki := H.qs.hi
  have hQk := H.qs.lo
  obtain ⟨hqp, hq3⟩ := H.qpos
  have hlk := H.qs.len
  have hR := H.st'.rd
  have HH := Lib.hid H
  clear H
  unfold QFr uls
  conv => arg 2; whnf
  have hc0 : ((l.length : Int) == 0) = true ∧ (nm.toList == [105, 100, 101, 110, 116, 105, 102, 105, 101, 114]) = false ∨ ((l.length : Int) == 0) = false := by
    rw [HH.out.idn]
    cases l with
    | nil => left; exact ⟨rfl, by simpa using hid⟩
    | cons a b => right; simp; omega
  have HI := Lib.hid hid
  clear hid
  rcases hc0 with ⟨hc0, hc1⟩ | hc0
  case inl =>
    cases he with
    | true =>
      have hlt3 : (x.p : Int) + (k : Int) < s.size := by omega
      obtain ⟨t, ht⟩ : ∃ t, t = s.extract (x.p + k) (min (x.p + (k + q.size)) s.size) := ⟨_, rfl⟩
      have htq : (t.toList == q.toList) = true := by rw [ht, delim_eq]; exact hcl
      have hroom : x.p + k + q.size ≤ s.size := by
        have h1 : (suf s (x.p + k)).take q.data.toList.length = q.data.toList := by simpa using hcl
        have h2 := congrArg List.length h1
        rw [List.length_take, suf_len, len_list] at h2
        omega
      have HT := Lib.hid ht
      have HC := Lib.hid hcl
      clear ht hcl
      obtain ⟨sa, scap, hv⟩ := own_len HH.out.own
      subst hv
      go_wp2_with (first | (go_at_call 67; first | ((with_reducible refine (peekOk_yes _ _ _ _ _ _ (hR.drewN _) ?_).mono ?_); omega; rintro e w' ⟨rfl, nq, rfl⟩) | ((with_reducible refine (peekOk_yes _ _ _ _ _ _ hR ?_).mono ?_); omega; rintro e w' ⟨rfl, nq, rfl⟩) | ((with_reducible refine (peekOk_no _ _ _ _ _ _ (hR.drewN _) ?_).mono ?_); omega; rintro e w' ⟨rfl, nq, rfl⟩) | ((with_reducible refine (peekOk_no _ _ _ _ _ _ hR ?_).mono ?_); omega; rintro e w' ⟨rfl, nq, rfl⟩)))
      refine (slice_int lb fb s x.p _ _ k (k + q.size) t _ (hR.drewN _) (by omega) (by omega) (by omega) (by omega) (by omega) HT.out).mono ?_
      rintro e w' ⟨rfl, nq, rfl⟩
      go_wp2_with fail
      refine (skipN_any lb fb fp s x _ { x with p := x.p + (k + q.size) } _ (HH.out.drewN _).st' ⟨by omega, by omega⟩ (by congr 1 <;> omega)).mono ?_
      rintro e w1 ⟨rfl, hS1, hF1⟩
      have hF2 : Frm w w1 [lb] := ((HH.out.drewN _).frm.mono (by simp)).step hF1
      have hO2 : OwnC w1 w.heap.size _ (bv l) := (HH.out.drewN _).own.frm hF1 (by have := block_lt HH.out.st.lex; simpa using this)
      have HS2 := Lib.hid hS1
      have hq4 := textAny (P := Tryz.prog) 44 9 5 Tryz.underlying44 Tryz.underlying5 Tryz.underlying9 hO2
      clear hS1 hF1 hO2
      go_wp2_with fail
      exact ⟨rfl, close_bad HH.out HC.out (by simp) rfl ⟨rfl, HS2.out, hF2⟩⟩
    | false =>
      have hlt3 : (x.p : Int) + (k : Int) < s.size := by omega
      obtain ⟨t, ht⟩ : ∃ t, t = s.extract (x.p + k) (min (x.p + (k + q.size)) s.size) := ⟨_, rfl⟩
      have htq : (t.toList == q.toList) = true := by rw [ht, delim_eq]; exact hcl
      have hroom : x.p + k + q.size ≤ s.size := by
        have h1 : (suf s (x.p + k)).take q.data.toList.length = q.data.toList := by simpa using hcl
        have h2 := congrArg List.length h1
        rw [List.length_take, suf_len, len_list] at h2
        omega
      have HT := Lib.hid ht
      have HC := Lib.hid hcl
      clear ht hcl
      obtain ⟨sa, scap, hv⟩ := own_len HH.out.own
      subst hv
      go_wp2_with (first | (go_at_call 67; first | ((with_reducible refine (peekOk_yes _ _ _ _ _ _ (hR.drewN _) ?_).mono ?_); omega; rintro e w' ⟨rfl, nq, rfl⟩) | ((with_reducible refine (peekOk_yes _ _ _ _ _ _ hR ?_).mono ?_); omega; rintro e w' ⟨rfl, nq, rfl⟩) | ((with_reducible refine (peekOk_no _ _ _ _ _ _ (hR.drewN _) ?_).mono ?_); omega; rintro e w' ⟨rfl, nq, rfl⟩) | ((with_reducible refine (peekOk_no _ _ _ _ _ _ hR ?_).mono ?_); omega; rintro e w' ⟨rfl, nq, rfl⟩)))
      refine (slice_int lb fb s x.p _ _ k (k + q.size) t _ (hR.drewN _) (by omega) (by omega) (by omega) (by omega) (by omega) HT.out).mono ?_
      rintro e w' ⟨rfl, nq, rfl⟩
      go_wp2_with fail
      refine (skipN_any lb fb fp s x _ { x with p := x.p + (k + q.size) } _ (HH.out.drewN _).st' ⟨by omega, by omega⟩ (by congr 1 <;> omega)).mono ?_
      rintro e w1 ⟨rfl, hS1, hF1⟩
      have hF2 : Frm w w1 [lb] := ((HH.out.drewN _).frm.mono (by simp)).step hF1
      have hO2 : OwnC w1 w.heap.size _ (bv l) := (HH.out.drewN _).own.frm hF1 (by have := block_lt HH.out.st.lex; simpa using this)
      have HS2 := Lib.hid hS1
      have hq4 := textAny (P := Tryz.prog) 44 9 5 Tryz.underlying44 Tryz.underlying5 Tryz.underlying9 hO2
      clear hS1 hF1 hO2
      go_wp2_with fail
      exact ⟨rfl, close_good HH.out HC.out HI.out rfl ⟨rfl, HS2.out, hF2⟩⟩
  case inr =>
    cases he with
    | true =>
      have hlt3 : (x.p : Int) + (k : Int) < s.size := by omega
      obtain ⟨t, ht⟩ : ∃ t, t = s.extract (x.p + k) (min (x.p + (k + q.size)) s.size) := ⟨_, rfl⟩
      have htq : (t.toList == q.toList) = true := by rw [ht, delim_eq]; exact hcl
      have hroom : x.p + k + q.size ≤ s.size := by
        have h1 : (suf s (x.p + k)).take q.data.toList.length = q.data.toList := by simpa using hcl
        have h2 := congrArg List.length h1
        rw [List.length_take, suf_len, len_list] at h2
        omega
      have HT := Lib.hid ht
      have HC := Lib.hid hcl
      clear ht hcl
      obtain ⟨sa, scap, hv⟩ := own_len HH.out.own
      subst hv
      go_wp2_with (first | (go_at_call 67; first | ((with_reducible refine (peekOk_yes _ _ _ _ _ _ (hR.drewN _) ?_).mono ?_); omega; rintro e w' ⟨rfl, nq, rfl⟩) | ((with_reducible refine (peekOk_yes _ _ _ _ _ _ hR ?_).mono ?_); omega; rintro e w' ⟨rfl, nq, rfl⟩) | ((with_reducible refine (peekOk_no _ _ _ _ _ _ (hR.drewN _) ?_).mono ?_); omega; rintro e w' ⟨rfl, nq, rfl⟩) | ((with_reducible refine (peekOk_no _ _ _ _ _ _ hR ?_).mono ?_); omega; rintro e w' ⟨rfl, nq, rfl⟩)))
      refine (slice_int lb fb s x.p _ _ k (k + q.size) t _ (hR.drewN _) (by omega) (by omega) (by omega) (by omega) (by omega) HT.out).mono ?_
      rintro e w' ⟨rfl, nq, rfl⟩
      go_wp2_with fail
      refine (skipN_any lb fb fp s x _ { x with p := x.p + (k + q.size) } _ (HH.out.drewN _).st' ⟨by omega, by omega⟩ (by congr 1 <;> omega)).mono ?_
      rintro e w1 ⟨rfl, hS1, hF1⟩
      have hF2 : Frm w w1 [lb] := ((HH.out.drewN _).frm.mono (by simp)).step hF1
      have hO2 : OwnC w1 w.heap.size _ (bv l) := (HH.out.drewN _).own.frm hF1 (by have := block_lt HH.out.st.lex; simpa using this)
      have HS2 := Lib.hid hS1
      have hq4 := textAny (P := Tryz.prog) 44 9 5 Tryz.underlying44 Tryz.underlying5 Tryz.underlying9 hO2
      clear hS1 hF1 hO2
      go_wp2_with fail
      exact ⟨rfl, close_bad HH.out HC.out (by simp) rfl ⟨rfl, HS2.out, hF2⟩⟩
    | false =>
      have hlt3 : (x.p : Int) + (k : Int) < s.size := by omega
      obtain ⟨t, ht⟩ : ∃ t, t = s.extract (x.p + k) (min (x.p + (k + q.size)) s.size) := ⟨_, rfl⟩
      have htq : (t.toList == q.toList) = true := by rw [ht, delim_eq]; exact hcl
      have hroom : x.p + k + q.size ≤ s.size := by
        have h1 : (suf s (x.p + k)).take q.data.toList.length = q.data.toList := by simpa using hcl
        have h2 := congrArg List.length h1
        rw [List.length_take, suf_len, len_list] at h2
        omega
      have HT := Lib.hid ht
      have HC := Lib.hid hcl
      clear ht hcl
      obtain ⟨sa, scap, hv⟩ := own_len HH.out.own
      subst hv
      go_wp2_with (first | (go_at_call 67; first | ((with_reducible refine (peekOk_yes _ _ _ _ _ _ (hR.drewN _) ?_).mono ?_); omega; rintro e w' ⟨rfl, nq, rfl⟩) | ((with_reducible refine (peekOk_yes _ _ _ _ _ _ hR ?_).mono ?_); omega; rintro e w' ⟨rfl, nq, rfl⟩) | ((with_reducible refine (peekOk_no _ _ _ _ _ _ (hR.drewN _) ?_).mono ?_); omega; rintro e w' ⟨rfl, nq, rfl⟩) | ((with_reducible refine (peekOk_no _ _ _ _ _ _ hR ?_).mono ?_); omega; rintro e w' ⟨rfl, nq, rfl⟩)))
      refine (slice_int lb fb s x.p _ _ k (k + q.size) t _ (hR.drewN _) (by omega) (by omega) (by omega) (by omega) (by omega) HT.out).mono ?_
      rintro e w' ⟨rfl, nq, rfl⟩
      go_wp2_with fail
      refine (skipN_any lb fb fp s x _ { x with p := x.p + (k + q.size) } _ (HH.out.drewN _).st' ⟨by omega, by omega⟩ (by congr 1 <;> omega)).mono ?_
      rintro e w1 ⟨rfl, hS1, hF1⟩
      have hF2 : Frm w w1 [lb] := ((HH.out.drewN _).frm.mono (by simp)).step hF1
      have hO2 : OwnC w1 w.heap.size _ (bv l) := (HH.out.drewN _).own.frm hF1 (by have := block_lt HH.out.st.lex; simpa using this)
      have HS2 := Lib.hid hS1
      have hq4 := textAny (P := Tryz.prog) 44 9 5 Tryz.underlying44 Tryz.underlying5 Tryz.underlying9 hO2
      clear hS1 hF1 hO2
      go_wp2_with fail
      exact ⟨rfl, close_good HH.out HC.out HI.out rfl ⟨rfl, HS2.out, hF2⟩⟩

set_option maxRecDepth 100000 in
set_option maxHeartbeats 4000000 in
theorem round_empty
    (lb fb : Nat) (fp s : ByteArray) (x : LX) (q nm : ByteArray) (raw uni ident np : Bool) (z : List UInt8 × Nat × QEnd) (w : World) (k : Nat) (l : List UInt8) (he : Bool) (v : Value) (wr : World) (U : Nat → Value)
        (H : QCtx lb fb fp s x q nm raw uni ident np z w k l he v wr)
    (hlt : x.p + k < s.size) (hcl : ((suf s (x.p + k)).take q.data.toList.length == q.data.toList) = true) (hid : (ident && l.isEmpty) = true) :
    Code.wp Tryz.prog qBody (QPost lb fb fp s x q nm raw uni ident np z w k) ⟨QFr lb q nm raw uni np (.int .i64 k) v (.bool he) (uls U), []⟩ wr := by
  have hsz := H.size
  have hsz2 : s.size ≤ 2147483647 := by omega
  have hki := H.qs.hi
  have hQk := H.qs.lo
  obtain ⟨hqp, hq3⟩ := H.qpos
  have hlk := H.qs.len
  have hR := H.st'.rd
  have HH := Lib.hid H
  clear H
  unfold QFr uls
  conv => arg 2; whnf
  have HI := Lib.hid hid
  simp only [Bool.and_eq_true] at hid
  obtain ⟨hi1, hi2⟩ := hid
  have hl0 : l = [] := by simpa using hi2
  have hc0 : ((l.length : Int) == 0) = true := by rw [hl0]; rfl
  clear hl0
  have hc1 : (nm.toList == [105, 100, 101, 110, 116, 105, 102, 105, 101, 114]) = true := by rw [HH.out.idn]; exact hi1
  clear hi1 hi2
  cases np with
  | true =>
    have hlt3 : (x.p : Int) + (k : Int) < s.size := by omega
    obtain ⟨t, ht⟩ : ∃ t, t = s.extract (x.p + k) (min (x.p + (k + q.size)) s.size) := ⟨_, rfl⟩
    have htq : (t.toList == q.toList) = true := by rw [ht, delim_eq]; exact hcl
    have hroom : x.p + k + q.size ≤ s.size := by
      have h1 : (suf s (x.p + k)).take q.data.toList.length = q.data.toList := by simpa using hcl
      have h2 := congrArg List.length h1
      rw [List.length_take, suf_len, len_list] at h2
      omega
    have HT := Lib.hid ht
    have HC := Lib.hid hcl
    clear ht hcl
    obtain ⟨sa, scap, hv⟩ := own_len HH.out.own
    subst hv
    go_wp2_with (first | (go_at_call 67; first | ((with_reducible refine (peekOk_yes _ _ _ _ _ _ (hR.drewN _) ?_).mono ?_); omega; rintro e w' ⟨rfl, nq, rfl⟩) | ((with_reducible refine (peekOk_yes _ _ _ _ _ _ hR ?_).mono ?_); omega; rintro e w' ⟨rfl, nq, rfl⟩) | ((with_reducible refine (peekOk_no _ _ _ _ _ _ (hR.drewN _) ?_).mono ?_); omega; rintro e w' ⟨rfl, nq, rfl⟩) | ((with_reducible refine (peekOk_no _ _ _ _ _ _ hR ?_).mono ?_); omega; rintro e w' ⟨rfl, nq, rfl⟩)))
    refine (slice_int lb fb s x.p _ _ k (k + q.size) t _ (hR.drewN _) (by omega) (by omega) (by omega) (by omega) (by omega) HT.out).mono ?_
    rintro e w' ⟨rfl, nq, rfl⟩
    go_wp2_with fail
    refine (skipN_any lb fb fp s x _ { x with p := x.p + (k + q.size) } _ (HH.out.drewN _).st' ⟨by omega, by omega⟩ (by congr 1 <;> omega)).mono ?_
    rintro e w1 ⟨rfl, hS1, hF1⟩
    have hF2 : Frm w w1 [lb] := ((HH.out.drewN _).frm.mono (by simp)).step hF1
    have hO2 : OwnC w1 w.heap.size _ (bv l) := (HH.out.drewN _).own.frm hF1 (by have := block_lt HH.out.st.lex; simpa using this)
    have HS2 := Lib.hid hS1
    have hq4 := textAny (P := Tryz.prog) 44 9 5 Tryz.underlying44 Tryz.underlying5 Tryz.underlying9 hO2
    clear hS1 hF1 hO2
    go_wp2_with fail
    exact ⟨rfl, close_bad HH.out HC.out (fun _ => ⟨rfl, HI.out⟩) rfl ⟨rfl, HS2.out, hF2⟩⟩
  | false =>
    have hbad : ∀ kind, qtok q.data.toList raw uni ident kind (suf s x.p) = .bad 0 := by
      have h1 := HH.out.qs.exact rfl
      have hq := qr_at (raw := raw) (uni := uni) hcl HH.out.qpos.1
      rw [hq] at h1
      exact qtok_bad HH.out.z 0 (.inr (.inr (.inr ⟨h1.2.2.2.symm, by rw [← h1.2.1, List.append_nil]; exact HI.out, rfl⟩)))
    have HB := Lib.hid hbad
    have e2 : IntKind.i64.wrap ((x.p : Int) + (k : Int)) = (x.p : Int) + (k : Int) := IntWalk.i64_in _ (by omega)
    have e3 : IntKind.i64.wrap ((x.p : Int) + (k : Int) + (q.size : Int)) = (x.p : Int) + (k : Int) + (q.size : Int) := IntWalk.i64_in _ (by omega)
    clear hbad
    have hlt3 : (x.p : Int) + (k : Int) < s.size := by omega
    obtain ⟨t, ht⟩ : ∃ t, t = s.extract (x.p + k) (min (x.p + (k + q.size)) s.size) := ⟨_, rfl⟩
    have htq : (t.toList == q.toList) = true := by rw [ht, delim_eq]; exact hcl
    have hroom : x.p + k + q.size ≤ s.size := by
      have h1 : (suf s (x.p + k)).take q.data.toList.length = q.data.toList := by simpa using hcl
      have h2 := congrArg List.length h1
      rw [List.length_take, suf_len, len_list] at h2
      omega
    have HT := Lib.hid ht
    have HC := Lib.hid hcl
    clear ht hcl
    obtain ⟨sa, scap, hv⟩ := own_len HH.out.own
    subst hv
    go_wp2_with (first | (go_at_call 67; first | ((with_reducible refine (peekOk_yes _ _ _ _ _ _ (hR.drewN _) ?_).mono ?_); omega; rintro e w' ⟨rfl, nq, rfl⟩) | ((with_reducible refine (peekOk_yes _ _ _ _ _ _ hR ?_).mono ?_); omega; rintro e w' ⟨rfl, nq, rfl⟩) | ((with_reducible refine (peekOk_no _ _ _ _ _ _ (hR.drewN _) ?_).mono ?_); omega; rintro e w' ⟨rfl, nq, rfl⟩) | ((with_reducible refine (peekOk_no _ _ _ _ _ _ hR ?_).mono ?_); omega; rintro e w' ⟨rfl, nq, rfl⟩)))
    refine (slice_int lb fb s x.p _ _ k (k + q.size) t _ (hR.drewN _) (by omega) (by omega) (by omega) (by omega) (by omega) HT.out).mono ?_
    rintro e w' ⟨rfl, nq, rfl⟩
    go_wp2_with fail
    have c0 : wr.cell? ⟨lb, 0, none⟩ = some (.pointer (some ⟨fb, 0, none⟩)) := hR.c0
    have c9 : wr.cell? ⟨lb, 9, none⟩ = some (.int .i64 (x.p : Int)) := hR.c9
    refine region_tail 14 (by kernel_rfl) (by kernel_rfl) fun W hW => ?_
    have HW := Lib.hid (show QCtx lb fb fp s x q nm _ _ ident false z w _ _ _ _ W from hW ▸ (HH.out.drewN _).drewN 1)
    clear hW
    have c9d : W.cell? ⟨lb, 9, none⟩ = some (.int .i64 (x.p : Int)) := HW.out.st'.rd.c9
    simp only [List.take_succ_cons, List.take_zero, List.drop_succ_cons, List.drop_zero]
    repeat still_step
    refine wpStill_nil ?_
    go_wp2_with fail
    refine (panicfAt_int lb fb fp s x _ _ (x.p) (x.p + k + q.size) _ _ hsz (by omega) (by omega) (by omega) (by omega) HW.out.st' HW.out.env').mono ?_
    rintro e w6 ⟨eb, rfl, hea, hl, hf⟩
    go_wp2_with fail
    exact ⟨rfl, .inr (.inl ⟨0, HB.out, rfl, _, rfl, hea, Nat.le_trans HW.out.frm.size hl, (HW.out.frm.mono (by simp)).step (hf.mono (by simp))⟩)⟩

end Go.Proofs.YtngofbhlhcalpaaGreatDoor.lexer
