/-
  The plain law of spec.Keyword: the search in the long text finds just the reserved words. No statement of the seat is proved here.
-/
import Derived.Test.YthndckejdalabaaKeyB
namespace Go.Proofs.Ythndckejdalabaa.upper
open Go.RowKit Go.Proofs.Ythndckejdalabaa.gen

def kText : List UInt8 := [
  32, 65, 76, 76, 32, 65, 78, 68, 32, 65, 78, 89, 32, 65, 82, 82, 65, 89, 32, 65, 83, 32, 65, 83, 67, 32, 65, 83, 83, 69, 82, 84, 95, 82, 79, 87, 83, 95, 77, 79,
  68, 73, 70, 73, 69, 68, 32, 65, 84, 32, 66, 69, 84, 87, 69, 69, 78, 32, 66, 89, 32, 67, 65, 83, 69, 32, 67, 65, 83, 84, 32, 67, 79, 76, 76, 65, 84, 69, 32, 67,
  79, 78, 84, 65, 73, 78, 83, 32, 67, 82, 69, 65, 84, 69, 32, 67, 82, 79, 83, 83, 32, 67, 85, 66, 69, 32, 67, 85, 82, 82, 69, 78, 84, 32, 68, 69, 70, 65, 85, 76,
  84, 32, 68, 69, 70, 73, 78, 69, 32, 68, 69, 83, 67, 32, 68, 73, 83, 84, 73, 78, 67, 84, 32, 69, 76, 83, 69, 32, 69, 78, 68, 32, 69, 78, 85, 77, 32, 69, 83, 67,
  65, 80, 69, 32, 69, 88, 67, 69, 80, 84, 32, 69, 88, 67, 76, 85, 68, 69, 32, 69, 88, 73, 83, 84, 83, 32, 69, 88, 84, 82, 65, 67, 84, 32, 70, 65, 76, 83, 69, 32,
  70, 69, 84, 67, 72, 32, 70, 79, 76, 76, 79, 87, 73, 78, 71, 32, 70, 79, 82, 32, 70, 82, 79, 77, 32, 70, 85, 76, 76, 32, 71, 82, 65, 80, 72, 95, 84, 65, 66, 76,
  69, 32, 71, 82, 79, 85, 80, 32, 71, 82, 79, 85, 80, 73, 78, 71, 32, 71, 82, 79, 85, 80, 83, 32, 72, 65, 83, 72, 32, 72, 65, 86, 73, 78, 71, 32, 73, 70, 32, 73,
  71, 78, 79, 82, 69, 32, 73, 78, 32, 73, 78, 78, 69, 82, 32, 73, 78, 84, 69, 82, 83, 69, 67, 84, 32, 73, 78, 84, 69, 82, 86, 65, 76, 32, 73, 78, 84, 79, 32, 73,
  83, 32, 74, 79, 73, 78, 32, 76, 65, 84, 69, 82, 65, 76, 32, 76, 69, 70, 84, 32, 76, 73, 75, 69, 32, 76, 73, 77, 73, 84, 32, 76, 79, 79, 75, 85, 80, 32, 77, 69,
  82, 71, 69, 32, 78, 65, 84, 85, 82, 65, 76, 32, 78, 69, 87, 32, 78, 79, 32, 78, 79, 84, 32, 78, 85, 76, 76, 32, 78, 85, 76, 76, 83, 32, 79, 70, 32, 79, 78, 32,
  79, 82, 32, 79, 82, 68, 69, 82, 32, 79, 85, 84, 69, 82, 32, 79, 86, 69, 82, 32, 80, 65, 82, 84, 73, 84, 73, 79, 78, 32, 80, 82, 69, 67, 69, 68, 73, 78, 71, 32,
  80, 82, 79, 84, 79, 32, 82, 65, 78, 71, 69, 32, 82, 69, 67, 85, 82, 83, 73, 86, 69, 32, 82, 69, 83, 80, 69, 67, 84, 32, 82, 73, 71, 72, 84, 32, 82, 79, 76, 76,
  85, 80, 32, 82, 79, 87, 83, 32, 83, 69, 76, 69, 67, 84, 32, 83, 69, 84, 32, 83, 79, 77, 69, 32, 83, 84, 82, 85, 67, 84, 32, 84, 65, 66, 76, 69, 83, 65, 77, 80,
  76, 69, 32, 84, 72, 69, 78, 32, 84, 79, 32, 84, 82, 69, 65, 84, 32, 84, 82, 85, 69, 32, 85, 78, 66, 79, 85, 78, 68, 69, 68, 32, 85, 78, 73, 79, 78, 32, 85, 78,
  78, 69, 83, 84, 32, 85, 83, 73, 78, 71, 32, 87, 72, 69, 78, 32, 87, 72, 69, 82, 69, 32, 87, 73, 78, 68, 79, 87, 32, 87, 73, 84, 72, 32, 87, 73, 84, 72, 73, 78,
  32]
def kIdx : List Nat := [0, 4, 8, 12, 18, 21, 25, 46, 49, 57, 60, 65, 70, 78, 87, 94, 100, 105, 113, 121, 128, 133, 142, 147, 151, 156, 163, 170, 178, 185, 193, 199, 205, 215, 219, 224, 229, 241, 247, 256, 263, 268, 278, 275, 285, 288, 294, 304, 313, 318, 321, 326, 334, 339, 344, 350, 357, 363, 371, 375, 378, 382, 387, 393, 396, 399, 402, 408, 414, 419, 429, 439, 445, 451, 461, 469, 475, 482, 487, 494, 498, 503, 510, 522, 527, 530, 536, 541, 551, 557, 564, 570, 575, 581, 588, 593]

def hit (i : Nat) (l : List UInt8) : Bool := kText[i]? == some 32 && (kText.drop (i + 1)).take l.length == l && kText[i + 1 + l.length]? == some 32

theorem kText_len : kText.length = 601 := by decide +kernel

set_option maxRecDepth 100000 in
theorem words_at : (List.range 601).all (fun i => kText[i]? != some 32 || i == 600 || isKw ((kText.drop (i + 1)).takeWhile (fun c => c != 32))) = true := by decide +kernel

set_option maxRecDepth 100000 in
theorem words_hit : (kwords.zip kIdx).all (fun x => decide (x.2 + x.1.length + 1 < 601) && hit x.2 x.1) = true := by decide +kernel

theorem words_zip : (kwords.zip kIdx).map Prod.fst = kwords := by decide +kernel

theorem words_bare : kwords.all (fun l => !spaced l && decide (0 < l.length)) = true := by decide +kernel

theorem takeWhile_part (l r : List UInt8) (h : spaced l = false) : (l ++ 32 :: r).takeWhile (fun c => c != 32) = l := by
  induction l with
  | nil => simp
  | cons c l ih =>
    have hc : c ≠ 32 := by
      intro e; subst e; simp [spaced] at h
    have hl : spaced l = false := by
      cases hs : spaced l with
      | false => rfl
      | true => simp [spaced] at h hs; exact absurd hs h.2
    simp [hc, ih hl]

theorem hit_kw (i : Nat) (l : List UInt8) (hs : spaced l = false) (hi : i + l.length + 1 < 601) (h : hit i l = true) : isKw l = true := by
  simp only [hit, Bool.and_eq_true, beq_iff_eq] at h
  obtain ⟨⟨h1, h2⟩, h3⟩ := h
  have hlen := kText_len
  have h4 : kText.drop (i + 1) = l ++ 32 :: kText.drop (i + 1 + l.length + 1) := by
    have h5 := (List.take_append_drop l.length (kText.drop (i + 1))).symm
    rw [h2, List.drop_drop] at h5
    rw [h5]
    congr 1
    have hlt : i + 1 + l.length < kText.length := by omega
    rw [List.drop_eq_getElem_cons hlt]
    rw [List.getElem?_eq_getElem hlt] at h3
    rw [Option.some.inj h3]
  have h6 := List.all_eq_true.1 words_at i (by simp; omega)
  rw [h4, takeWhile_part l _ hs, h1] at h6
  have h7 : (i == 600) = false := by rw [beq_eq_false_iff_ne]; omega
  rw [h7] at h6
  simpa using h6

theorem kw_hit (l : List UInt8) (h : isKw l = true) : ∃ i, i + l.length + 1 < 601 ∧ hit i l = true := by
  have hm : l ∈ kwords := by simpa [isKw] using h
  rw [← words_zip, List.mem_map] at hm
  obtain ⟨x, hx, rfl⟩ := hm
  have := List.all_eq_true.1 words_hit x hx
  simp only [Bool.and_eq_true, decide_eq_true_eq] at this
  exact ⟨x.2, this.1, this.2⟩

theorem kw_bare (l : List UInt8) (h : isKw l = true) : spaced l = false ∧ 0 < l.length := by
  have hm : l ∈ kwords := by simpa [isKw] using h
  have := List.all_eq_true.1 words_bare l hm
  simpa using this

theorem kw_no (l : List UInt8) (k : Nat) (hk : ∀ j, j < k → hit j l = false) (h : ¬ k + l.length + 1 < 601) : isKw l = false := by
  cases hk2 : isKw l with
  | false => rfl
  | true =>
    obtain ⟨i, h1, h2⟩ := kw_hit l hk2
    rw [hk i (by omega)] at h2
    cases h2

theorem at_beq (K : ByteArray) (h : K.data.toList = kText) (i : Nat) (hi : i < K.size) : ((K[i].toNat : Int) == 32) = (kText[i]? == some 32) := by
  rw [← h, getD_at K i hi]
  rw [Bool.eq_iff_iff, beq_iff_eq, beq_iff_eq, Option.some_inj, ← UInt8.toNat_inj]
  show _ ↔ K[i].toNat = 32
  omega

theorem part_beq (K s : ByteArray) (h : K.data.toList = kText) (i n : Nat) (hn : s.size = n) : ((K.extract (i + 1) (i + 1 + n)).toList == s.toList) = ((kText.drop (i + 1)).take s.data.toList.length == s.data.toList) := by
  rw [ByteArray.toList_eq, ByteArray.toList_eq, ByteArray.data_extract, Array.toList_extract, h]
  have : s.data.toList.length = n := by rw [Array.length_toList]; exact hn
  rw [this, List.extract_eq_take_drop, show i + 1 + n - (i + 1) = n from by omega]

end Go.Proofs.Ythndckejdalabaa.upper
