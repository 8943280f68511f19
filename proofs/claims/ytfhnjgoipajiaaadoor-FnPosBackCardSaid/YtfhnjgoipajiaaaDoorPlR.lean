/-
  Runes and bytes: what is encoded is decoded as the same. No statement of the seat is proved here, and no program is in sight.
-/
import Derived.WalkKit
import Derived.Lib.TrimUEq
import Derived.Lib.MapLaws
import Derived.Laws.Cover4
import Derived.Laws.IdiomStrings
namespace Go.Proofs.YtfhnjgoipajiaaaDoor.pl
open Go.Lib (decodeL decodeN decodeL_N decodeL_drop decodeN_shape)

/-- A rune's bytes; those of some. -/
def encU (r : Nat) : List UInt8 := (Utf8.encode (r : Int)).data.toList
def enc (l : List Nat) : List UInt8 := l.flatMap encU

/-- A scalar value. -/
def GR (r : Nat) : Prop := r < 55296 ∨ (57344 ≤ r ∧ r ≤ 1114111)

theorem valid_of {r : Nat} (h : GR r) : Utf8.valid (r : Int) = true := by
  unfold GR at h
  unfold Utf8.valid
  rcases h with h | ⟨h1, h2⟩
  · have a1 : decide ((0 : Int) ≤ (r : Int)) = true := by simp
    have a2 : decide ((r : Int) < 0xD800) = true := by simp; omega
    rw [a1, a2]; rfl
  · have a1 : decide ((0xE000 : Int) ≤ (r : Int)) = true := by simp; omega
    have a2 : decide ((r : Int) ≤ 0x10FFFF) = true := by simp; omega
    rw [a1, a2]; simp

theorem u8n (n : Nat) : (UInt8.ofNat n).toNat = n % 256 := UInt8.toNat_ofNat' ..

set_option maxRecDepth 100000 in
theorem encU_cases {r : Nat} (h : GR r) :
    (r < 128 ∧ encU r = [UInt8.ofNat r]) ∨
    (128 ≤ r ∧ r < 2048 ∧ encU r = [UInt8.ofNat (192 + r / 64), UInt8.ofNat (128 + r % 64)]) ∨
    (2048 ≤ r ∧ r < 65536 ∧ encU r = [UInt8.ofNat (224 + r / 4096), UInt8.ofNat (128 + r / 64 % 64), UInt8.ofNat (128 + r % 64)]) ∨
    (65536 ≤ r ∧ encU r = [UInt8.ofNat (240 + r / 262144), UInt8.ofNat (128 + r / 4096 % 64), UInt8.ofNat (128 + r / 64 % 64), UInt8.ofNat (128 + r % 64)]) := by
  have hv := valid_of h
  unfold encU Utf8.encode
  simp only [hv, if_true, Int.toNat_natCast]
  by_cases h1 : r < 128
  · left
    refine ⟨h1, ?_⟩
    rw [if_pos (by omega)]
  · right
    rw [if_neg (by omega)]
    by_cases h2 : r < 2048
    · left
      refine ⟨by omega, h2, ?_⟩
      rw [if_pos (by omega)]
    · right
      rw [if_neg (by omega)]
      by_cases h3 : r < 65536
      · left
        refine ⟨by omega, h3, ?_⟩
        rw [if_pos (by omega)]
      · right
        refine ⟨by omega, ?_⟩
        rw [if_neg (by omega)]

theorem encU_len {r : Nat} (h : GR r) : 1 ≤ (encU r).length ∧ (encU r).length ≤ 4 := by
  rcases encU_cases h with ⟨_, e⟩ | ⟨_, _, e⟩ | ⟨_, _, e⟩ | ⟨_, e⟩ <;> (rw [e]; simp)

/-- What is encoded is decoded as the same. -/
theorem dec_enc {r : Nat} (h : GR r) (t : List UInt8) : decodeL (encU r ++ t) = (r, (encU r).length) := by
  unfold GR at h
  rw [decodeL_N]
  rcases encU_cases h with ⟨h1, e⟩ | ⟨h1, h2, e⟩ | ⟨h1, h2, e⟩ | ⟨h1, e⟩
  · rw [e]
    simp only [List.cons_append, List.nil_append, List.length_cons, List.getD_cons_zero, u8n]
    unfold decodeN
    rw [if_pos (by omega)]
    simp only [Prod.mk.injEq]
    exact ⟨by omega, by simp⟩
  · rw [e]
    simp only [List.cons_append, List.nil_append, List.length_cons, List.getD_cons_zero, List.getD_cons_succ, u8n]
    rcases decodeN_shape (t.length + 1 + 1) ((192 + r / 64) % 256) ((128 + r % 64) % 256) ((t.getD 0 0).toNat) ((t.getD 1 0).toNat) with ⟨c, k⟩ | ⟨c1, c2, c3, cv, k⟩ | ⟨c1, c2, c3, c4, cv, cs, k⟩ | ⟨c1, c2, c3, c4, c5, cv, cw, k⟩ | k
    · omega
    · rw [k]
      simp only [Prod.mk.injEq]
      exact ⟨by omega, by simp⟩
    · omega
    · omega
    · exfalso
      unfold decodeN at k
      rw [if_neg (by omega), if_pos (by first | (simp; omega) | omega)] at k
      rw [if_pos (by omega)] at k
      simp only [Prod.mk.injEq] at k
      omega
  · rw [e]
    simp only [List.cons_append, List.nil_append, List.length_cons, List.getD_cons_zero, List.getD_cons_succ, u8n]
    rcases decodeN_shape (t.length + 1 + 1 + 1) ((224 + r / 4096) % 256) ((128 + r / 64 % 64) % 256) ((128 + r % 64) % 256) ((t.getD 0 0).toNat) with ⟨c, k⟩ | ⟨c1, c2, c3, cv, k⟩ | ⟨c1, c2, c3, c4, cv, cs, k⟩ | ⟨c1, c2, c3, c4, c5, cv, cw, k⟩ | k
    · omega
    · omega
    · rw [k]
      simp only [Prod.mk.injEq]
      exact ⟨by omega, by simp⟩
    · omega
    · exfalso
      unfold decodeN at k
      rw [if_neg (by omega), if_neg (by first | (simp; omega) | omega), if_pos (by first | (simp; omega) | omega)] at k
      rw [if_pos (by first | (simp; omega) | omega)] at k
      simp only [Prod.mk.injEq] at k
      omega
  · rw [e]
    simp only [List.cons_append, List.nil_append, List.length_cons, List.getD_cons_zero, List.getD_cons_succ, u8n]
    rcases decodeN_shape (t.length + 1 + 1 + 1 + 1) ((240 + r / 262144) % 256) ((128 + r / 4096 % 64) % 256) ((128 + r / 64 % 64) % 256) ((128 + r % 64) % 256) with ⟨c, k⟩ | ⟨c1, c2, c3, cv, k⟩ | ⟨c1, c2, c3, c4, cv, cs, k⟩ | ⟨c1, c2, c3, c4, c5, cv, cw, k⟩ | k
    · omega
    · omega
    · omega
    · rw [k]
      simp only [Prod.mk.injEq]
      exact ⟨by omega, by simp⟩
    · exfalso
      unfold decodeN at k
      rw [if_neg (by omega), if_neg (by first | (simp; omega) | omega), if_neg (by first | (simp; omega) | omega), if_pos (by first | (simp; omega) | omega)] at k
      rw [if_pos (by first | (simp; omega) | omega)] at k
      simp only [Prod.mk.injEq] at k
      omega

/-- The runes of some bytes. -/
def runesU : Nat → List UInt8 → List Nat
  | 0, _ => []
  | f + 1, l => if l.isEmpty then [] else (decodeL l).1 :: runesU f (l.drop (decodeL l).2)

theorem runesU_enc : ∀ (l : List Nat) (f : Nat), (∀ r ∈ l, GR r) → (enc l).length ≤ f → runesU f (enc l) = l := by
  intro l
  induction l with
  | nil =>
    intro f _ _
    cases f with
    | zero => rfl
    | succ f => rfl
  | cons r l ih =>
    intro f hg hf
    have hr := hg r (List.mem_cons_self ..)
    have hl := encU_len hr
    have e : enc (r :: l) = encU r ++ enc l := rfl
    rw [e] at hf ⊢
    rw [List.length_append] at hf
    obtain ⟨f, rfl⟩ : ∃ g, f = g + 1 := ⟨f - 1, by omega⟩
    have hne : (encU r ++ enc l).isEmpty = false := by
      cases h : encU r with
      | nil => rw [h] at hl; simp at hl
      | cons a b => rfl
    rw [runesU, hne, dec_enc hr]
    simp only [Bool.false_eq_true, if_false, List.drop_left]
    rw [ih f (fun x hx => hg x (List.mem_cons_of_mem _ hx)) (by omega)]

theorem dec_good (l : List UInt8) : GR (decodeL l).1 := by
  rw [decodeL_N]
  unfold GR
  rcases decodeN_shape l.length (l.getD 0 0).toNat (l.getD 1 0).toNat (l.getD 2 0).toNat (l.getD 3 0).toNat with ⟨c, k⟩ | ⟨c1, c2, c3, cv, k⟩ | ⟨c1, c2, c3, c4, cv, cs, k⟩ | ⟨c1, c2, c3, c4, c5, cv, cw, k⟩ | k <;> (rw [k]; simp only; omega)

theorem runesU_good : ∀ (f : Nat) (l : List UInt8), ∀ r ∈ runesU f l, GR r := by
  intro f
  induction f with
  | zero => intro l r h; cases h
  | succ f ih =>
    intro l r h
    rw [runesU] at h
    split at h
    · cases h
    · rcases List.mem_cons.1 h with rfl | h
      · exact dec_good l
      · exact ih _ r h

theorem runesU_len : ∀ (f : Nat) (l : List UInt8), (runesU f l).length ≤ f := by
  intro f
  induction f with
  | zero => intro l; exact Nat.le_refl _
  | succ f ih =>
    intro l
    rw [runesU]
    split
    · exact Nat.zero_le _
    · have := ih (l.drop (decodeL l).2)
      simp only [List.length_cons]; omega

def rv (l : List Nat) : List Value := l.map fun (r : Nat) => Value.int .i32 (r : Int)

theorem runesFrom_eq (s : ByteArray) : ∀ (bound i : Nat) (acc : Array Value), Conv.runesFrom s bound i acc = acc ++ (rv (runesU bound (s.data.toList.drop i))).toArray := by
  intro bound
  induction bound with
  | zero => intro i acc; simp [Conv.runesFrom, runesU, rv]
  | succ bound ih =>
    intro i acc
    unfold Conv.runesFrom
    have hl : (s.data.toList.drop i).length = s.size - i := by rw [List.length_drop, Array.length_toList]; rfl
    by_cases h : i < s.size
    · have hne : (s.data.toList.drop i).isEmpty = false := by
        cases hd : s.data.toList.drop i with
        | nil => rw [hd] at hl; simp at hl; omega
        | cons a b => rfl
      rw [if_pos h]
      simp only
      rw [ih, runesU, hne, decodeL_drop]
      simp [rv, List.drop_drop]
    · have hne : s.data.toList.drop i = [] := List.eq_nil_of_length_eq_zero (by omega)
      rw [if_neg h, hne]
      simp [runesU, rv]

/-- The runes of a text. -/
def runesOf (s : ByteArray) : List Nat := runesU s.size s.data.toList
theorem runesOf_eq (s : ByteArray) : Conv.runesFrom s s.size 0 #[] = (rv (runesOf s)).toArray := by
  rw [runesFrom_eq, List.drop_zero]
  simp [runesOf]
theorem runesOf_good (s : ByteArray) : ∀ r ∈ runesOf s, GR r := runesU_good _ _
theorem runesOf_len (s : ByteArray) : (runesOf s).length ≤ s.size := runesU_len _ _
theorem runesOf_enc (l : List Nat) (h : ∀ r ∈ l, GR r) : runesOf ⟨(enc l).toArray⟩ = l := by
  unfold runesOf
  refine runesU_enc l _ h ?_
  show _ ≤ (enc l).toArray.size
  rw [List.size_toArray]
  exact Nat.le_refl _

set_option maxRecDepth 100000 in
theorem runesBytes_eq (l : List Nat) : runesBytes (l.map fun (r : Nat) => (r : Int)) = ⟨(enc l).toArray⟩ := by
  have key : ∀ (l : List Nat) (s : ByteArray), (l.map fun (r : Nat) => (r : Int)).foldl (fun r n => r ++ Utf8.encode n) s = s ++ ⟨(enc l).toArray⟩ := by
    intro l
    induction l with
    | nil => 
      intro s
      apply ByteArray.ext
      rw [ByteArray.data_append]
      simp [enc]
    | cons r l ih =>
      intro s
      simp only [List.map_cons, List.foldl_cons]
      rw [ih]
      apply ByteArray.ext
      simp only [ByteArray.data_append]
      have e : enc (r :: l) = encU r ++ enc l := rfl
      rw [e]
      unfold encU
      have e2 : (Utf8.encode (r : Int)).data ++ (enc l).toArray = ((Utf8.encode (r : Int)).data.toList ++ enc l).toArray := by
        apply Array.ext'
        simp
      rw [Array.append_assoc, e2]
  unfold runesBytes
  rw [key]
  apply ByteArray.ext
  rw [ByteArray.data_append]
  simp

theorem enc_app (a b : List Nat) : enc (a ++ b) = enc a ++ enc b := by simp [enc]
theorem enc_low {l : List Nat} (h : ∀ c ∈ l, c < 128) : enc l = l.map fun c => UInt8.ofNat c := by
  induction l with
  | nil => rfl
  | cons c l ih =>
    have hc := h c (List.mem_cons_self ..)
    have e : enc (c :: l) = encU c ++ enc l := rfl
    have hg : GR c := .inl (by omega)
    rw [e, ih (fun x hx => h x (List.mem_cons_of_mem _ hx))]
    rcases encU_cases hg with ⟨_, k⟩ | ⟨k1, _⟩ | ⟨k1, _⟩ | ⟨k1, _⟩
    · rw [k]; rfl
    · omega
    · omega
    · omega

end Go.Proofs.YtfhnjgoipajiaaaDoor.pl
