/-
  Plain lemmas on the lines of a text: its parts between line feeds, and where its lines begin. No statement of the seat is proved here.
-/
import Derived.Test.YthndckejdalabaaGen
namespace Go.Proofs.Ythndckejdalabaa.lines
open Go.RowKit Go.Proofs.Ythndckejdalabaa.gen

def brk : List UInt8 → Nat
  | [] => 0
  | c :: r => if c = 10 then 0 else brk r + 1

def parts : List UInt8 → List (List UInt8)
  | [] => [[]]
  | c :: r => if c = 10 then [] :: parts r else match parts r with
    | [] => [[c]]
    | p :: q => (c :: p) :: q

def lns (off : Nat) : List UInt8 → List Nat
  | [] => [off + 1]
  | c :: r => if c = 10 then (off + 1) :: lns (off + 1) r else lns (off + 1) r

def LL (off : Nat) (l : List UInt8) : List Nat := off :: lns off l

theorem brk_le (l : List UInt8) : brk l ≤ l.length := by
  induction l with
  | nil => exact Nat.le_refl _
  | cons c r ih => unfold brk; split <;> simp <;> omega

theorem brk_at (l : List UInt8) (k : Nat) (h : k ≤ brk l) (hc : l[k]? = some 10) : brk l = k := by
  induction l generalizing k with
  | nil => simp at hc
  | cons c r ih =>
    unfold brk at h ⊢
    cases k with
    | zero => simp at hc; rw [if_pos hc]
    | succ k =>
      split at h
      · omega
      · rename_i hne
        rw [if_neg hne, ih k (by omega) (by simpa using hc)]

theorem brk_next (l : List UInt8) (k : Nat) (h : k ≤ brk l) (c : UInt8) (hc : l[k]? = some c) (hn : c ≠ 10) : k + 1 ≤ brk l := by
  induction l generalizing k with
  | nil => simp at hc
  | cons d r ih =>
    unfold brk at h ⊢
    cases k with
    | zero =>
      simp at hc
      subst hc
      rw [if_neg hn]; omega
    | succ k =>
      split at h
      · omega
      · rename_i hne
        rw [if_neg hne]
        have := ih k (by omega) (by simpa using hc)
        omega

theorem parts_ne (l : List UInt8) : parts l ≠ [] := by
  cases l with
  | nil => simp [parts]
  | cons c r =>
    unfold parts
    split
    · simp
    · split <;> simp

theorem parts_cons (c : UInt8) (r : List UInt8) : parts (c :: r) = if c = 10 then [] :: parts r else match parts r with
    | [] => [[c]]
    | p :: q => (c :: p) :: q := rfl

theorem parts_step (l : List UInt8) (h : brk l < l.length) : parts l = l.take (brk l) :: parts (l.drop (brk l + 1)) := by
  induction l with
  | nil => simp at h
  | cons c r ih =>
    unfold brk at h ⊢
    rw [parts_cons]
    by_cases hc : c = 10
    · rw [if_pos hc, if_pos hc]; simp
    · rw [if_neg hc] at h
      rw [if_neg hc, if_neg hc, ih (by simp at h; omega)]
      simp

theorem parts_end (l : List UInt8) (h : brk l = l.length) : parts l = [l] := by
  induction l with
  | nil => rfl
  | cons c r ih =>
    unfold brk at h
    rw [parts_cons]
    by_cases hc : c = 10
    · rw [if_pos hc] at h; simp at h
    · rw [if_neg hc] at h
      rw [if_neg hc, ih (by simp at h; omega)]

theorem ll_len (off : Nat) (l : List UInt8) : (LL off l).length = (parts l).length + 1 := by
  unfold LL
  induction l generalizing off with
  | nil => rfl
  | cons c r ih =>
    have h := ih (off + 1)
    unfold lns parts
    split
    · simpa using h
    · have hne := parts_ne r
      cases hp : parts r with
      | nil => exact absurd hp hne
      | cons p q => rw [hp] at h; simpa using h

theorem parts_le (l : List UInt8) : (parts l).length ≤ l.length + 1 := by
  induction l with
  | nil => exact Nat.le_refl _
  | cons c r ih =>
    unfold parts
    split
    · simpa using ih
    · cases hp : parts r with
      | nil => simp
      | cons p q => rw [hp] at ih; simp at ih ⊢; omega

theorem ll_step (off : Nat) (l : List UInt8) (k : Nat) (p : List UInt8) (x : Nat) (hp : (parts l)[k]? = some p) (hx : (LL off l)[k]? = some x) : (LL off l)[k + 1]? = some (x + p.length + 1) := by
  induction l generalizing off k p x with
  | nil =>
    cases k with
    | zero => simp [parts] at hp; simp [LL] at hx; subst hp; subst hx; rfl
    | succ k => simp [parts] at hp
  | cons c r ih =>
    unfold parts at hp
    unfold LL lns at hx ⊢
    by_cases hc : c = 10
    · rw [if_pos hc] at hp hx ⊢
      cases k with
      | zero => simp at hp hx; subst hp; subst hx; simp
      | succ k =>
        have := ih (off + 1) k p x (by simpa using hp) (by simpa [LL] using hx)
        simpa [LL] using this
    · rw [if_neg hc] at hp hx ⊢
      cases hr : parts r with
      | nil => exact absurd hr (parts_ne r)
      | cons p0 q =>
        rw [hr] at hp
        cases k with
        | zero =>
          simp at hp hx
          subst hp; subst hx
          have := ih (off + 1) 0 p0 (off + 1) (by rw [hr]; rfl) rfl
          simp only [LL, List.getElem?_cons_succ] at this ⊢
          rw [this]; simp; omega
        | succ k =>
          have := ih (off + 1) (k + 1) p x (by rw [hr]; simpa using hp) (by simpa [LL] using hx)
          simpa [LL] using this

theorem ll_last (off : Nat) (l : List UInt8) : (LL off l)[(parts l).length]? = some (off + l.length + 1) := by
  induction l generalizing off with
  | nil => rfl
  | cons c r ih =>
    have h := ih (off + 1)
    
    unfold LL lns parts
    by_cases hc : c = 10
    · rw [if_pos hc, if_pos hc]
      simp only [List.length_cons, List.getElem?_cons_succ]
      simp only [LL] at h
      rw [h]; simp; omega
    · rw [if_neg hc, if_neg hc]
      cases hp : parts r with
      | nil => exact absurd hp (parts_ne r)
      | cons p q =>
        rw [hp] at h
        simp only [LL, List.length_cons, List.getElem?_cons_succ] at h ⊢
        rw [h]; simp; omega

/-- What is left of the lines behind one byte, seen from the place of that byte: for the search forward. -/
theorem ll_back (off : Nat) (c : UInt8) (r : List UInt8) (k st : Nat) (h : (LL off (c :: r))[k + 1]? = some st) : (LL (off + 1) r)[if c = 10 then k else k + 1]? = some st := by
  unfold LL lns at h
  by_cases hc : c = 10
  · rw [if_pos hc] at h ⊢
    simpa [LL] using h
  · rw [if_neg hc] at h ⊢
    simpa [LL] using h

end Go.Proofs.Ythndckejdalabaa.lines
