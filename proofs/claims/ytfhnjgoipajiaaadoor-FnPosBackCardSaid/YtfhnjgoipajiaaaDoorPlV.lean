/-
  How long the texts of a tree are. No statement of the seat is proved here, and no program is in sight.
-/
import Derived.Test.YtfhnjgoipajiaaaDoorPlU
import Derived.Lib.ItoaLen
namespace Go.Proofs.YtfhnjgoipajiaaaDoor.pl
open Go.RowKit Go.Proofs.YtfhnjgoipajiaaaDoor.gen

def zIE : IE → Nat
  | .int _ => 1
  | .len v => v.length + 1
  | .ite c t e => c.length + zIE t + zIE e + 1
def zNA : NA → Nat
  | .var v => v.length + 1
  | .last v => v.length + 1
  | .idx v i => v.length + zIE i + 1
def zNAs : List NA → Nat
  | [] => 0
  | a :: r => zNA a + zNAs r
def zNE : NE → Nat
  | .atom a => zNA a
  | .choice a az => zNA a + zNAs az + 1
def zPA : PA → Nat
  | .var v => v.length + 1
  | .pos n => zNE n + 1
  | .end_ n => zNE n + 1
def zIs : List IE → Nat
  | [] => 0
  | i :: r => zIE i + 1 + zIs r
def zPS (s : PS) : Nat := zPA s.a + zIs s.is
def zPSs : List PS → Nat
  | [] => 0
  | s :: r => zPS s + zPSs r
def zPC (e : PC) : Nat := zPS e.s + zPSs e.ss + 1

variable {C : Cls}

theorem pvar_z {l : List Nat} {x : List Nat × List Nat} (h : pvar C l = some x) : x.1.length + x.2.length ≤ l.length ∧ 1 ≤ x.1.length := by
  obtain ⟨h1, rfl⟩ := pvar_some h
  cases l with
  | nil => cases h1
  | cons c r =>
    have h1 : C.letter c = true := h1
    have hi : idc C c = true := by unfold idc; rw [h1]; rfl
    have h2 := skip_len (C := C) ((c :: r).dropWhile (idc C))
    have h3 : ((c :: r).takeWhile (idc C)).length + ((c :: r).dropWhile (idc C)).length = (c :: r).length := by rw [← List.length_append, List.takeWhile_append_dropWhile]
    have h4 : 1 ≤ ((c :: r).takeWhile (idc C)).length := by rw [List.takeWhile_cons, if_pos hi]; simp
    simp only
    exact ⟨by omega, h4⟩
theorem iat_z : ∀ (f : Nat) (l : List Nat) (x : IE × List Nat), iat C f l = some x → zIE x.1 + 2 * x.2.length ≤ 2 * l.length := by
  intro f
  induction f with
  | zero => intro l x h; cases h
  | succ f ih =>
    intro l x h
    rw [iat] at h
    split at h
    · rename_i l1 h1
      simp only [Option.bind_eq_some_iff] at h
      obtain ⟨c, hc, l3, h3, t, ht, l5, h5, e, he, l7, h7, hx⟩ := h
      injection hx with hx
      subst hx
      have a1 := eat_len h1
      have a2 := pvar_z hc
      have a3 := eat_len h3
      have a4 := ih _ _ ht
      have a5 := eat_len h5
      have a6 := ih _ _ he
      have a7 := eat_len h7
      simp only [List.length_cons, List.length_nil, zIE] at *
      omega
    · split at h
      · rename_i hd
        simp only [Option.bind_eq_some_iff] at h
        obtain ⟨n, hn, hx⟩ := h
        injection hx with hx
        subst hx
        have := digits_len hd
        simp only [zIE]
        omega
      · simp only [Option.bind_eq_some_iff] at h
        obtain ⟨v, hv, h⟩ := h
        split at h
        · simp only [Option.bind_eq_some_iff] at h
          obtain ⟨l2, h2, s, hs, l4, h4, hx⟩ := h
          injection hx with hx
          subst hx
          have a1 := pvar_z hv
          have a2 := eat_len h2
          have a3 := pvar_z hs
          have a4 := eat_len h4
          simp only [List.length_cons, List.length_nil, zIE] at *
          omega
        · cases h
theorem nat_z {f : Nat} {l : List Nat} {x : NA × List Nat} (h : nat' C f l = some x) : zNA x.1 + 2 * x.2.length ≤ 2 * l.length := by
  unfold nat' at h
  simp only [Option.bind_eq_some_iff] at h
  obtain ⟨v, hv, h⟩ := h
  have a1 := pvar_z hv
  split at h
  · injection h with h; subst h
    simp only [zNA]
    omega
  · rename_i l1 h1
    have a2 := eat_len h1
    split at h
    · rename_i l2 h2
      simp only [Option.bind_eq_some_iff] at h
      obtain ⟨l3, h3, hx⟩ := h
      injection hx with hx
      subst hx
      have a3 := eat_len h2
      have a4 := eat_len h3
      simp only [List.length_cons, List.length_nil, zNA] at *
      omega
    · simp only [Option.bind_eq_some_iff] at h
      obtain ⟨y, hy, l3, h3, hx⟩ := h
      injection hx with hx
      subst hx
      have a3 := iat_z _ _ _ hy
      have a4 := eat_len h3
      simp only [List.length_cons, List.length_nil, zNA] at *
      omega
theorem nats_z {f : Nat} : ∀ (k : Nat) (l : List Nat) (y : List NA × List Nat), nats C f k l = some y → zNAs y.1 + 2 * y.2.length ≤ 2 * l.length := by
  intro k
  induction k with
  | zero => intro l y h; cases h
  | succ k ih =>
    intro l y h
    rw [nats] at h
    split at h
    · injection h with h; subst h; simp [zNAs]
    · rename_i l1 h1
      simp only [Option.bind_eq_some_iff] at h
      obtain ⟨x, hx, z, hz, h⟩ := h
      injection h with h; subst h
      have a1 := eat_len h1
      have a2 := nat_z hx
      have a3 := ih _ _ hz
      simp only [zNAs] at *
      omega
theorem nex_z {f : Nat} {l : List Nat} {x : NE × List Nat} (h : nex C f l = some x) : zNE x.1 + 2 * x.2.length ≤ 2 * l.length := by
  unfold nex at h
  split at h
  · rename_i l1 h1
    simp only [Option.bind_eq_some_iff] at h
    obtain ⟨x, hx, y, hy, l2, h2, h⟩ := h
    injection h with h; subst h
    have a1 := eat_len h1
    have a2 := nat_z hx
    have a3 := nats_z _ _ _ hy
    have a4 := eat_len h2
    simp only [List.length_cons, List.length_nil, zNE] at *
    omega
  · simp only [Option.bind_eq_some_iff] at h
    obtain ⟨x, hx, h⟩ := h
    injection h with h; subst h
    exact nat_z hx
theorem pat_z {f : Nat} {l : List Nat} {x : PA × List Nat} (h : pat C f l = some x) : zPA x.1 + 2 * x.2.length ≤ 2 * l.length := by
  unfold pat at h
  simp only [Option.bind_eq_some_iff] at h
  obtain ⟨n, hn, h⟩ := h
  have a1 := nex_z hn
  split at h
  · rename_i l1 h1
    simp only [Option.bind_eq_some_iff] at h
    obtain ⟨y, hy, h⟩ := h
    have a2 := eat_len h1
    have a3 := pvar_z hy
    split at h
    · injection h with h; subst h; simp only [zPA] at *; omega
    · split at h
      · injection h with h; subst h; simp only [zPA] at *; omega
      · cases h
  · simp only [Option.bind_eq_some_iff] at h
    obtain ⟨y, hy, h⟩ := h
    injection h with h; subst h
    obtain ⟨n1, n2⟩ := n
    simp only at hy a1 ⊢
    unfold paOf at hy
    split at hy
    · injection hy with hy; subst hy
      simp only [zPA, zNE, zNA] at *
      omega
    · cases hy
theorem adds_z {f : Nat} : ∀ (k : Nat) (l : List Nat) (y : List IE × List Nat), adds C f k l = some y → zIs y.1 + 2 * y.2.length ≤ 2 * l.length := by
  intro k
  induction k with
  | zero => intro l y h; cases h
  | succ k ih =>
    intro l y h
    rw [adds] at h
    split at h
    · injection h with h; subst h; simp [zIs]
    · rename_i l1 h1
      simp only [Option.bind_eq_some_iff] at h
      obtain ⟨x, hx, z, hz, h⟩ := h
      injection h with h; subst h
      have a1 := eat_len h1
      have a2 := iat_z _ _ _ hx
      have a3 := ih _ _ hz
      simp only [List.length_cons, List.length_nil, zIs] at *
      omega
theorem psx_z {f : Nat} {l : List Nat} {x : PS × List Nat} (h : psx C f l = some x) : zPS x.1 + 2 * x.2.length ≤ 2 * l.length := by
  unfold psx at h
  simp only [Option.bind_eq_some_iff] at h
  obtain ⟨a, ha, y, hy, h⟩ := h
  injection h with h; subst h
  have a1 := pat_z ha
  have a2 := adds_z _ _ _ hy
  simp only [zPS] at *
  omega
theorem alts_z {f : Nat} : ∀ (k : Nat) (l : List Nat) (y : List PS × List Nat), alts C f k l = some y → zPSs y.1 + 2 * y.2.length ≤ 2 * l.length := by
  intro k
  induction k with
  | zero => intro l y h; cases h
  | succ k ih =>
    intro l y h
    rw [alts] at h
    split at h
    · injection h with h; subst h; simp [zPSs]
    · rename_i l1 h1
      simp only [Option.bind_eq_some_iff] at h
      obtain ⟨x, hx, z, hz, h⟩ := h
      injection h with h; subst h
      have a1 := eat_len h1
      have a2 := psx_z hx
      have a3 := ih _ _ hz
      simp only [zPSs] at *
      omega
/-- What is read is no greater than the text. -/
theorem parse_z {s : List Nat} {e : PC} (h : parse C s = some e) : zPC e ≤ 2 * s.length + 1 := by
  unfold parse at h
  simp only [Option.bind_eq_some_iff] at h
  obtain ⟨x, hx, h⟩ := h
  split at h
  · injection h with h; subst h
    unfold pcx at hx
    simp only [Option.bind_eq_some_iff] at hx
    obtain ⟨a, ha, y, hy, hx⟩ := hx
    injection hx with hx; subst hx
    have a1 := psx_z ha
    have a2 := alts_z _ _ _ hy
    have a3 := skip_len (C := C) s
    simp only [zPC] at *
    omega
  · cases h

end Go.Proofs.YtfhnjgoipajiaaaDoor.pl
