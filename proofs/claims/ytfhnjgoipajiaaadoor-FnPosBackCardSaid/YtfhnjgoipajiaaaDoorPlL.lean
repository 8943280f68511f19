/-
  Contract of parsePosExpr of the language of positions. No statement of the seat is proved here.
-/
import Derived.Test.YtfhnjgoipajiaaaDoorPlK
namespace Go.Proofs.YtfhnjgoipajiaaaDoor.pl
open Go.RowKit Go.Proofs.YtfhnjgoipajiaaaDoor.gen

theorem nats_len {C : Cls} {f : Nat} : ∀ (k : Nat) (l : List Nat) (y : List NA × List Nat), nats C f k l = some y → y.2.length ≤ l.length := by
  intro k
  induction k with
  | zero => intro l y h; cases h
  | succ k ih =>
    intro l y h
    rw [nats] at h
    split at h
    · injection h with h; subst h; exact Nat.le_refl _
    · rename_i l1 h1
      simp only [Option.bind_eq_some_iff] at h
      obtain ⟨x, hx, z, hz, h⟩ := h
      injection h with h; subst h
      have a1 := eat_len h1
      have a2 := nat_len hx
      have a3 := ih _ _ hz
      simp only at *
      omega
theorem nex_len {C : Cls} {f : Nat} {l : List Nat} {x : NE × List Nat} (h : nex C f l = some x) : x.2.length + 1 ≤ l.length := by
  unfold nex at h
  split at h
  · rename_i l1 h1
    simp only [Option.bind_eq_some_iff] at h
    obtain ⟨x, hx, y, hy, l2, h2, h⟩ := h
    injection h with h; subst h
    have a1 := eat_len h1
    have a2 := nat_len hx
    have a3 := nats_len _ _ _ hy
    have a4 := eat_len h2
    simp only at *
    omega
  · simp only [Option.bind_eq_some_iff] at h
    obtain ⟨x, hx, h⟩ := h
    injection h with h; subst h
    exact nat_len hx
theorem pat_len {C : Cls} {f : Nat} {l : List Nat} {x : PA × List Nat} (h : pat C f l = some x) : x.2.length + 1 ≤ l.length := by
  unfold pat at h
  simp only [Option.bind_eq_some_iff] at h
  obtain ⟨n, hn, h⟩ := h
  have a1 := nex_len hn
  split at h
  · rename_i l1 h1
    simp only [Option.bind_eq_some_iff] at h
    obtain ⟨y, hy, h⟩ := h
    have a2 := eat_len h1
    have a3 := pvar_len hy
    split at h
    · injection h with h; subst h; simp only at *; omega
    · split at h
      · injection h with h; subst h; simp only at *; omega
      · cases h
  · simp only [Option.bind_eq_some_iff] at h
    obtain ⟨y, hy, h⟩ := h
    injection h with h; subst h; exact a1
theorem adds_len {C : Cls} {f : Nat} : ∀ (k : Nat) (l : List Nat) (y : List IE × List Nat), adds C f k l = some y → y.2.length ≤ l.length := by
  intro k
  induction k with
  | zero => intro l y h; cases h
  | succ k ih =>
    intro l y h
    rw [adds] at h
    split at h
    · injection h with h; subst h; exact Nat.le_refl _
    · rename_i l1 h1
      simp only [Option.bind_eq_some_iff] at h
      obtain ⟨x, hx, z, hz, h⟩ := h
      injection h with h; subst h
      have a1 := eat_len h1
      have a2 := iat_len _ _ _ hx
      have a3 := ih _ _ hz
      simp only at *
      omega
theorem psx_len {C : Cls} {f : Nat} {l : List Nat} {x : PS × List Nat} (h : psx C f l = some x) : x.2.length + 1 ≤ l.length := by
  unfold psx at h
  simp only [Option.bind_eq_some_iff] at h
  obtain ⟨a, ha, y, hy, h⟩ := h
  injection h with h; subst h
  have a1 := pat_len ha
  have a2 := adds_len _ _ _ hy
  simp only at *
  omega

/-- What the reader of positions holds, between two numbers that are added. -/
structure SL (w : World) (pb : Nat) (R : List Nat) (f : Nat) (l0 : List Nat) (v : Value) (q : Nat) (wr : World) : Prop where
  frm : Frm w wr [pb]
  env : Env wr pb
  pos : At wr pb R q
  len : (R.drop q).length < f
  own : ∃ (a : PA) (ds : List IE) (k : Nat), AddAt wr pb a ds v ∧ (R.drop q).length < k ∧ psx cls f l0 = (adds cls f k (R.drop q)).map fun y => (⟨a, ds.reverse ++ y.1⟩, y.2)

set_option maxRecDepth 100000 in
set_option maxHeartbeats 2000000 in
theorem posExpr_any (pb : Nat) (R : List Nat) (f p : Nat) (w : World) (hlen : (R.drop p).length < f) (h : At w pb R p) (hE : Env w pb) : Calls Tryd.prog 18 #[.pointer (some ⟨pb, 0, none⟩)] w (PR repS (psx cls f (R.drop p)) pb R w) := by
  have HA := Lib.hid h
  have HE := Lib.hid hE
  have HLn := Lib.hid hlen
  clear h hE hlen
  go_enter Tryd.func18, Tryd.ntmps18
  go_wp2_with fail
  refine (posAtom_any pb R f p _ HLn.out HA.out HE.out).mono ?_
  rintro e w1 (⟨x1, v1, ho, rfl, hr1, ⟨q1, hq1, ha1⟩, hf1⟩ | ⟨ho, ⟨b1, rfl⟩, hf1⟩)
  case inr =>
    go_wp2_with fail
    exact ⟨rfl, .inr ⟨by unfold psx; rw [ho]; rfl, ⟨_, rfl⟩, hf1⟩⟩
  case inl =>
    have a1 := pat_len ho
    rw [← hq1] at a1
    have HI0 : Hid (SL w pb R f (R.drop p) v1 q1 w1) := by
      have := HLn.out
      refine ⟨hf1, HE.out.frm hf1 (by simp), ha1, by omega, x1.1, [], f, hr1, by omega, ?_⟩
      unfold psx
      rw [ho]
      simp only [Option.bind_some, ← hq1]
      cases adds cls f f (R.drop q1) <;> rfl
    clear ho hr1 hq1 ha1 hf1 a1
    go_wp2_with fail
    go_loopg [3] (R.drop q1).length (fun g v wr => ∃ q, g = (R.drop q).length ∧ Hid (SL w pb R f (R.drop p) v q wr))
    case atStart => exact ⟨q1, rfl, HI0⟩
    case round =>
      obtain ⟨q, hg, HN⟩ := hrel
      obtain ⟨a, ds, k, hL, hk, hX⟩ := HN.out.own
      obtain ⟨k, rfl⟩ : ∃ j, k = j + 1 := ⟨k - 1, by omega⟩
      obtain ⟨t0, b0, hv, hb0⟩ := AddAt.iface hL
      have HX := Lib.hid hX
      have HLo := Lib.hid hL
      clear hX hL
      subst hv
      go_wp2_with fail
      refine (consume_any [43] _ tk43 pb R q _ HN.out.pos HN.out.env).mono ?_
      rintro e w3 (⟨l3, ho, rfl, ⟨q3, rfl, ha3⟩, hf3⟩ | ⟨ho, rfl, ha3, hf3⟩)
      case inr =>
        have HO3 : Hid (psx cls f (R.drop p) = some (⟨a, ds.reverse⟩, R.drop q)) := by
          show psx cls f (R.drop p) = _
          rw [HX.out, adds, ho]; simp
        have L3 := Lib.hid (AddAt.frm hf3 HLo.out)
        have A3 := Lib.hid ha3
        have F3 := Lib.hid (HN.out.frm.step hf3)
        clear ho ha3 hf3
        go_wp2_with fail
        go_ret
        exact .inl ⟨_, _, HO3.out, rfl, by show AddAt _ _ _ ds.reverse.reverse _; rw [List.reverse_reverse]; exact L3.out, ⟨q, rfl, A3.out⟩, F3.out⟩
      case inl =>
        have a2 := eat_len ho
        simp only [List.length_cons, List.length_nil] at a2
        have hl3 : (R.drop q3).length < f := by
          have h1 := HN.out.len
          omega
        have E3 := Lib.hid ho
        have A3 := Lib.hid ha3
        have F3 := Lib.hid (HN.out.frm.step hf3)
        have V3 := Lib.hid (HN.out.env.frm hf3 (by simp))
        have L3 := Lib.hid (AddAt.frm hf3 HLo.out)
        clear ho ha3 hf3
        go_wp2_with fail
        refine (intAtom_any pb R f q3 _ hl3 A3.out V3.out).mono ?_
        rintro e w4 (⟨x4, v4, ho, rfl, hr4, ⟨q4, hq4, ha4⟩, hf4⟩ | ⟨ho, ⟨b4, rfl⟩, hf4⟩)
        case inr =>
          go_wp2_with fail
          exact ⟨rfl, .inr ⟨by rw [HX.out, adds, E3.out]; simp only [ho, Option.bind_none, Option.map_none], ⟨_, rfl⟩, F3.out.step hf4⟩⟩
        case inl =>
          obtain ⟨t4, y4, hv4⟩ := IEAt.iface hr4
          subst hv4
          have a4 := iat_len _ _ _ ho
          rw [← hq4] at a4
          have hA : ∀ o, Frm w4 (w4.alloc o) [pb] := fun o => (Frm.refl _ _).alloc o
          have HN5 : Hid (SL w pb R f (R.drop p) (.iface 68 (.pointer (some ⟨w4.heap.size, 0, none⟩))) q4 (w4.alloc (.cells #[.iface t0 (.pointer (some ⟨b0, 0, none⟩)), .iface t4 y4] 72))) := by
            refine ⟨(F3.out.step hf4).step (hA _), (V3.out.frm hf4 (by simp)).frm (hA _) (by simp), ha4.frm ((Frm.refl _ _).alloc _), by omega, a, x4.1 :: ds, k, ⟨w4.heap.size, _, _, rfl, ha4.lt, heap_alloc_new w4 _, AddAt.frm (hA _) (AddAt.frm hf4 L3.out), IEAt.frm (hA _) hr4⟩, by omega, ?_⟩
            rw [HX.out, adds, E3.out]
            simp only [ho, Option.bind_some, ← hq4]
            cases adds cls f k (R.drop q4) with
            | none => rfl
            | some y => simp
          have hg4 : (R.drop q4).length < (R.drop q).length := by omega
          clear ho hr4 hq4 ha4 hf4 a4 hA
          go_wp2_with fail
          go_roundg (R.drop q4).length
          case measure => omega
          case rel => exact ⟨q4, rfl, HN5⟩

end Go.Proofs.YtfhnjgoipajiaaaDoor.pl
