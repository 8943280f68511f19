/-
  Contract of parsePosAtom of the language of positions. No statement of the seat is proved here.
-/
import Derived.Test.YtfhnjgoipajiaaaDoorPlJ
namespace Go.Proofs.YtfhnjgoipajiaaaDoor.pl
open Go.RowKit Go.Proofs.YtfhnjgoipajiaaaDoor.gen

theorem ta_var (u : Value) (w : World) : (Instr.typeAssert (.iface 50 u) 55 50 true).run Tryd.prog w = .ok (.tuple #[u, .bool true]) w := by kernel_rfl
theorem ta_last (u : Value) (w : World) : (Instr.typeAssert (.iface 78 u) 55 50 true).run Tryd.prog w = .ok (.tuple #[.pointer none, .bool false]) w := by kernel_rfl
theorem ta_idx (u : Value) (w : World) : (Instr.typeAssert (.iface 73 u) 55 50 true).run Tryd.prog w = .ok (.tuple #[.pointer none, .bool false]) w := by kernel_rfl
theorem ta_choice (u : Value) (w : World) : (Instr.typeAssert (.iface 64 u) 55 50 true).run Tryd.prog w = .ok (.tuple #[.pointer none, .bool false]) w := by kernel_rfl

theorem pat_some {f : Nat} {l l1 : List Nat} {x : NE × List Nat} (h : nex cls f l = some x) (h1 : eat cls [46] x.2 = some l1) : pat cls f l = (pvar cls l1).bind fun y => if y.1 = kPos then some (.pos x.1, y.2) else if y.1 = kEnd then some (.end_ x.1, y.2) else none := by
  unfold pat
  rw [h]
  simp only [Option.bind_some, h1]
theorem pat_none {f : Nat} {l : List Nat} {x : NE × List Nat} (h : nex cls f l = some x) (h1 : eat cls [46] x.2 = none) : pat cls f l = (paOf x.1).bind fun a => some (a, x.2) := by
  unfold pat
  rw [h]
  simp only [Option.bind_some, h1]

set_option maxRecDepth 100000 in
set_option maxHeartbeats 2000000 in
theorem posAtom_any (pb : Nat) (R : List Nat) (f p : Nat) (w : World) (hlen : (R.drop p).length < f) (h : At w pb R p) (hE : Env w pb) : Calls Tryd.prog 21 #[.pointer (some ⟨pb, 0, none⟩)] w (PR repP (pat cls f (R.drop p)) pb R w) := by
  have hgood := h.good
  have HA := Lib.hid h
  have HE := Lib.hid hE
  clear h hE
  go_enter Tryd.func21, Tryd.ntmps21
  go_wp2_with fail
  refine (nodeExpr_any pb R f p _ hlen HA.out HE.out).mono ?_
  rintro e w1 (⟨x1, v1, ho, rfl, hr1, ⟨q1, hq1, ha1⟩, hf1⟩ | ⟨ho, ⟨b1, rfl⟩, hf1⟩)
  case inr =>
    go_wp2_with fail
    exact ⟨rfl, .inr ⟨by unfold pat; rw [ho]; rfl, ⟨_, rfl⟩, hf1⟩⟩
  case inl =>
    obtain ⟨t1, b1, rfl, hb1⟩ := NEAt.iface hr1
    have E1 := Lib.hid ho
    have R1 := Lib.hid hr1
    have Q1 := Lib.hid hq1
    have A1 := Lib.hid ha1
    have F1 := Lib.hid hf1
    have V1 := Lib.hid (HE.out.frm hf1 (by simp))
    clear ho hr1 hq1 ha1 hf1
    go_wp2_with fail
    refine (consume_any [46] _ tk46 pb R q1 _ A1.out V1.out).mono ?_
    rintro e w2 (⟨l2, ho, rfl, ⟨q2, rfl, ha2⟩, hf2⟩ | ⟨ho, rfl, ha2, hf2⟩)
    case inl =>
      have E2 := Lib.hid (pat_some E1.out (by rw [← Q1.out]; exact ho))
      have A2 := Lib.hid ha2
      have F2 := Lib.hid (F1.out.step hf2)
      have V2 := Lib.hid (V1.out.frm hf2 (by simp))
      have R2 := Lib.hid (NEAt.frm hf2 R1.out)
      clear ho ha2 hf2
      go_wp2_with fail
      refine (parseVar_any pb R q2 _ A2.out V2.out).mono ?_
      rintro e w3 (⟨x3, v3, ho, rfl, ⟨b3, rfl, hb3, hc3⟩, ⟨q3, hq3, ha3⟩, hf3⟩ | ⟨ho, ⟨b3, rfl⟩, hf3⟩)
      case inr =>
        go_wp2_with fail
        exact ⟨rfl, .inr ⟨by rw [E2.out, ho]; rfl, ⟨_, rfl⟩, F2.out.step hf3⟩⟩
      case inl =>
        have c3 : w3.cell? ⟨b3, 0, none⟩ = some (.string ⟨(enc x3.1).toArray⟩) := block_cell hc3 0
        have hgx : ∀ r ∈ x3.1, GR r := by
          obtain ⟨_, hx⟩ := pvar_some ho
          rw [hx]
          exact fun r hr => hgood r (List.mem_of_mem_drop ((List.takeWhile_sublist _).subset hr))
        have hcmp := enc_name (k := kPos) (kb := [112, 111, 115]) (by decide) rfl hgx
        have hcmp2 := enc_name (k := kEnd) (kb := [101, 110, 100]) (by decide) rfl hgx
        obtain ⟨pt, hpt⟩ : ∃ pt : ByteArray, (⟨(enc x3.1).toArray⟩ : ByteArray) = pt := ⟨_, rfl⟩
        rw [hpt] at c3 hcmp hcmp2
        have E3 := Lib.hid ho
        have A3 := Lib.hid ha3
        have Q3 := Lib.hid hq3
        have F3 := Lib.hid (F2.out.step hf3)
        have R3 := Lib.hid (NEAt.frm hf3 R2.out)
        clear ho hb3 hc3 hq3 ha3 hf3 hgx hpt
        by_cases hk : x3.1 = kPos
        · rw [decide_eq_true hk] at hcmp
          have HO : Hid (pat cls f (R.drop p) = some (.pos x1.1, R.drop q3)) := by
            show pat cls f (R.drop p) = _
            rw [E2.out, E3.out]
            simp only [Option.bind_some, if_pos hk, ← Q3.out]
          clear hk hcmp2
          go_wp2_with fail
          go_ret
          have hA : ∀ o, Frm w3 (w3.alloc o) [pb] := fun o => (Frm.refl _ _).alloc o
          exact .inl ⟨_, _, HO.out, rfl, ⟨w3.heap.size, _, rfl, A3.out.lt, heap_alloc_new w3 _, NEAt.frm (hA _) R3.out⟩, ⟨q3, rfl, A3.out.frm ((Frm.refl _ []).alloc _)⟩, F3.out.alloc _⟩
        · rw [decide_eq_false hk] at hcmp
          by_cases hk2 : x3.1 = kEnd
          · rw [decide_eq_true hk2] at hcmp2
            have HO : Hid (pat cls f (R.drop p) = some (.end_ x1.1, R.drop q3)) := by
              show pat cls f (R.drop p) = _
              rw [E2.out, E3.out]
              simp only [Option.bind_some, if_neg hk, if_pos hk2, ← Q3.out]
            clear hk hk2
            go_wp2_with fail
            go_ret
            have hA : ∀ o, Frm w3 (w3.alloc o) [pb] := fun o => (Frm.refl _ _).alloc o
            exact .inl ⟨_, _, HO.out, rfl, ⟨w3.heap.size, _, rfl, A3.out.lt, heap_alloc_new w3 _, NEAt.frm (hA _) R3.out⟩, ⟨q3, rfl, A3.out.frm ((Frm.refl _ []).alloc _)⟩, F3.out.alloc _⟩
          · rw [decide_eq_false hk2] at hcmp2
            have HO : Hid (pat cls f (R.drop p) = none) := by
              show pat cls f (R.drop p) = _
              rw [E2.out, E3.out]
              simp only [Option.bind_some, if_neg hk, if_neg hk2]
            clear hk hk2
            go_wp2_with fail
            refine (errNew_any _ _).mono ?_
            rintro e w8 ⟨rfl, hb8⟩
            have HF8 := Lib.hid (F3.out.on hb8)
            clear hb8
            unfold errV
            go_wp2_with fail
            exact ⟨rfl, .inr ⟨HO.out, ⟨_, rfl⟩, HF8.out⟩⟩
    case inr =>
      have E2 := Lib.hid (pat_none E1.out (by rw [← Q1.out]; exact ho))
      have A2 := Lib.hid ha2
      have F2 := Lib.hid (F1.out.step hf2)
      have R2 := Lib.hid (NEAt.frm hf2 R1.out)
      clear ho ha2 hf2
      obtain ⟨n1, r1⟩ := x1
      have hR := R2.out
      cases n1 with
      | atom a =>
        cases a with
        | var s =>
          obtain ⟨u, hu, hv⟩ := hR
          obtain ⟨rfl, hu2⟩ : t1 = _ ∧ .pointer (some ⟨b1, 0, none⟩) = u := by injection hu with h1 h2; exact ⟨h1, h2⟩
          subst hu2
          have HV := Lib.hid hv
          have hta := ta_var
          clear hv hu
          go_wp2_with fail
          go_ret
          exact .inl ⟨(.var s, r1), _, E2.out, rfl, ⟨_, rfl, HV.out⟩, ⟨q1, Q1.out, A2.out⟩, F2.out⟩
        | last s =>
          obtain ⟨b, u, hu, _⟩ := hR
          obtain rfl : t1 = _ := by injection hu
          have hta := ta_last
          clear hu
          go_wp2_with fail
          refine (errNew_any _ _).mono ?_
          rintro e w8 ⟨rfl, hb8⟩
          have HF8 := Lib.hid (F2.out.on hb8)
          clear hb8
          unfold errV
          go_wp2_with fail
          exact ⟨rfl, .inr ⟨E2.out, ⟨_, rfl⟩, HF8.out⟩⟩
        | idx s i =>
          obtain ⟨b, u, vi, hu, _⟩ := hR
          obtain rfl : t1 = _ := by injection hu
          have hta := ta_idx
          clear hu
          go_wp2_with fail
          refine (errNew_any _ _).mono ?_
          rintro e w8 ⟨rfl, hb8⟩
          have HF8 := Lib.hid (F2.out.on hb8)
          clear hb8
          unfold errV
          go_wp2_with fail
          exact ⟨rfl, .inr ⟨E2.out, ⟨_, rfl⟩, HF8.out⟩⟩
      | choice a az =>
        obtain ⟨b, vl, hu, _⟩ := hR
        obtain rfl : t1 = _ := by injection hu
        have hta := ta_choice
        clear hu
        go_wp2_with fail
        refine (errNew_any _ _).mono ?_
        rintro e w8 ⟨rfl, hb8⟩
        have HF8 := Lib.hid (F2.out.on hb8)
        clear hb8
        unfold errV
        go_wp2_with fail
        exact ⟨rfl, .inr ⟨E2.out, ⟨_, rfl⟩, HF8.out⟩⟩

end Go.Proofs.YtfhnjgoipajiaaaDoor.pl
