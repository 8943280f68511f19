/-
  Contract of parsePosChoice of the language of positions. No statement of the seat is proved here.
-/
import Derived.Test.YtfhnjgoipajiaaaDoorPlL
namespace Go.Proofs.YtfhnjgoipajiaaaDoor.pl
open Go.RowKit Go.Proofs.YtfhnjgoipajiaaaDoor.gen

/-- What the reader of positions holds, between two alternatives. -/
structure CL (w : World) (pb : Nat) (R : List Nat) (f : Nat) (l0 : List Nat) (v : Value) (q : Nat) (wr : World) : Prop where
  frm : Frm w wr [pb]
  env : Env wr pb
  pos : At wr pb R q
  len : (R.drop q).length < f
  own : ∃ (a b : PS) (bs : List PS) (k : Nat), LOn repS tPE w.heap.size wr pb v (a :: b :: bs) ∧ bs.length + 2 + (R.drop q).length ≤ R.length ∧ (R.drop q).length < k ∧ pcx cls f l0 = (alts cls f k (R.drop q)).map fun y => (⟨a, b :: (bs ++ y.1)⟩, y.2)

theorem repS_frm {w w' : World} {pb : Nat} (hf : Frm w w' [pb]) {s : PS} {v : Value} (h : repS w pb v s) : repS w' pb v s := AddAt.frm hf h

set_option maxRecDepth 100000 in
set_option maxHeartbeats 4000000 in
theorem posChoice_any (pb : Nat) (R : List Nat) (f p : Nat) (w : World) (hlen : (R.drop p).length < f) (h : At w pb R p) (hE : Env w pb) : Calls Tryd.prog 12 #[.pointer (some ⟨pb, 0, none⟩)] w (PR (fun w pb v e => PCAt w pb e v) (pcx cls f (R.drop p)) pb R w) := by
  obtain ⟨i0, hi0, hz0, hz1, hz2⟩ := info_parts infoPE
  have hRl := h.len
  have hpw := h.lt
  have HA := Lib.hid h
  have HE := Lib.hid hE
  have HLn := Lib.hid hlen
  clear h hE hlen
  go_enter Tryd.func12, Tryd.ntmps12
  go_wp2_with fail
  refine (posExpr_any pb R f p _ HLn.out HA.out HE.out).mono ?_
  rintro e w1 (⟨x1, v1, ho, rfl, hr1, ⟨q1, hq1, ha1⟩, hf1⟩ | ⟨ho, ⟨b1, rfl⟩, hf1⟩)
  case inr =>
    go_wp2_with fail
    exact ⟨rfl, .inr ⟨by unfold pcx; rw [ho]; rfl, ⟨_, rfl⟩, hf1⟩⟩
  case inl =>
    obtain ⟨t1, b1, rfl, hb1⟩ := AddAt.iface hr1
    have a1 := psx_len ho
    rw [← hq1] at a1
    have HLq : Hid ((R.drop q1).length < f) := by have := HLn.out; show (R.drop q1).length < f; omega
    have HP1 : Hid ((R.drop q1).length + 1 ≤ R.length) := by
      have : (R.drop p).length ≤ R.length := by rw [List.length_drop]; omega
      show (R.drop q1).length + 1 ≤ R.length
      omega
    obtain ⟨g, hfg⟩ : ∃ g, f = g + 1 := ⟨f - 1, by have := HLn.out; omega⟩
    have HX1 : Hid (pcx cls f (R.drop p) = (alts cls f (g + 1) (R.drop q1)).map fun y => (⟨x1.1, y.1⟩, y.2)) := by
      show pcx cls f (R.drop p) = _
      unfold pcx
      rw [ho]
      simp only [Option.bind_some, ← hq1]
      rw [← hfg]
      cases alts cls f f (R.drop q1) <;> rfl
    have HFg := Lib.hid hfg
    have R1 := Lib.hid hr1
    have A1 := Lib.hid ha1
    have F1 := Lib.hid hf1
    have V1 := Lib.hid (HE.out.frm hf1 (by simp))
    clear ho hr1 hq1 ha1 hf1 a1 hfg
    go_wp2_with fail
    refine (consume_any [124, 124] _ tkOO pb R q1 _ A1.out V1.out).mono ?_
    rintro e w2 (⟨l2, ho, rfl, ⟨q2, rfl, ha2⟩, hf2⟩ | ⟨ho, rfl, ha2, hf2⟩)
    case inr =>
      have HO : Hid (pcx cls f (R.drop p) = some (⟨x1.1, []⟩, R.drop q1)) := by
        show pcx cls f (R.drop p) = _
        rw [HX1.out, alts, ho]; rfl
      have R2 := Lib.hid (repS_frm hf2 R1.out)
      have A2 := Lib.hid ha2
      have F2 := Lib.hid (F1.out.step hf2)
      clear ho ha2 hf2
      go_wp2_with fail
      go_ret
      exact .inl ⟨_, _, HO.out, rfl, .inl ⟨rfl, R2.out⟩, ⟨q1, rfl, A2.out⟩, F2.out⟩
    case inl =>
      have a2 := eat_len ho
      simp only [List.length_cons, List.length_nil] at a2
      have hl2 : (R.drop q2).length < f := by have := HLq.out; omega
      have hl2g : (R.drop q2).length < g := by have h1 := HLq.out; have h2 := HFg.out; omega
      have HP2 : Hid ((R.drop q2).length + 3 ≤ R.length) := by have := HP1.out; show (R.drop q2).length + 3 ≤ R.length; omega
      have E2 := Lib.hid ho
      have R2 := Lib.hid (repS_frm hf2 R1.out)
      have A2 := Lib.hid ha2
      have F2 := Lib.hid (F1.out.step hf2)
      have V2 := Lib.hid (V1.out.frm hf2 (by simp))
      clear ho ha2 hf2
      go_wp2_with fail
      refine (posExpr_any pb R f q2 _ hl2 A2.out V2.out).mono ?_
      rintro e w3 (⟨x3, v3, ho, rfl, hr3, ⟨q3, hq3, ha3⟩, hf3⟩ | ⟨ho, ⟨b3, rfl⟩, hf3⟩)
      case inr =>
        go_wp2_with fail
        exact ⟨rfl, .inr ⟨by rw [HX1.out, alts, E2.out]; simp only [ho, Option.bind_none, Option.map_none], ⟨_, rfl⟩, F2.out.step hf3⟩⟩
      case inl =>
        obtain ⟨t3, b3, rfl, hb3⟩ := AddAt.iface hr3
        have a3 := psx_len ho
        rw [← hq3] at a3
        have hz3 : w.heap.size ≤ w3.heap.size := (F2.out.step hf3).size
        have hfa : Frm w3 (w3.alloc (.cells #[.iface t1 (.pointer (some ⟨b1, 0, none⟩)), .iface t3 (.pointer (some ⟨b3, 0, none⟩))] tPE)) [pb] := (Frm.refl _ _).alloc _
        have HI0 : Hid (CL w pb R f (R.drop p) (.slice (some ⟨w3.heap.size, 0, none⟩) 2 2) q3 (w3.alloc (.cells #[.iface t1 (.pointer (some ⟨b1, 0, none⟩)), .iface t3 (.pointer (some ⟨b3, 0, none⟩))] tPE))) := by
          refine ⟨(F2.out.step hf3).step hfa, (V2.out.frm hf3 (by simp)).frm hfa (by simp), ha3.frm ((Frm.refl _ _).alloc _), by omega, x1.1, x3.1, [], g, ⟨[(.iface t1 (.pointer (some ⟨b1, 0, none⟩)), x1.1), (.iface t3 (.pointer (some ⟨b3, 0, none⟩)), x3.1)], rfl, ?_, ?_, ?_⟩, ?_, ?_, ?_⟩
          · exact World.ownsRow_lit (size := 1) w3 #[.iface t1 (.pointer (some ⟨b1, 0, none⟩)), .iface t3 (.pointer (some ⟨b3, 0, none⟩))] 2 hz3 (by decide) rfl
          · intro x hx
            simp at hx
            rcases hx with rfl | rfl
            · exact repS_frm hfa (repS_frm hf3 R2.out)
            · exact repS_frm hfa hr3
          · intro x hx
            simp at hx
            rcases hx with rfl | rfl
            · exact ⟨_, _, rfl⟩
            · exact ⟨_, _, rfl⟩
          · have := HP2.out
            simp only [List.length_nil]; omega
          · omega
          · rw [HX1.out, alts, E2.out]
            simp only [ho, Option.bind_some, ← hq3]
            cases alts cls f g (R.drop q3) with
            | none => rfl
            | some y => simp
        clear ho hr3 hq3 ha3 hf3 a3 hfa
        go_wp2_with fail
        go_loopg [4] (R.drop q3).length (fun g v wr => ∃ q, g = (R.drop q).length ∧ Hid (CL w pb R f (R.drop p) v q wr))
        case atStart => exact ⟨q3, rfl, HI0⟩
        case round =>
          obtain ⟨q, hg, HN⟩ := hrel
          obtain ⟨a, b, bs, k, hL, hnum, hk, hX⟩ := HN.out.own
          obtain ⟨k, rfl⟩ : ∃ j, k = j + 1 := ⟨k - 1, by omega⟩
          have HX := Lib.hid hX
          have HLo := Lib.hid hL
          obtain ⟨gs, ns, cs, hv⟩ := hL.shape (by simp)
          clear hX hL
          go_wp2_with fail
          refine (consume_any [124, 124] _ tkOO pb R q _ HN.out.pos HN.out.env).mono ?_
          rintro e w5 (⟨l5, ho, rfl, ⟨q5, rfl, ha5⟩, hf5⟩ | ⟨ho, rfl, ha5, hf5⟩)
          case inr =>
            have HO5 : Hid (pcx cls f (R.drop p) = some (⟨a, b :: bs⟩, R.drop q)) := by
              show pcx cls f (R.drop p) = _
              rw [HX.out, alts, ho]; simp
            have L5 := Lib.hid ((HLo.out.frm (fun _ _ => repS_frm hf5) hf5 hpw).at hpw)
            have A5 := Lib.hid ha5
            have F5 := Lib.hid (HN.out.frm.step hf5)
            subst hv
            clear ho ha5 hf5
            go_wp2_with fail
            go_ret
            have hA : ∀ o, Frm w5 (w5.alloc o) [pb] := fun o => (Frm.refl _ _).alloc o
            exact .inl ⟨_, _, HO5.out, rfl, .inr ⟨by simp, w5.heap.size, _, rfl, A5.out.lt, heap_alloc_new w5 _, L5.out.frm (fun _ _ => repS_frm (hA _)) (hA _)⟩, ⟨q, rfl, A5.out.frm ((Frm.refl _ []).alloc _)⟩, F5.out.alloc _⟩
          case inl =>
            have a5 := eat_len ho
            simp only [List.length_cons, List.length_nil] at a5
            have hl5 : (R.drop q5).length < f := by
              have h1 := HN.out.len
              omega
            have E5 := Lib.hid ho
            have A5 := Lib.hid ha5
            have F5 := Lib.hid (HN.out.frm.step hf5)
            have V5 := Lib.hid (HN.out.env.frm hf5 (by simp))
            have L5 := Lib.hid (HLo.out.frm (fun _ _ => repS_frm hf5) hf5 hpw)
            subst hv
            clear ho ha5 hf5
            go_wp2_with fail
            refine (posExpr_any pb R f q5 _ hl5 A5.out V5.out).mono ?_
            rintro e w6 (⟨x6, v6, ho, rfl, hr6, ⟨q6, hq6, ha6⟩, hf6⟩ | ⟨ho, ⟨b6, rfl⟩, hf6⟩)
            case inr =>
              go_wp2_with fail
              exact ⟨rfl, .inr ⟨by rw [HX.out, alts, E5.out]; simp only [ho, Option.bind_none, Option.map_none], ⟨_, rfl⟩, F5.out.step hf6⟩⟩
            case inl =>
              obtain ⟨t6, b6, rfl, hb6⟩ := AddAt.iface hr6
              obtain ⟨xs, hxs, hOw, hrx, hix⟩ := L5.out.frm (fun _ _ => repS_frm hf6) hf6 hpw
              have hln : xs.length = bs.length + 2 := by
                have h1 := congrArg List.length hxs
                rw [List.length_map] at h1
                exact h1
              have hF6 := F5.out.step hf6
              have hzz := hF6.size
              have a6 := psx_len ho
              rw [← hq6] at a6
              have hO6 : (w6.alloc (.cells #[.iface t6 (.pointer (some ⟨b6, 0, none⟩))] 33)).ownsRow w.heap.size 33 1 (.slice (some ⟨gs, 0, none⟩) ns cs) xs.length (xs.map (·.1)) := World.ownsRow.alloc hOw _
              have hcell : ∀ j u, [Value.iface t6 (.pointer (some ⟨b6, 0, none⟩))][j]? = some u → (w6.alloc (.cells #[.iface t6 (.pointer (some ⟨b6, 0, none⟩))] 33)).cell? ((⟨w6.heap.size, 0, none⟩ : Addr).add j) = some u := World.news_of_block (cs := #[.iface t6 (.pointer (some ⟨b6, 0, none⟩))]) (t := 33) (fr := (0, 0)) (heap_alloc_new w6 _)
              have hbase : w.heap.size ≤ (w6.alloc (.cells #[.iface t6 (.pointer (some ⟨b6, 0, none⟩))] 33)).heap.size := by
                show _ ≤ (w6.heap.push _).size
                rw [Array.size_push]; omega
              have hfa : Frm w6 (w6.alloc (.cells #[.iface t6 (.pointer (some ⟨b6, 0, none⟩))] 33)) [pb] := (Frm.refl _ _).alloc _
              have HMore : Hid (∀ v' w7, w7.ownsRow w.heap.size 33 1 v' (xs.length + 1) (xs.map (·.1) ++ [.iface t6 (.pointer (some ⟨b6, 0, none⟩))]) → (w6.alloc (.cells #[.iface t6 (.pointer (some ⟨b6, 0, none⟩))] 33)).grownBy w7 (Value.slice (some ⟨gs, 0, none⟩) ns cs).ownBlock → CL w pb R f (R.drop p) v' q6 w7) := by
                intro v' w7 h1 h2
                have hF7 := frm_grow (hF6.step hfa) rfl hO6 h2
                have hgr : Frm (w6.alloc (.cells #[.iface t6 (.pointer (some ⟨b6, 0, none⟩))] 33)) w7 ((Value.slice (some ⟨gs, 0, none⟩) ns cs).ownBlock.toList) := Frm.grown h2 fun k hk => .inl (by rw [hk]; simp)
                refine ⟨hF7, (((V5.out.frm hf6 (by simp)).frm hfa (by simp)).frmS hgr fun x hx => ?_), at_grow (ha6.frm ((Frm.refl _ _).alloc _)) hpw hO6 h2, by omega, a, b, bs ++ [x6.1], k, ?_, ?_, by omega, ?_⟩
                · have := hO6.lt x (by simpa using hx)
                  omega
                · have := LOn.more (rep := repS) (fun x a hx hT => AddAt.frT hT hx) hO6 (fun x hx => repS_frm hfa (hrx x hx)) hix (repS_frm hfa hr6) ⟨_, _, rfl⟩ h2 h1
                  rw [hxs] at this
                  exact this
                · rw [List.length_append, List.length_singleton]; omega
                · rw [HX.out, alts, E5.out]
                  simp only [ho, Option.bind_some, ← hq6]
                  cases alts cls f k (R.drop q6) with
                  | none => rfl
                  | some y => simp
              have hg6 : (R.drop q6).length < (R.drop q).length := by omega
              have hxl : xs.length ≤ R.length := by omega
              clear hln hxs hOw hrx hix ho hr6 hq6 ha6 hf6 a6 hF6 hfa
              go_wp2_with (at_builtin; refine wpList_append_own _ rfl (.tmp 17) (.tmp 20) 61 rfl w.heap.size 33 i0 _ 1 16 Tryd.underlying61 hi0 hz0 hz1 hz2 rfl (by decide) (.slice (some ⟨gs, 0, none⟩) ns cs) xs.length (xs.map (·.1)) rfl hO6 ⟨w6.heap.size, 0, none⟩ 1 1 [.iface t6 (.pointer (some ⟨b6, 0, none⟩))] rfl rfl hcell (by simp [Value.oneCell']) (by unfold maxLen; omega) (by omega) hbase ?_)
              intro v' w7 hown1 hgrow _
              have HN7 := Lib.hid (HMore.out v' w7 hown1 hgrow)
              clear hown1 hgrow hO6 hcell hbase
              go_wp2_with fail
              go_roundg (R.drop q6).length
              case measure => omega
              case rel => exact ⟨q6, rfl, HN7⟩

end Go.Proofs.YtfhnjgoipajiaaaDoor.pl
