/-
  Lists of nodes and positions that grow; contract of parseNodeExpr of the language of positions. No statement of the seat is proved here.
-/
import Derived.Test.YtfhnjgoipajiaaaDoorPlI
import Derived.Laws.OwnMore
import Derived.Deep.AppendLies
namespace Go.Proofs.YtfhnjgoipajiaaaDoor.pl
open Go.RowKit Go.Proofs.YtfhnjgoipajiaaaDoor.gen

theorem At.frmS {w w' : World} {pb : Nat} {R : List Nat} {p : Nat} {S : List Nat} (h : At w pb R p) (hf : Frm w w' S) (hS : ∀ x, x ∈ S → pb < x) : At w' pb R p := by
  obtain ⟨rb, cap, h1, h2, h3, h4, h5⟩ := h.blk
  refine ⟨⟨rb, cap, (hf.block _ (block_lt h1) (fun hm => by have := hS _ hm; omega)).trans h1, h2, h3, h4, fun j hj => ?_⟩, h.le, h.len, h.good⟩
  have hb : rb < w.heap.size := Nat.lt_trans h2 (block_lt h1)
  rw [World.cell?_of_block (hf.block rb hb (fun hm => by have := hS _ hm; omega))]
  exact h5 j hj
theorem Env.frmS {w w' : World} {pb : Nat} {S : List Nat} (h : Env w pb) (hf : Frm w w' S) (hS : ∀ x, x ∈ S → pb ≤ x) : Env w' pb := by
  obtain ⟨W0, ht, hb, h1⟩ := h
  exact ⟨W0, ht, hb.trans (hf.belowOf (fun x hx => Nat.le_trans h1 (hS x hx)) hb.size), h1⟩

/-- Some of them, in a slice whose block lies from base on. -/
def LOn {α : Type} (rep : World → Nat → Value → α → Prop) (T : TypeId) (base : Nat) (w : World) (pb : Nat) (v : Value) (l : List α) : Prop :=
  ∃ xs : List (Value × α), xs.map (·.2) = l ∧ w.ownsRow base T 1 v xs.length (xs.map (·.1)) ∧ (∀ x ∈ xs, rep w pb x.1 x.2) ∧ ∀ x ∈ xs, ∃ t b, x.1 = .iface t (.pointer (some ⟨b, 0, none⟩))

theorem LOn.at {α : Type} {rep : World → Nat → Value → α → Prop} {T : TypeId} {base : Nat} {w : World} {pb : Nat} {v : Value} {l : List α} (h : LOn rep T base w pb v l) (hb : pb < base) : LAt rep T w pb v l := by
  obtain ⟨xs, h1, ⟨h2, h3⟩, h4, h5⟩ := h
  refine ⟨xs, h1, ⟨h2, ?_⟩, h4, h5⟩
  rcases h3 with h3 | ⟨g, cap, cur, k1, k2, k3⟩
  · exact .inl h3
  · exact .inr ⟨g, cap, cur, k1, by omega, k3⟩
theorem LOn.frm {α : Type} {rep : World → Nat → Value → α → Prop} {T : TypeId} {base : Nat} {w w' : World} {pb : Nat} {v : Value} {l : List α} (hr : ∀ x a, rep w pb x a → rep w' pb x a) (hf : Frm w w' [pb]) (hb : pb < base) (h : LOn rep T base w pb v l) : LOn rep T base w' pb v l := by
  obtain ⟨xs, h1, h2, h3, h4⟩ := h
  exact ⟨xs, h1, ownsRow_frm h2 hf (by intro x hx; simp at hx; omega), fun x hx => hr _ _ (h3 x hx), h4⟩

/-- One more. -/
theorem LOn.more {α : Type} {rep : World → Nat → Value → α → Prop} {T : TypeId} {base : Nat} {w w' : World} {pb : Nat} {v v' e : Value} {a : α} {xs : List (Value × α)}
    (hrT : ∀ x a, rep w pb x a → FrT w w' pb T → rep w' pb x a) (hO : w.ownsRow base T 1 v xs.length (xs.map (·.1))) (hx : ∀ x ∈ xs, rep w pb x.1 x.2) (hi : ∀ x ∈ xs, ∃ t b, x.1 = .iface t (.pointer (some ⟨b, 0, none⟩)))
    (ha : rep w pb e a) (he : ∃ t b, e = .iface t (.pointer (some ⟨b, 0, none⟩))) (hg : w.grownBy w' v.ownBlock) (hO' : w'.ownsRow base T 1 v' (xs.length + 1) (xs.map (·.1) ++ [e])) :
    LOn rep T base w' pb v' (xs.map (·.2) ++ [a]) := by
  have hT : FrT w w' pb T := FrT.ofGrown hg (ownsRow_type hO)
  refine ⟨xs ++ [(e, a)], by simp, by simpa using hO', ?_, ?_⟩
  · intro x hm
    rcases List.mem_append.1 hm with hm | hm
    · exact hrT _ _ (hx x hm) hT
    · simp at hm; subst hm; exact hrT _ _ ha hT
  · intro x hm
    rcases List.mem_append.1 hm with hm | hm
    · exact hi x hm
    · simp at hm; subst hm; exact he
theorem frm_grow {a w w' : World} {pb base size n : Nat} {T : TypeId} {v : Value} {xs : List Value} (hF : Frm a w [pb]) (hb : base = a.heap.size) (hO : w.ownsRow base T size v n xs) (hg : w.grownBy w' v.ownBlock) : Frm a w' [pb] := by
  have h1 : Frm w w' (v.ownBlock.toList) := Frm.grown hg fun k hk => .inl (by rw [hk]; simp)
  refine hF.trans h1 fun x hx => ?_
  have := hO.lt x (by simpa using hx)
  right; omega
theorem at_grow {w w' : World} {pb base size n : Nat} {T : TypeId} {v : Value} {xs : List Value} {R : List Nat} {p : Nat} (h : At w pb R p) (hb : pb < base) (hO : w.ownsRow base T size v n xs) (hg : w.grownBy w' v.ownBlock) : At w' pb R p :=
  h.frmS (Frm.grown (S := v.ownBlock.toList) hg fun k hk => .inl (by rw [hk]; simp)) fun x hx => by have := hO.lt x (by simpa using hx); omega

theorem infoNE : (Tryd.prog.info? 55).map (fun i => (i.zero, i.size, i.bytes)) = some (some .nilIface, 1, 16) := by kernel_rfl
theorem infoPE : (Tryd.prog.info? 33).map (fun i => (i.zero, i.size, i.bytes)) = some (some .nilIface, 1, 16) := by kernel_rfl

/-- A node and what stands behind it as an alternative. -/
def nexL (f : Nat) (l : List Nat) : Option (NA × List NA × List Nat) := (nat' cls f l).bind fun x => (nats cls f f x.2).map fun y => (x.1, y.1, y.2)
theorem nex_some {f : Nat} {l l1 : List Nat} (h : eat cls [40] l = some l1) : nex cls f l = (nexL f l1).bind fun z => (eat cls [41] z.2.2).bind fun l2 => some (.choice z.1 z.2.1, l2) := by
  unfold nex nexL
  rw [h]
  show ((nat' cls f l1).bind fun x => (nats cls f f x.2).bind fun y => (eat cls [41] y.2).bind fun l2 => some (NE.choice x.1 y.1, l2)) = _
  cases nat' cls f l1 with
  | none => rfl
  | some x =>
    show ((nats cls f f x.2).bind fun y => (eat cls [41] y.2).bind fun l2 => some (NE.choice x.1 y.1, l2)) = ((nats cls f f x.2).map fun y => (x.1, y.1, y.2)).bind _
    cases nats cls f f x.2 with
    | none => rfl
    | some y => rfl

/-- What the reader of nodes holds, between two of them. -/
structure NL (w : World) (pb : Nat) (R : List Nat) (f : Nat) (l1 : List Nat) (v : Value) (q : Nat) (wr : World) : Prop where
  frm : Frm w wr [pb]
  env : Env wr pb
  pos : At wr pb R q
  len : (R.drop q).length < f
  own : ∃ (a : NA) (az : List NA) (k : Nat), LOn repA tNE w.heap.size wr pb v (a :: az) ∧ az.length + 1 + (R.drop q).length ≤ R.length ∧ (R.drop q).length < k ∧ nexL f l1 = (nats cls f k (R.drop q)).map fun y => (a, az ++ y.1, y.2)

theorem LOn.shape {α : Type} {rep : World → Nat → Value → α → Prop} {T : TypeId} {base : Nat} {w : World} {pb : Nat} {v : Value} {l : List α} (h : LOn rep T base w pb v l) (h0 : 0 < l.length) : ∃ g n cap, v = .slice (some ⟨g, 0, none⟩) n cap := by
  obtain ⟨xs, rfl, h2, _⟩ := h
  rw [List.length_map] at h0
  rcases h2.2 with ⟨_, h9⟩ | ⟨g, cap, cur, h1, _⟩
  · omega
  · exact ⟨g, _, cap, h1⟩

set_option maxRecDepth 100000 in
set_option maxHeartbeats 2000000 in
theorem nodeExpr_any (pb : Nat) (R : List Nat) (f p : Nat) (w : World) (hlen : (R.drop p).length < f) (h : At w pb R p) (hE : Env w pb) : Calls Tryd.prog 25 #[.pointer (some ⟨pb, 0, none⟩)] w (PR repN (nex cls f (R.drop p)) pb R w) := by
  obtain ⟨i0, hi0, hz0, hz1, hz2⟩ := info_parts infoNE
  have hRl := h.len
  have hpw := h.lt
  have HA := Lib.hid h
  have HE := Lib.hid hE
  have HLn := Lib.hid hlen
  clear h hE hlen
  go_enter Tryd.func25, Tryd.ntmps25
  go_wp2_with fail
  refine (consume_any [40] _ tk40 pb R p _ HA.out HE.out).mono ?_
  rintro e w1 (⟨l1, ho, rfl, ⟨q1, rfl, ha1⟩, hf1⟩ | ⟨ho, rfl, ha1, hf1⟩)
  case inr =>
    have HO := Lib.hid ho
    have A1 := Lib.hid ha1
    have F1 := Lib.hid hf1
    have V1 := Lib.hid (HE.out.frm hf1 (by simp))
    clear ho ha1 hf1
    go_wp2_with fail
    refine (nodeAtom_any pb R f p _ HLn.out A1.out V1.out).mono ?_
    rintro e w2 (⟨x2, v2, ho, rfl, hr2, ⟨q2, hq2, ha2⟩, hf2⟩ | ⟨ho, ⟨b2, rfl⟩, hf2⟩)
    · have HO2 : Hid (nex cls f (R.drop p) = some (.atom x2.1, x2.2)) := by
        show nex cls f (R.drop p) = _
        unfold nex; rw [HO.out]; simp only [ho, Option.bind_some]
      have R2 := Lib.hid hr2
      have L2 : Hid (Left w2 pb R x2.2) := ⟨q2, hq2, ha2⟩
      have F2 := Lib.hid (F1.out.step hf2)
      clear ho hr2 hq2 ha2 hf2
      go_wp2_with fail
      go_ret
      exact .inl ⟨_, _, HO2.out, rfl, R2.out, L2.out, F2.out⟩
    · go_wp2_with fail
      exact ⟨rfl, .inr ⟨by unfold nex; rw [HO.out]; simp only [ho, Option.bind_none], ⟨_, rfl⟩, F1.out.step hf2⟩⟩
  case inl =>
    have HO := Lib.hid (nex_some (f := f) ho)
    have L1 : Hid ((R.drop q1).length < f) := by
      have a2 := eat_len ho
      have a3 := HLn.out
      show (R.drop q1).length < f
      omega
    have A1 := Lib.hid ha1
    have F1 := Lib.hid hf1
    have V1 := Lib.hid (HE.out.frm hf1 (by simp))
    clear ho ha1 hf1
    go_wp2_with fail
    refine (nodeAtom_any pb R f q1 _ L1.out A1.out V1.out).mono ?_
    rintro e w2 (⟨x2, v2, ho, rfl, hr2, ⟨q2, hq2, ha2⟩, hf2⟩ | ⟨ho, ⟨b2, rfl⟩, hf2⟩)
    case inr =>
      go_wp2_with fail
      exact ⟨rfl, .inr ⟨by rw [HO.out]; unfold nexL; simp only [ho, Option.bind_none], ⟨_, rfl⟩, F1.out.step hf2⟩⟩
    case inl =>
      obtain ⟨t2, b2, rfl, hb2⟩ := NAAt.iface hr2
      have hz2' : w.heap.size ≤ w2.heap.size := (F1.out.step hf2).size
      have HI0 : Hid (NL w pb R f (R.drop q1) (.slice (some ⟨w2.heap.size, 0, none⟩) 1 1) q2 (w2.alloc (.cells #[.iface t2 (.pointer (some ⟨b2, 0, none⟩))] tNE))) := by
        have hfa : Frm w2 (w2.alloc (.cells #[.iface t2 (.pointer (some ⟨b2, 0, none⟩))] tNE)) [pb] := (Frm.refl _ _).alloc _
        refine ⟨(F1.out.step hf2).step hfa, (V1.out.frm hf2 (by simp)).frm hfa (by simp), ha2.frm ((Frm.refl _ _).alloc _), ?_, x2.1, [], f, ⟨[(.iface t2 (.pointer (some ⟨b2, 0, none⟩)), x2.1)], rfl, ?_, ?_, ?_⟩, ?_, ?_, ?_⟩
        · have a1 := nat_len ho
          rw [← hq2] at a1
          have := L1.out
          omega
        · exact World.ownsRow_lit (size := 1) w2 #[.iface t2 (.pointer (some ⟨b2, 0, none⟩))] 1 hz2' (by decide) rfl
        · intro x hx; simp at hx; subst hx; exact NAAt.frm hfa hr2
        · intro x hx; simp at hx; subst hx; exact ⟨_, _, rfl⟩
        · have a1 := nat_len ho
          rw [← hq2] at a1
          have a2 : (R.drop q1).length ≤ R.length := by rw [List.length_drop]; omega
          simp only [List.length_nil]; omega
        · have a1 := nat_len ho
          rw [← hq2] at a1
          have := L1.out
          omega
        · unfold nexL; rw [ho, hq2]; simp
      clear ho hr2 hq2 ha2 hf2
      go_wp2_with fail
      go_loopg [3] (R.drop q2).length (fun g v wr => ∃ q, g = (R.drop q).length ∧ Hid (NL w pb R f (R.drop q1) v q wr))
      case atStart => exact ⟨q2, rfl, HI0⟩
      case round =>
        obtain ⟨q, hg, HN⟩ := hrel
        obtain ⟨a, az, k, hL, hnum, hk, hX⟩ := HN.out.own
        obtain ⟨k, rfl⟩ : ∃ j, k = j + 1 := ⟨k - 1, by omega⟩
        have HX := Lib.hid hX
        have HLo := Lib.hid hL
        obtain ⟨gs, ns, cs, hv⟩ := hL.shape (by simp)
        clear hX hL
        go_wp2_with fail
        refine (consume_any [63, 63] _ tkQQ pb R q _ HN.out.pos HN.out.env).mono ?_
        rintro e w3 (⟨l3, ho, rfl, ⟨q3, rfl, ha3⟩, hf3⟩ | ⟨ho, rfl, ha3, hf3⟩)
        case inr =>
          have HO3 : Hid (nexL f (R.drop q1) = some (a, az, R.drop q)) := by
            show nexL f (R.drop q1) = _
            rw [HX.out, nats, ho]; simp
          have L3 := Lib.hid ((HLo.out.frm (fun _ _ => NAAt.frm hf3) hf3 hpw).at hpw)
          have A3 := Lib.hid ha3
          have F3 := Lib.hid (HN.out.frm.step hf3)
          have V3 := Lib.hid (HN.out.env.frm hf3 (by simp))
          subst hv
          clear ho ha3 hf3
          go_wp2_with fail
          refine (expect_any [41] _ tk41 pb R q _ A3.out V3.out).mono ?_
          rintro e w4 (⟨l4, ho, rfl, ⟨q4, rfl, ha4⟩, hf4⟩ | ⟨ho, ⟨b4, rfl⟩, hf4⟩)
          · have HO4 : Hid (nex cls f (R.drop p) = some (.choice a az, R.drop q4)) := by
              show nex cls f (R.drop p) = _
              rw [HO.out, HO3.out]
              simp only [Option.bind_some, ho]
            have L4 := Lib.hid (L3.out.frm (fun _ _ => NAAt.frm hf4) hf4)
            have A4 := Lib.hid ha4
            have F4 := Lib.hid (F3.out.step hf4)
            clear ho ha4 hf4
            go_wp2_with fail
            go_ret
            have hA : ∀ o, Frm w4 (w4.alloc o) [pb] := fun o => (Frm.refl _ _).alloc o
            exact .inl ⟨_, _, HO4.out, rfl, ⟨w4.heap.size, _, rfl, A4.out.lt, heap_alloc_new w4 _, L4.out.frm (fun _ _ => NAAt.frm (hA _)) (hA _)⟩, ⟨q4, rfl, A4.out.frm ((Frm.refl _ []).alloc _)⟩, F4.out.alloc _⟩
          · go_wp2_with fail
            exact ⟨rfl, .inr ⟨by rw [HO.out, HO3.out]; simp only [Option.bind_some, ho, Option.bind_none], ⟨_, rfl⟩, F3.out.step hf4⟩⟩
        case inl =>
          have a2 := eat_len ho
          have hl3 : (R.drop q3).length < f := by
            have h1 := HN.out.len
            omega
          have E3 := Lib.hid ho
          have A3 := Lib.hid ha3
          have F3 := Lib.hid (HN.out.frm.step hf3)
          have V3 := Lib.hid (HN.out.env.frm hf3 (by simp))
          have L3 := Lib.hid (HLo.out.frm (fun _ _ => NAAt.frm hf3) hf3 hpw)
          subst hv
          clear ho ha3 hf3
          go_wp2_with fail
          refine (nodeAtom_any pb R f q3 _ hl3 A3.out V3.out).mono ?_
          rintro e w4 (⟨x4, v4, ho, rfl, hr4, ⟨q4, hq4, ha4⟩, hf4⟩ | ⟨ho, ⟨b4, rfl⟩, hf4⟩)
          case inr =>
            go_wp2_with fail
            exact ⟨rfl, .inr ⟨by rw [HO.out, HX.out, nats, E3.out]; simp only [ho, Option.bind_none, Option.map_none], ⟨_, rfl⟩, F3.out.step hf4⟩⟩
          case inl =>
            obtain ⟨t4, b4, rfl, hb4⟩ := NAAt.iface hr4
            obtain ⟨xs, hxs, hOw, hrx, hix⟩ := L3.out.frm (fun _ _ => NAAt.frm hf4) hf4 hpw
            have hln : xs.length = az.length + 1 := by
              have h1 := congrArg List.length hxs
              rw [List.length_map] at h1
              exact h1
            have hF4 := F3.out.step hf4
            have hzz := hF4.size
            have a4 := nat_len ho
            rw [← hq4] at a4
            simp only [List.length_cons, List.length_nil] at a2
            have hO4 : (w4.alloc (.cells #[.iface t4 (.pointer (some ⟨b4, 0, none⟩))] 55)).ownsRow w.heap.size 55 1 (.slice (some ⟨gs, 0, none⟩) ns cs) xs.length (xs.map (·.1)) := World.ownsRow.alloc hOw _
            have hcell : ∀ j u, [Value.iface t4 (.pointer (some ⟨b4, 0, none⟩))][j]? = some u → (w4.alloc (.cells #[.iface t4 (.pointer (some ⟨b4, 0, none⟩))] 55)).cell? ((⟨w4.heap.size, 0, none⟩ : Addr).add j) = some u := World.news_of_block (cs := #[.iface t4 (.pointer (some ⟨b4, 0, none⟩))]) (t := 55) (fr := (0, 0)) (heap_alloc_new w4 _)
            have hbase : w.heap.size ≤ (w4.alloc (.cells #[.iface t4 (.pointer (some ⟨b4, 0, none⟩))] 55)).heap.size := by
              show _ ≤ (w4.heap.push _).size
              rw [Array.size_push]; omega
            have hfa : Frm w4 (w4.alloc (.cells #[.iface t4 (.pointer (some ⟨b4, 0, none⟩))] 55)) [pb] := (Frm.refl _ _).alloc _
            have HMore : Hid (∀ v' w5, w5.ownsRow w.heap.size 55 1 v' (xs.length + 1) (xs.map (·.1) ++ [.iface t4 (.pointer (some ⟨b4, 0, none⟩))]) → (w4.alloc (.cells #[.iface t4 (.pointer (some ⟨b4, 0, none⟩))] 55)).grownBy w5 (Value.slice (some ⟨gs, 0, none⟩) ns cs).ownBlock → NL w pb R f (R.drop q1) v' q4 w5) := by
              intro v' w5 h1 h2
              have hF5 := frm_grow (hF4.step hfa) rfl hO4 h2
              have hgr : Frm (w4.alloc (.cells #[.iface t4 (.pointer (some ⟨b4, 0, none⟩))] 55)) w5 ((Value.slice (some ⟨gs, 0, none⟩) ns cs).ownBlock.toList) := Frm.grown h2 fun k hk => .inl (by rw [hk]; simp)
              refine ⟨hF5, (((V3.out.frm hf4 (by simp)).frm hfa (by simp)).frmS hgr fun x hx => ?_), at_grow (ha4.frm ((Frm.refl _ _).alloc _)) hpw hO4 h2, by omega, a, az ++ [x4.1], k, ?_, ?_, by omega, ?_⟩
              · have := hO4.lt x (by simpa using hx)
                omega
              · have := LOn.more (rep := repA) (fun x a hx hT => NAAt.frT (.inr rfl) hT hx) hO4 (fun x hx => NAAt.frm hfa (hrx x hx)) hix (NAAt.frm hfa hr4) ⟨_, _, rfl⟩ h2 h1
                rw [hxs] at this
                exact this
              · rw [List.length_append, List.length_singleton]; omega
              · rw [HX.out, nats, E3.out]
                simp only [ho, Option.bind_some, ← hq4]
                cases nats cls f k (R.drop q4) with
                | none => rfl
                | some y => simp
            have hg4 : (R.drop q4).length < (R.drop q).length := by omega
            have hxl : xs.length ≤ R.length := by omega
            clear hln hxs hOw hrx hix ho hr4 hq4 ha4 hf4 a4 hF4 hfa
            go_wp2_with (at_builtin; refine wpList_append_own _ rfl (.tmp 11) (.tmp 14) 65 rfl w.heap.size 55 i0 _ 1 16 Tryd.underlying65 hi0 hz0 hz1 hz2 rfl (by decide) (.slice (some ⟨gs, 0, none⟩) ns cs) xs.length (xs.map (·.1)) rfl hO4 ⟨w4.heap.size, 0, none⟩ 1 1 [.iface t4 (.pointer (some ⟨b4, 0, none⟩))] rfl rfl hcell (by simp [Value.oneCell']) (by unfold maxLen; omega) (by omega) hbase ?_)
            intro v' w5 hown1 hgrow _
            have HN5 := Lib.hid (HMore.out v' w5 hown1 hgrow)
            clear hown1 hgrow hO4 hcell hbase
            go_wp2_with fail
            go_roundg (R.drop q4).length
            case measure => omega
            case rel => exact ⟨q4, rfl, HN5⟩

end Go.Proofs.YtfhnjgoipajiaaaDoor.pl
