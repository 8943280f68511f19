/-
  Nodes and positions of the language of positions, in memory; contract of parseNodeAtom. No statement of the seat is proved here.
-/
import Derived.Test.YtfhnjgoipajiaaaDoorPlH
namespace Go.Proofs.YtfhnjgoipajiaaaDoor.pl
open Go.RowKit Go.Proofs.YtfhnjgoipajiaaaDoor.gen

/-- A node, in memory. -/
def NAAt (w : World) (pb : Nat) : NA → Value → Prop
  | .var s, v => ∃ u, v = .iface 50 u ∧ VarAt w pb u s
  | .last s, v => ∃ b u, v = .iface 78 (.pointer (some ⟨b, 0, none⟩)) ∧ pb < b ∧ w.heap[b]? = some (.cells #[.iface 50 u] 80 (0, 0)) ∧ VarAt w pb u s
  | .idx s i, v => ∃ b u vi, v = .iface 73 (.pointer (some ⟨b, 0, none⟩)) ∧ pb < b ∧ w.heap[b]? = some (.cells #[.iface 50 u, vi] 77 (0, 0)) ∧ VarAt w pb u s ∧ IEAt w pb i vi
def repA (w : World) (pb : Nat) (v : Value) (a : NA) : Prop := NAAt w pb a v

theorem NAAt.frm {w w' : World} {pb : Nat} (hf : Frm w w' [pb]) {a : NA} {v : Value} (h : NAAt w pb a v) : NAAt w' pb a v := by
  cases a with
  | var s => obtain ⟨u, h1, h2⟩ := h; exact ⟨u, h1, h2.frm hf⟩
  | last s => obtain ⟨b, u, h1, h2, h3, h4⟩ := h; exact ⟨b, u, h1, h2, heap_frm hf h2 h3, h4.frm hf⟩
  | idx s i => obtain ⟨b, u, vi, h1, h2, h3, h4, h5⟩ := h; exact ⟨b, u, vi, h1, h2, heap_frm hf h2 h3, h4.frm hf, IEAt.frm hf h5⟩
theorem NAAt.iface {w : World} {pb : Nat} {a : NA} {v : Value} (h : NAAt w pb a v) : ∃ t b, v = .iface t (.pointer (some ⟨b, 0, none⟩)) ∧ pb < b := by
  cases a with
  | var s => obtain ⟨u, h1, b, h2, h3, _⟩ := h; exact ⟨_, b, by rw [h1, h2], h3⟩
  | last s => obtain ⟨b, u, h1, h2, _⟩ := h; exact ⟨_, b, h1, h2⟩
  | idx s i => obtain ⟨b, u, vi, h1, h2, _⟩ := h; exact ⟨_, b, h1, h2⟩

/-- But for the reader and the rows of the type T nothing has changed. -/
structure FrT (w w' : World) (pb : Nat) (T : TypeId) : Prop where
  size : w.heap.size ≤ w'.heap.size
  keep : ∀ k cs t, w.heap[k]? = some (.cells cs t (0, 0)) → k ≠ pb → t ≠ T → w'.heap[k]? = some (.cells cs t (0, 0))

def tNE : TypeId := 55
def tPE : TypeId := 33

theorem FrT.ofFrm {w w' : World} {pb : Nat} {T : TypeId} (h : Frm w w' [pb]) : FrT w w' pb T := ⟨h.size, fun k cs t hk hne _ => (h.block k (block_lt hk) (by simpa using hne)).trans hk⟩
theorem FrT.ofGrown {w w' : World} {pb : Nat} {T : TypeId} {row : Option Nat} (hg : w.grownBy w' row) (hr : ∀ r, row = some r → ∃ cur, w.heap[r]? = some (.cells cur T (0, 0))) : FrT w w' pb T :=
  ⟨hg.size, fun k cs t hk _ ht => by
    refine (hg.block k (block_lt hk) fun e => ?_).trans hk
    obtain ⟨cur, h⟩ := hr k e.symm
    rw [hk] at h
    simp at h
    exact ht h.2⟩
theorem heap_frT {w w' : World} {pb b : Nat} {T t : TypeId} {cs : Array Value} (hf : FrT w w' pb T) (hb : pb < b) (h : w.heap[b]? = some (.cells cs t (0, 0))) (ht : t ≠ T) : w'.heap[b]? = some (.cells cs t (0, 0)) := hf.keep b cs t h (by omega) ht

theorem VarAt.frT {w w' : World} {pb : Nat} {T : TypeId} (hT : T = tPE ∨ T = tNE) (hf : FrT w w' pb T) {v : Value} {name : List Nat} (h : VarAt w pb v name) : VarAt w' pb v name := by
  obtain ⟨b, h1, h2, h3⟩ := h
  exact ⟨b, h1, h2, heap_frT hf h2 h3 (by rcases hT with rfl | rfl <;> decide)⟩
theorem IEAt.frT {w w' : World} {pb : Nat} {T : TypeId} (hT : T = tPE ∨ T = tNE) (hf : FrT w w' pb T) : ∀ {i : IE} {v : Value}, IEAt w pb i v → IEAt w' pb i v := by
  intro i
  induction i with
  | int n =>
    rintro v ⟨b, h1, h2, h3⟩
    exact ⟨b, h1, h2, heap_frT hf h2 h3 (by rcases hT with rfl | rfl <;> decide)⟩
  | len s =>
    rintro v ⟨b, u, h1, h2, h3, h4⟩
    exact ⟨b, u, h1, h2, heap_frT hf h2 h3 (by rcases hT with rfl | rfl <;> decide), h4.frT hT hf⟩
  | ite c t e iht ihe =>
    rintro v ⟨b, u, v1, v2, h1, h2, h3, h4, h5, h6⟩
    exact ⟨b, u, v1, v2, h1, h2, heap_frT hf h2 h3 (by rcases hT with rfl | rfl <;> decide), h4.frT hT hf, iht h5, ihe h6⟩
theorem NAAt.frT {w w' : World} {pb : Nat} {T : TypeId} (hT : T = tPE ∨ T = tNE) (hf : FrT w w' pb T) {a : NA} {v : Value} (h : NAAt w pb a v) : NAAt w' pb a v := by
  cases a with
  | var s => obtain ⟨u, h1, h2⟩ := h; exact ⟨u, h1, h2.frT hT hf⟩
  | last s => obtain ⟨b, u, h1, h2, h3, h4⟩ := h; exact ⟨b, u, h1, h2, heap_frT hf h2 h3 (by rcases hT with rfl | rfl <;> decide), h4.frT hT hf⟩
  | idx s i => obtain ⟨b, u, vi, h1, h2, h3, h4, h5⟩ := h; exact ⟨b, u, vi, h1, h2, heap_frT hf h2 h3 (by rcases hT with rfl | rfl <;> decide), h4.frT hT hf, IEAt.frT hT hf h5⟩

theorem ownsRow_frm {w w' : World} {base size n : Nat} {e : TypeId} {v : Value} {xs : List Value} {S : List Nat} (h : w.ownsRow base e size v n xs) (hf : Frm w w' S) (hS : ∀ x, x ∈ S → x < base) : w'.ownsRow base e size v n xs := by
  refine ⟨h.1, ?_⟩
  rcases h.2 with h2 | ⟨g, cap, cur, h1, h2, h3, h4⟩
  · exact .inl h2
  · have := hf.block g (block_lt h3) (fun hm => by have := hS g hm; omega)
    exact .inr ⟨g, cap, cur, h1, h2, this.trans h3, h4⟩
theorem ownsRow_frT {w w' : World} {pb size n : Nat} {e T : TypeId} {v : Value} {xs : List Value} (h : w.ownsRow (pb + 1) e size v n xs) (hf : FrT w w' pb T) (ht : e ≠ T) : w'.ownsRow (pb + 1) e size v n xs := by
  refine ⟨h.1, ?_⟩
  rcases h.2 with h2 | ⟨g, cap, cur, h1, h2, h3, h4⟩
  · exact .inl h2
  · exact .inr ⟨g, cap, cur, h1, h2, heap_frT hf (by omega) h3 ht, h4⟩
theorem ownsRow_type {w : World} {base size n : Nat} {e : TypeId} {v : Value} {xs : List Value} (h : w.ownsRow base e size v n xs) : ∀ r, v.ownBlock = some r → ∃ cur, w.heap[r]? = some (.cells cur e (0, 0)) := by
  intro r hr
  rcases h.2 with ⟨h2, _⟩ | ⟨g, cap, cur, h1, h2, h3, _⟩
  · rw [h2] at hr; simp [Value.ownBlock] at hr
  · rw [h1] at hr
    simp [Value.ownBlock] at hr
    subst hr
    exact ⟨cur, h3⟩

/-- Some of them, in a slice of the call's own, of the element type T. -/
def LAt {α : Type} (rep : World → Nat → Value → α → Prop) (T : TypeId) (w : World) (pb : Nat) (v : Value) (l : List α) : Prop :=
  ∃ xs : List (Value × α), xs.map (·.2) = l ∧ w.ownsRow (pb + 1) T 1 v xs.length (xs.map (·.1)) ∧ (∀ x ∈ xs, rep w pb x.1 x.2) ∧ ∀ x ∈ xs, ∃ t b, x.1 = .iface t (.pointer (some ⟨b, 0, none⟩))

theorem LAt.frm {α : Type} {rep : World → Nat → Value → α → Prop} {T : TypeId} {w w' : World} {pb : Nat} {v : Value} {l : List α} (hr : ∀ x a, rep w pb x a → rep w' pb x a) (hf : Frm w w' [pb]) (h : LAt rep T w pb v l) : LAt rep T w' pb v l := by
  obtain ⟨xs, h1, h2, h3, h4⟩ := h
  exact ⟨xs, h1, ownsRow_frm h2 hf (by intro x hx; simp at hx; omega), fun x hx => hr _ _ (h3 x hx), h4⟩
theorem LAt.frT {α : Type} {rep : World → Nat → Value → α → Prop} {T T' : TypeId} {w w' : World} {pb : Nat} {v : Value} {l : List α} (hr : ∀ x a, rep w pb x a → rep w' pb x a) (hf : FrT w w' pb T') (ht : T ≠ T') (h : LAt rep T w pb v l) : LAt rep T w' pb v l := by
  obtain ⟨xs, h1, h2, h3, h4⟩ := h
  exact ⟨xs, h1, ownsRow_frT h2 hf ht, fun x hx => hr _ _ (h3 x hx), h4⟩

/-- A node or a choice. -/
def NEAt (w : World) (pb : Nat) : NE → Value → Prop
  | .atom a, v => NAAt w pb a v
  | .choice a az, v => ∃ b vl, v = .iface 64 (.pointer (some ⟨b, 0, none⟩)) ∧ pb < b ∧ w.heap[b]? = some (.cells #[vl] 67 (0, 0)) ∧ LAt repA tNE w pb vl (a :: az)
def repN (w : World) (pb : Nat) (v : Value) (n : NE) : Prop := NEAt w pb n v
theorem NEAt.frm {w w' : World} {pb : Nat} (hf : Frm w w' [pb]) {n : NE} {v : Value} (h : NEAt w pb n v) : NEAt w' pb n v := by
  cases n with
  | atom a => exact NAAt.frm hf h
  | choice a az => obtain ⟨b, vl, h1, h2, h3, h4⟩ := h; exact ⟨b, vl, h1, h2, heap_frm hf h2 h3, h4.frm (fun _ _ => NAAt.frm hf) hf⟩
theorem NEAt.frT {w w' : World} {pb : Nat} (hf : FrT w w' pb tPE) {n : NE} {v : Value} (h : NEAt w pb n v) : NEAt w' pb n v := by
  cases n with
  | atom a => exact NAAt.frT (.inl rfl) hf h
  | choice a az => obtain ⟨b, vl, h1, h2, h3, h4⟩ := h; exact ⟨b, vl, h1, h2, heap_frT hf h2 h3 (by decide), h4.frT (fun _ _ => NAAt.frT (.inl rfl) hf) hf (by decide)⟩
theorem NEAt.iface {w : World} {pb : Nat} {n : NE} {v : Value} (h : NEAt w pb n v) : ∃ t b, v = .iface t (.pointer (some ⟨b, 0, none⟩)) ∧ pb < b := by
  cases n with
  | atom a => exact NAAt.iface h
  | choice a az => obtain ⟨b, vl, h1, h2, _⟩ := h; exact ⟨_, b, h1, h2⟩

/-- A position: a name, or that of a node. -/
def PAAt (w : World) (pb : Nat) : PA → Value → Prop
  | .var s, v => ∃ u, v = .iface 50 u ∧ VarAt w pb u s
  | .pos n, v => ∃ b vn, v = .iface 53 (.pointer (some ⟨b, 0, none⟩)) ∧ pb < b ∧ w.heap[b]? = some (.cells #[vn] 57 (0, 0)) ∧ NEAt w pb n vn
  | .end_ n, v => ∃ b vn, v = .iface 58 (.pointer (some ⟨b, 0, none⟩)) ∧ pb < b ∧ w.heap[b]? = some (.cells #[vn] 59 (0, 0)) ∧ NEAt w pb n vn
def repP (w : World) (pb : Nat) (v : Value) (a : PA) : Prop := PAAt w pb a v
theorem PAAt.frm {w w' : World} {pb : Nat} (hf : Frm w w' [pb]) {a : PA} {v : Value} (h : PAAt w pb a v) : PAAt w' pb a v := by
  cases a with
  | var s => obtain ⟨u, h1, h2⟩ := h; exact ⟨u, h1, h2.frm hf⟩
  | pos n => obtain ⟨b, vn, h1, h2, h3, h4⟩ := h; exact ⟨b, vn, h1, h2, heap_frm hf h2 h3, NEAt.frm hf h4⟩
  | end_ n => obtain ⟨b, vn, h1, h2, h3, h4⟩ := h; exact ⟨b, vn, h1, h2, heap_frm hf h2 h3, NEAt.frm hf h4⟩
theorem PAAt.frT {w w' : World} {pb : Nat} (hf : FrT w w' pb tPE) {a : PA} {v : Value} (h : PAAt w pb a v) : PAAt w' pb a v := by
  cases a with
  | var s => obtain ⟨u, h1, h2⟩ := h; exact ⟨u, h1, h2.frT (.inl rfl) hf⟩
  | pos n => obtain ⟨b, vn, h1, h2, h3, h4⟩ := h; exact ⟨b, vn, h1, h2, heap_frT hf h2 h3 (by decide), NEAt.frT hf h4⟩
  | end_ n => obtain ⟨b, vn, h1, h2, h3, h4⟩ := h; exact ⟨b, vn, h1, h2, heap_frT hf h2 h3 (by decide), NEAt.frT hf h4⟩
theorem PAAt.iface {w : World} {pb : Nat} {a : PA} {v : Value} (h : PAAt w pb a v) : ∃ t b, v = .iface t (.pointer (some ⟨b, 0, none⟩)) ∧ pb < b := by
  cases a with
  | var s => obtain ⟨u, h1, b, h2, h3, _⟩ := h; exact ⟨_, b, by rw [h1, h2], h3⟩
  | pos n => obtain ⟨b, vn, h1, h2, _⟩ := h; exact ⟨_, b, h1, h2⟩
  | end_ n => obtain ⟨b, vn, h1, h2, _⟩ := h; exact ⟨_, b, h1, h2⟩

/-- A position with what is added; the list from its end. -/
def AddAt (w : World) (pb : Nat) (a : PA) : List IE → Value → Prop
  | [], v => PAAt w pb a v
  | i :: r, v => ∃ b v0 vi, v = .iface 68 (.pointer (some ⟨b, 0, none⟩)) ∧ pb < b ∧ w.heap[b]? = some (.cells #[v0, vi] 72 (0, 0)) ∧ AddAt w pb a r v0 ∧ IEAt w pb i vi
theorem AddAt.frm {w w' : World} {pb : Nat} (hf : Frm w w' [pb]) {a : PA} : ∀ {r : List IE} {v : Value}, AddAt w pb a r v → AddAt w' pb a r v := by
  intro r
  induction r with
  | nil => exact fun h => PAAt.frm hf h
  | cons i r ih =>
    rintro v ⟨b, v0, vi, h1, h2, h3, h4, h5⟩
    exact ⟨b, v0, vi, h1, h2, heap_frm hf h2 h3, ih h4, IEAt.frm hf h5⟩
theorem AddAt.frT {w w' : World} {pb : Nat} (hf : FrT w w' pb tPE) {a : PA} : ∀ {r : List IE} {v : Value}, AddAt w pb a r v → AddAt w' pb a r v := by
  intro r
  induction r with
  | nil => exact fun h => PAAt.frT hf h
  | cons i r ih =>
    rintro v ⟨b, v0, vi, h1, h2, h3, h4, h5⟩
    exact ⟨b, v0, vi, h1, h2, heap_frT hf h2 h3 (by decide), ih h4, IEAt.frT (.inl rfl) hf h5⟩
theorem AddAt.iface {w : World} {pb : Nat} {a : PA} {r : List IE} {v : Value} (h : AddAt w pb a r v) : ∃ t b, v = .iface t (.pointer (some ⟨b, 0, none⟩)) ∧ pb < b := by
  cases r with
  | nil => exact PAAt.iface h
  | cons i r => obtain ⟨b, v0, vi, h1, h2, _⟩ := h; exact ⟨_, b, h1, h2⟩
def repS (w : World) (pb : Nat) (v : Value) (s : PS) : Prop := AddAt w pb s.a s.is.reverse v

/-- What is read in the end. -/
def PCAt (w : World) (pb : Nat) (e : PC) (v : Value) : Prop :=
  (e.ss = [] ∧ repS w pb v e.s) ∨ (e.ss ≠ [] ∧ ∃ b vl, v = .iface 60 (.pointer (some ⟨b, 0, none⟩)) ∧ pb < b ∧ w.heap[b]? = some (.cells #[vl] 63 (0, 0)) ∧ LAt repS tPE w pb vl (e.s :: e.ss))
def repC (w : World) (pb : Nat) (v : Value) (e : PC) : Prop := PCAt w pb e v
theorem PCAt.frm {w w' : World} {pb : Nat} (hf : Frm w w' [pb]) {e : PC} {v : Value} (h : PCAt w pb e v) : PCAt w' pb e v := by
  rcases h with ⟨h1, h2⟩ | ⟨h1, b, vl, h2, h3, h4, h5⟩
  · exact .inl ⟨h1, AddAt.frm hf h2⟩
  · exact .inr ⟨h1, b, vl, h2, h3, heap_frm hf h3 h4, h5.frm (fun _ _ => AddAt.frm hf) hf⟩
theorem PCAt.iface {w : World} {pb : Nat} {e : PC} {v : Value} (h : PCAt w pb e v) : ∃ t b, v = .iface t (.pointer (some ⟨b, 0, none⟩)) ∧ pb < b := by
  rcases h with ⟨h1, h2⟩ | ⟨h1, b, vl, h2, h3, _⟩
  · exact AddAt.iface h2
  · exact ⟨_, b, h2, h3⟩

set_option maxRecDepth 100000 in
set_option maxHeartbeats 2000000 in
theorem nodeAtom_any (pb : Nat) (R : List Nat) (f p : Nat) (w : World) (hlen : (R.drop p).length < f) (h : At w pb R p) (hE : Env w pb) : Calls Tryd.prog 30 #[.pointer (some ⟨pb, 0, none⟩)] w (PR repA (nat' cls f (R.drop p)) pb R w) := by
  have HA := Lib.hid h
  have HE := Lib.hid hE
  have HLn := Lib.hid hlen
  clear h hE hlen
  go_enter Tryd.func30, Tryd.ntmps30
  go_wp2_with fail
  refine (parseVar_any pb R p _ HA.out HE.out).mono ?_
  rintro e w1 (⟨x1, v1, ho, rfl, ⟨b1, rfl, hb1, hc1⟩, ⟨q1, hq1, ha1⟩, hf1⟩ | ⟨ho, ⟨b1, rfl⟩, hf1⟩)
  · have E1 := Lib.hid ho
    have VA := Lib.hid (show VarAt w1 pb (.pointer (some ⟨b1, 0, none⟩)) x1.1 from ⟨b1, rfl, hb1, hc1⟩)
    have Q1 := Lib.hid hq1
    have A1 := Lib.hid ha1
    have F1 := Lib.hid hf1
    have V1 := Lib.hid (HE.out.frm hf1 (by simp))
    clear ho hb1 hc1 hq1 ha1 hf1
    go_wp2_with fail
    refine (consume_any [91] _ tk91 pb R q1 _ A1.out V1.out).mono ?_
    rintro e w2 (⟨l2, ho, rfl, ⟨q2, rfl, ha2⟩, hf2⟩ | ⟨ho, rfl, ha2, hf2⟩)
    · have E2 := Lib.hid ho
      have A2 := Lib.hid ha2
      have F2 := Lib.hid (F1.out.step hf2)
      have V2 := Lib.hid (V1.out.frm hf2 (by simp))
      have VA2 := Lib.hid (VA.out.frm hf2)
      have L2 : Hid ((R.drop q2).length < f) := by
        have a1 := pvar_len E1.out
        have a2 := eat_len E2.out
        have a3 := HLn.out
        rw [← Q1.out] at a1
        simp only [List.length_cons, List.length_nil] at a2
        show (R.drop q2).length < f
        omega
      clear ho ha2 hf2
      go_wp2_with fail
      refine (consume_any [36] _ tk36 pb R q2 _ A2.out V2.out).mono ?_
      rintro e w3 (⟨l3, ho, rfl, ⟨q3, rfl, ha3⟩, hf3⟩ | ⟨ho, rfl, ha3, hf3⟩)
      · have E3 := Lib.hid ho
        have A3 := Lib.hid ha3
        have F3 := Lib.hid (F2.out.step hf3)
        have V3 := Lib.hid (V2.out.frm hf3 (by simp))
        have VA3 := Lib.hid (VA2.out.frm hf3)
        clear ho ha3 hf3
        go_wp2_with fail
        refine (expect_any [93] _ tk93 pb R q3 _ A3.out V3.out).mono ?_
        rintro e w4 (⟨l4, ho, rfl, ⟨q4, rfl, ha4⟩, hf4⟩ | ⟨ho, ⟨b4, rfl⟩, hf4⟩)
        · have E4 := Lib.hid ho
          have A4 := Lib.hid ha4
          have F4 := Lib.hid (F3.out.step hf4)
          have VA4 := Lib.hid (VA3.out.frm hf4)
          clear ho ha4 hf4
          have HO : Hid (nat' cls f (R.drop p) = some (.last x1.1, R.drop q4)) := by
            show nat' cls f (R.drop p) = _
            unfold nat'
            simp only [E1.out, Option.bind_some, ← Q1.out, E2.out, E3.out, E4.out]
          go_wp2_with fail
          go_ret
          have hA : ∀ o, Frm w4 (w4.alloc o) [pb] := fun o => (Frm.refl _ _).alloc o
          refine .inl ⟨_, _, HO.out, rfl, ⟨w4.heap.size, _, rfl, A4.out.lt, heap_alloc_new w4 _, VA4.out.frm (hA _)⟩, ⟨q4, rfl, A4.out.frm ((Frm.refl _ []).alloc _)⟩, F4.out.alloc _⟩
        · go_wp2_with fail
          exact ⟨rfl, .inr ⟨by unfold nat'; simp only [E1.out, Option.bind_some, ← Q1.out, E2.out, E3.out, ho, Option.bind_none], ⟨_, rfl⟩, F3.out.step hf4⟩⟩
      · have E3 := Lib.hid ho
        have A3 := Lib.hid ha3
        have F3 := Lib.hid (F2.out.step hf3)
        have V3 := Lib.hid (V2.out.frm hf3 (by simp))
        have VA3 := Lib.hid (VA2.out.frm hf3)
        clear ho ha3 hf3
        go_wp2_with fail
        refine (intAtom_any pb R f q2 _ L2.out A3.out V3.out).mono ?_
        rintro e w4 (⟨x4, v4, ho, rfl, hr4, ⟨q4, hq4, ha4⟩, hf4⟩ | ⟨ho, ⟨b4, rfl⟩, hf4⟩)
        · obtain ⟨t4, y4, hv4⟩ := IEAt.iface hr4
          subst hv4
          have E4 := Lib.hid ho
          have R4 := Lib.hid hr4
          have Q4 := Lib.hid hq4
          have A4 := Lib.hid ha4
          have F4 := Lib.hid (F3.out.step hf4)
          have V4 := Lib.hid (V3.out.frm hf4 (by simp))
          have VA4 := Lib.hid (VA3.out.frm hf4)
          clear ho hr4 hq4 ha4 hf4
          go_wp2_with fail
          refine (expect_any [93] _ tk93 pb R q4 _ A4.out V4.out).mono ?_
          rintro e w5 (⟨l5, ho, rfl, ⟨q5, rfl, ha5⟩, hf5⟩ | ⟨ho, ⟨b5, rfl⟩, hf5⟩)
          · have E5 := Lib.hid ho
            have A5 := Lib.hid ha5
            have F5 := Lib.hid (F4.out.step hf5)
            have VA5 := Lib.hid (VA4.out.frm hf5)
            have R5 := Lib.hid (IEAt.frm hf5 R4.out)
            clear ho ha5 hf5
            have HO : Hid (nat' cls f (R.drop p) = some (.idx x1.1 x4.1, R.drop q5)) := by
              show nat' cls f (R.drop p) = _
              unfold nat'
              simp only [E1.out, Option.bind_some, ← Q1.out, E2.out, E3.out, E4.out, ← Q4.out, E5.out]
            go_wp2_with fail
            go_ret
            have hA : ∀ o, Frm w5 (w5.alloc o) [pb] := fun o => (Frm.refl _ _).alloc o
            refine .inl ⟨_, _, HO.out, rfl, ⟨w5.heap.size, _, _, rfl, A5.out.lt, heap_alloc_new w5 _, VA5.out.frm (hA _), IEAt.frm (hA _) R5.out⟩, ⟨q5, rfl, A5.out.frm ((Frm.refl _ []).alloc _)⟩, F5.out.alloc _⟩
          · go_wp2_with fail
            exact ⟨rfl, .inr ⟨by unfold nat'; simp only [E1.out, Option.bind_some, ← Q1.out, E2.out, E3.out, E4.out, ← Q4.out, ho, Option.bind_none], ⟨_, rfl⟩, F4.out.step hf5⟩⟩
        · go_wp2_with fail
          exact ⟨rfl, .inr ⟨by unfold nat'; simp only [E1.out, Option.bind_some, ← Q1.out, E2.out, E3.out, ho, Option.bind_none], ⟨_, rfl⟩, F3.out.step hf4⟩⟩
    · have HO : Hid (nat' cls f (R.drop p) = some (.var x1.1, R.drop q1)) := by
        show nat' cls f (R.drop p) = _
        unfold nat'
        simp only [E1.out, Option.bind_some, ← Q1.out, ho]
      have A2 := Lib.hid ha2
      have F2 := Lib.hid (F1.out.step hf2)
      have VA2 := Lib.hid (VA.out.frm hf2)
      clear ho ha2 hf2
      go_wp2_with fail
      go_ret
      exact .inl ⟨_, _, HO.out, rfl, ⟨_, rfl, VA2.out⟩, ⟨q1, rfl, A2.out⟩, F2.out⟩
  · go_wp2_with fail
    exact ⟨rfl, .inr ⟨by unfold nat'; simp only [ho, Option.bind_none], ⟨_, rfl⟩, hf1⟩⟩

end Go.Proofs.YtfhnjgoipajiaaaDoor.pl
