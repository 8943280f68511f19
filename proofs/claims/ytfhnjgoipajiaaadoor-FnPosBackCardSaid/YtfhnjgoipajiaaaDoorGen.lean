/-
  Lemmas of no one program, for this seat's proofs: a row of the call's own told by its cells (one cell an element), so that a row made by a conversion from a string counts too. No statement of the seat is proved here.
-/
import Derived.Test.YtfhnjgoipajiaaaDoorRows
import Derived.WalkKit
import Derived.ProofKit
import Derived.OpenShut
import Derived.ShutString
import Derived.Below
import Derived.OwnWalk
import Derived.ArgAppend
import Derived.Laws.OwnMore
import Derived.Laws.IdiomStrings
import Derived.Laws.IdiomCopy
import Derived.Laws.BytesArg
import Derived.Lib.Hide
import Derived.WalkSpells
import Derived.WalkLawsBesides
namespace Go.Proofs.YtfhnjgoipajiaaaDoor.gen
open Go.RowKit

theorem ret_int {k : IntKind} {a b : Int} (h : a = b) : Ending.returned (.int k a) = .returned (.int k b) := by rw [h]
theorem ret_bool {a b : Bool} (h : a = b) : Ending.returned (.bool a) = .returned (.bool b) := by rw [h]
theorem ret_str {a b : ByteArray} (h : a = b) : Ending.returned (.string a) = .returned (.string b) := by rw [h]

theorem below_drewN {B : Nat} {a w : World} (h : Below B a w) (n : Nat) : Below B a (w.drewN n) := h.trans ⟨rfl, rfl, rfl, Nat.le_refl _, fun _ _ => rfl⟩

/-- Of the blocks that were there only those of the list may have changed. -/
structure Frm (w w' : World) (S : List Nat) : Prop where
  os : w'.os = w.os
  tape : w'.tape = w.tape
  output : w'.output = w.output
  size : w.heap.size ≤ w'.heap.size
  block : ∀ k, k < w.heap.size → k ∉ S → w'.heap[k]? = w.heap[k]?

theorem Frm.refl (w : World) (S : List Nat) : Frm w w S := ⟨rfl, rfl, rfl, Nat.le_refl _, fun _ _ _ => rfl⟩
theorem Frm.trans {a b c : World} {S T : List Nat} (h : Frm a b S) (k : Frm b c T) (hs : ∀ x, x ∈ T → x ∈ S ∨ a.heap.size ≤ x) : Frm a c S :=
  ⟨k.os.trans h.os, k.tape.trans h.tape, k.output.trans h.output, Nat.le_trans h.size k.size, fun x hx hn => by
    refine (k.block x (Nat.lt_of_lt_of_le hx h.size) fun hT => ?_).trans (h.block x hx hn)
    rcases hs x hT with h1 | h1
    · exact hn h1
    · omega⟩
theorem Frm.step {a b c : World} {S : List Nat} (h : Frm a b S) (k : Frm b c S) : Frm a c S := h.trans k fun _ hx => .inl hx
theorem Frm.ofBelow {w w' : World} (h : Below w.heap.size w w') (S : List Nat) : Frm w w' S := ⟨h.os, h.tape, h.output, h.size, fun k hk _ => h.block k hk⟩
theorem Frm.below {w w' : World} (h : Frm w w' []) : Below w.heap.size w w' := ⟨h.os, h.tape, h.output, h.size, fun k hk => h.block k hk (by simp)⟩
theorem Frm.belowOf {w w' : World} {S : List Nat} {B : Nat} (h : Frm w w' S) (hs : ∀ x, x ∈ S → B ≤ x) (hB : B ≤ w.heap.size) : Below B w w' :=
  ⟨h.os, h.tape, h.output, h.size, fun k hk => h.block k (by omega) fun hm => by have := hs k hm; omega⟩
theorem Frm.grown {w w' : World} {S : List Nat} {row : Option Nat} (hg : w.grownBy w' row) (hr : ∀ k, row = some k → k ∈ S ∨ w.heap.size ≤ k) : Frm w w' S :=
  ⟨hg.os, hg.tape, hg.output, hg.size, fun k hk hn => hg.block k hk fun e => by
    rcases hr k e.symm with h1 | h1
    · exact hn h1
    · omega⟩
theorem Frm.setCell {a w : World} {S : List Nat} (h : Frm a w S) (p : Addr) (u : Value) (hp : p.block ∈ S ∨ a.heap.size ≤ p.block) : Frm a (w.setCell p u) S :=
  ⟨by rw [← h.os]; rfl, by rw [← h.tape]; rfl, by rw [← h.output]; rfl, by simpa using h.size, fun k hk hn => by
    rw [Below.heap_setCell _ _ _ _ (fun e => by subst e; rcases hp with h1 | h1; · exact hn h1
                                                · omega)]
    exact h.block k hk hn⟩
theorem Frm.alloc {a w : World} {S : List Nat} (h : Frm a w S) (o : Obj) : Frm a (w.alloc o) S :=
  h.trans (Frm.ofBelow ((Below.refl _ _).alloc (Nat.le_refl _) o) S) fun _ hx => .inl hx
theorem Frm.drew {a w : World} {S : List Nat} (h : Frm a w S) : Frm a w.drew S := ⟨h.os, h.tape, h.output, h.size, h.block⟩
theorem Frm.drewN {a w : World} {S : List Nat} (h : Frm a w S) (n : Nat) : Frm a (w.drewN n) S := ⟨h.os, h.tape, h.output, h.size, h.block⟩

theorem block_set {w : World} {g i : Nat} {cs : Array Value} {t : TypeId} {fr : Nat × Nat} (h : w.heap[g]? = some (.cells cs t fr)) (v : Value) : (w.setCell ⟨g, i, none⟩ v).heap[g]? = some (.cells (cs.setIfInBounds i v) t fr) := by
  rw [setCell_eq_setRow w g i cs t fr v h]
  exact setRow_heap w g _ _ t _ h
theorem block_cell {w : World} {g : Nat} {cs : Array Value} {t : TypeId} {fr : Nat × Nat} (h : w.heap[g]? = some (.cells cs t fr)) (i : Nat) : w.cell? ⟨g, i, none⟩ = cs[i]? := by simp [World.cell?, h]
theorem block_free {w : World} {g : Nat} {cs : Array Value} {t : TypeId} (h : w.heap[g]? = some (.cells cs t (0, 0))) (i : Nat) : w.frozen? ⟨g, i, none⟩ = false := by simp [World.frozen?, h]
theorem block_lt {w : World} {g : Nat} {o : Obj} (h : w.heap[g]? = some o) : g < w.heap.size := (Array.getElem?_eq_some_iff.1 h).1

def OwnC (w : World) (base : Nat) (v : Value) (xs : List Value) : Prop :=
  (v = .slice none 0 0 ∧ xs = []) ∨
  ∃ g cap, v = .slice (some ⟨g, 0, none⟩) xs.length cap ∧ base ≤ g ∧ g < w.heap.size ∧ xs.length ≤ cap ∧ cap ≤ maxLen ∧
    (∀ j, j < xs.length → w.cell? ⟨g, j, none⟩ = xs[j]?) ∧ (∀ j, j < cap → (w.cell? ⟨g, j, none⟩).isSome = true ∧ w.frozen? ⟨g, j, none⟩ = false)

theorem OwnC.nil (w : World) (base : Nat) : OwnC w base (.slice none 0 0) [] := .inl ⟨rfl, rfl⟩

theorem OwnC.lt {w : World} {base : Nat} {v : Value} {xs : List Value} (h : OwnC w base v xs) : ∀ k, v.ownBlock = some k → base ≤ k ∧ k < w.heap.size := by
  intro k hk
  rcases h with ⟨rfl, _⟩ | ⟨g, cap, rfl, hb, hg, _⟩
  · simp [Value.ownBlock] at hk
  · simp [Value.ownBlock] at hk
    subst hk
    exact ⟨hb, hg⟩

theorem OwnC.kept {w w' : World} {base : Nat} {v : Value} {xs : List Value} {row : Option Nat} (h : OwnC w base v xs) (hg : w.grownBy w' row) (hne : v.ownBlock = none ∨ v.ownBlock ≠ row) : OwnC w' base v xs := by
  rcases h with hn | ⟨g, cap, rfl, hb, hlt, h1, h2, hc, hf⟩
  · exact .inl hn
  · have hblk := hg.block g hlt (by simpa [Value.ownBlock] using hne)
    refine .inr ⟨g, cap, rfl, hb, Nat.lt_of_lt_of_le hlt hg.size, h1, h2, fun j hj => ?_, fun j hj => ?_⟩
    · rw [World.cell?_of_block (w := w) (w' := w') (a := ⟨g, j, none⟩) hblk]; exact hc j hj
    · rw [World.cell?_of_block (w := w) (w' := w') (a := ⟨g, j, none⟩) hblk, World.frozen?_of_block (w := w) (w' := w') (a := ⟨g, j, none⟩) hblk]; exact hf j hj

theorem OwnC.alloc {w : World} {base : Nat} {v : Value} {xs : List Value} (h : OwnC w base v xs) (o : Obj) : OwnC (w.alloc o) base v xs :=
  h.kept (World.grownBy_alloc w o none) (by cases hv : v.ownBlock <;> simp)

theorem OwnC.below {w w' : World} {base : Nat} {v : Value} {xs : List Value} (h : OwnC w base v xs) (hb : Below w.heap.size w w') : OwnC w' base v xs :=
  h.kept (row := none) ⟨hb.os, hb.tape, hb.output, hb.size, fun k hk _ => hb.block k hk⟩ (by cases hv : v.ownBlock <;> simp)

theorem OwnC.drew {w : World} {base : Nat} {v : Value} {xs : List Value} (h : OwnC w base v xs) : OwnC w.drew base v xs :=
  h.below ((Below.refl _ _).drew)

theorem OwnC.le {w : World} {base base' : Nat} {v : Value} {xs : List Value} (h : OwnC w base v xs) (hb : base' ≤ base) : OwnC w base' v xs := by
  rcases h with hn | ⟨g, cap, hv, h1, r⟩
  · exact .inl hn
  · exact .inr ⟨g, cap, hv, Nat.le_trans hb h1, r⟩

theorem OwnC.ofRow {w : World} {base : Nat} {e : TypeId} {v : Value} {n : Nat} {xs : List Value} (h : w.ownsRow base e 1 v n xs) : OwnC w base v xs ∧ n = xs.length := by
  have hl : n = xs.length := by have := h.1; omega
  refine ⟨?_, hl⟩
  rcases h.2 with ⟨rfl, h0⟩ | ⟨g, cap, cur, rfl, hb, hg, h1, h2, h3, h4⟩
  · exact .inl ⟨rfl, List.eq_nil_of_length_eq_zero (by omega)⟩
  · subst hl
    refine .inr ⟨g, cap, rfl, hb, (Array.getElem?_eq_some_iff.1 hg).1, h1, h2, fun j hj => h.cellAt j (by omega), fun j hj => ⟨?_, h.frozenAt j⟩⟩
    have : w.cell? ⟨g, j, none⟩ = cur[j]? := by simp [World.cell?, hg]
    rw [this]
    have hj2 : j < cur.size := by omega
    simp [hj2]

theorem OwnC.frm {w w' : World} {base : Nat} {v : Value} {xs : List Value} {S : List Nat} (h : OwnC w base v xs) (hf : Frm w w' S) (hS : ∀ x, x ∈ S → x < base) : OwnC w' base v xs := by
  rcases h with hn | ⟨g, cap, rfl, hb, hlt, h1, h2, hc, hfz⟩
  · exact .inl hn
  · have hblk := hf.block g hlt (fun hm => by have := hS g hm; omega)
    refine .inr ⟨g, cap, rfl, hb, Nat.lt_of_lt_of_le hlt hf.size, h1, h2, fun j hj => ?_, fun j hj => ?_⟩
    · rw [World.cell?_of_block (w := w) (w' := w') (a := ⟨g, j, none⟩) hblk]; exact hc j hj
    · rw [World.cell?_of_block (w := w) (w' := w') (a := ⟨g, j, none⟩) hblk, World.frozen?_of_block (w := w) (w' := w') (a := ⟨g, j, none⟩) hblk]; exact hfz j hj

theorem OwnC.shape {w : World} {base n : Nat} {v : Value} {xs : List Value} (h : OwnC w base v xs) (hn : xs.length = n) (hp : 0 < n) : ∃ g cap, v = .slice (some ⟨g, 0, none⟩) n cap := by
  rcases h with ⟨_, rfl⟩ | ⟨g, cap, rfl, _⟩
  · simp at hn; omega
  · exact ⟨g, cap, by rw [hn]⟩

theorem OwnC.at_ {w : World} {base g n cap : Nat} {xs : List Value} (h : OwnC w base (.slice (some ⟨g, 0, none⟩) n cap) xs) (j : Nat) (u : Value) (hj : xs[j]? = some u) : w.cell? ⟨g, j, none⟩ = some u := by
  have hl : j < xs.length := (List.getElem?_eq_some_iff.1 hj).1
  rcases h with ⟨h, _⟩ | ⟨g', cap', hv, _, _, _, _, hc, _⟩
  · cases h
  · cases hv
    rw [hc j hl, hj]

theorem OwnC.inBlock {w : World} {base g n cap : Nat} {xs : List Value} (h : OwnC w base (.slice (some ⟨g, 0, none⟩) n cap) xs) : base ≤ g ∧ g < w.heap.size := h.lt g rfl

/-- A slice of one element, laid by the text itself. -/
theorem OwnC.one (w : World) (x : Value) (t : TypeId) (base : Nat) (hb : base ≤ w.heap.size) : OwnC (w.alloc (.cells #[x] t)) base (.slice (some ⟨w.heap.size, 0, none⟩) 1 1) [x] := by
  refine .inr ⟨w.heap.size, 1, rfl, hb, by show w.heap.size < (w.heap.push _).size; rw [Array.size_push]; omega, Nat.le_refl _, by unfold maxLen; omega, fun j hj => ?_, fun j hj => ?_⟩
  · obtain rfl : j = 0 := by simp at hj; omega
    simp
  · obtain rfl : j = 0 := by omega
    refine ⟨by rw [show (w.alloc (.cells #[x] t)).cell? ⟨w.heap.size, 0, none⟩ = some x from by simp]; rfl, ?_⟩
    exact block_free (heap_alloc_new w _) 0

/-- '[]byte(s)': what the new row is. -/
theorem OwnC.bytes (w : World) (e : TypeId) (s : ByteArray) (c n base : Nat) (xs : List Value) (hn : s.size = n) (hc : n ≤ c) (hm : c ≤ maxLen) (hb : base ≤ w.heap.size) (hxs : xs = s.data.toList.map fun b => .int .u8 (b.toNat : Int)) :
    OwnC (w.alloc (.cells (bytesRow s c) e ((bytesRow s c).size, (bytesRow s c).size + 1))) base (.slice (some ⟨w.heap.size, 0, none⟩) n c) xs := by
  subst hn
  have hsz : (bytesRow s c).size = c := by
    simp only [bytesRow, Array.size_append, Array.size_map, Array.size_replicate]
    show s.size + _ = _
    omega
  have hlen : xs.length = s.size := by rw [hxs, List.length_map, Array.length_toList]; rfl
  refine .inr ⟨w.heap.size, c, by rw [hlen], hb, by show w.heap.size < (w.heap.push _).size; rw [Array.size_push]; omega, by rw [hlen]; exact hc, hm, fun j hj => ?_, fun j hj => ⟨?_, ?_⟩⟩
  · rw [hlen] at hj
    rw [World.cell?_alloc_mark, bytesRow_at s _ j hj]
    have hj2 : j < s.data.toList.length := by rw [Array.length_toList]; exact hj
    rw [hxs, List.getElem?_map, List.getElem?_eq_getElem hj2]
    rfl
  · rw [World.cell?_alloc_mark]
    have hj2 : j < (bytesRow s c).size := by omega
    simp [hj2]
  · rw [World.frozen?_alloc_mark]
    simp
    omega

theorem grownBy_setCells (w : World) (b off : Nat) (vs : List Value) : w.grownBy (w.setCells b off vs) (some b) := by
  have h := World.keptBut_setCells (w := w) b (may := fun p => p.block = b) vs off (fun _ _ => rfl)
  have hs : ∀ (vs : List Value) (off : Nat) (w : World), (w.setCells b off vs).heap.size = w.heap.size ∧ (w.setCells b off vs).tape = w.tape := by
    intro vs
    induction vs with
    | nil => intro off w; exact ⟨rfl, rfl⟩
    | cons v vs ih => intro off w; obtain ⟨h1, h2⟩ := ih (off + 1) (w.setCell ⟨b, off, none⟩ v); exact ⟨by simp only [World.setCells]; rw [h1]; simp, by simp only [World.setCells]; rw [h2]; simp⟩
  refine ⟨h.1, (hs vs off w).2, h.2.1, Nat.le_of_eq (hs vs off w).1.symm, fun k hk hne => ?_⟩
  exact h.block hk (fun _ hp e => hne (by rw [← e, hp]))

theorem cell_one_at (w : World) (x : Value) (t : TypeId) (n : Nat) (hn : n = w.heap.size) : ∀ j u, [x][j]? = some u → (w.alloc (.cells #[x] t)).cell? ((⟨n, 0, none⟩ : Addr).add j) = some u := by
  subst hn; exact cell_one_new w x t

theorem one_int (k : IntKind) (x : Int) : ∀ u ∈ [Value.int k x], u.oneCell' = true := by
  intro u hu; simp at hu; subst hu; rfl

/-- 'string(b)' of a row of bytes of the call's own. -/
theorem OwnC.text {P : Program} {w : World} {base : Nat} {g n cap : Nat} {l : List UInt8} (src dst e : TypeId) (hs : P.underlying src = some (.slice e)) (he : P.underlying e = some (.int .u8)) (hd : P.underlying dst = some .string)
    (h : OwnC w base (.slice (some ⟨g, 0, none⟩) n cap) (l.map fun b => .int .u8 (b.toNat : Int))) : (convert src dst (.slice (some ⟨g, 0, none⟩) n cap)).run P w = .ok (.string ⟨l.toArray⟩) w := by
  rcases h with ⟨h, _⟩ | ⟨g', cap', hv, _, _, _, _, hc, _⟩
  · cases h
  · simp only [List.length_map] at hv hc
    cases hv
    refine run_convert_bytes_back w src dst e ⟨g, 0, none⟩ cap l hs he hd fun j hj => ?_
    have hadd : (⟨g, 0, none⟩ : Addr).add j = ⟨g, j, none⟩ := by unfold Addr.add; split <;> simp_all
    rw [hadd, hc j hj]
    simp [hj]

theorem run_eq_nil {P : Program} (w : World) (t e : TypeId) (a : Option Addr) (n c n' c' : Nat) (h : P.underlying t = some (.slice e)) :
    (binOp .eql t (.slice a n c) (.slice none n' c')).run P w = .ok (.bool a.isNone) w := by
  simp only [binOp]
  simp [Op.equal, Op.maxDepth, Lib.run_equalIn_slice_nil w 9999 t e a n c n' c' h]

section
variable {P : Program} (w : World)

theorem wpList_append_ownC {ops : Array Oper} {rest : List Oper} {o : Oper} {a : Act} {Q : Exit → Act → World → Prop} (hgd : o.guard = none) (s x : Operand) (t : TypeId)
    (ho : o.op = .call { callee := .builtin .append, args := #[s, x], argTypes := #[t, t] })
    (base : Nat) (e : TypeId) (i : TypeInfo) (z : Value) (bytes : Nat) (ht : P.underlying t = some (.slice e)) (hi : P.info? e = some i) (hz : i.zero = some z)
    (hsize : i.size = 1) (hby : i.bytes = bytes) (hzs : z.cells.size = 1)
    (v : Value) (n : Nat) (xs : List Value) (hs : a.eval s = v) (hxn : xs.length = n) (hown : OwnC w base v xs)
    (ad : Addr) (m c : Nat) (news : List Value) (hx : a.eval x = .slice (some ad) m c) (hl : news.length = m) (hpos : 0 < m) (hnews : ∀ j u, news[j]? = some u → w.cell? (ad.add j) = some u) (h1 : ∀ u ∈ news, u.oneCell' = true)
    (h63 : n + m ≤ maxLen) (hbytes : (n + m) * bytes ≤ 140737488355328) (hbase : base ≤ w.heap.size)
    (h : ∀ g' cap' w', OwnC w' base (.slice (some ⟨g', 0, none⟩) (n + m) cap') (xs ++ news) → w.grownBy w' v.ownBlock → (v.ownBlock = some g' ∨ w.heap.size ≤ g') → wpList P ops Q rest (a.put o.dst (.slice (some ⟨g', 0, none⟩) (n + m) cap')) w') : wpList P ops Q (o :: rest) a w := by
  subst hxn
  rcases hown with ⟨rfl, rfl⟩ | ⟨g, cap, rfl, hb, hg, hlc, hcm, hc, hf⟩
  · refine wpList_append_own w hgd s x t ho w.heap.size e i z 1 bytes ht hi hz hsize hby hzs (by decide) _ 0 [] hs (World.ownsRow_nil _ _ _ _) ad m c news hx (by omega) hnews h1 (by simpa using h63) (by simpa using hbytes) (Nat.le_refl _) ?_
    intro v' w' h2 h3 h4
    have h5 := OwnC.ofRow h2
    obtain ⟨h5, h6⟩ := h5
    rcases h2.2 with ⟨rfl, h0⟩ | ⟨g', cap', cur, rfl, hbg, _⟩
    · omega
    · exact h g' cap' w' (by simpa using h5.le hbase) h3 (.inr hbg)
  · have hlx : xs.length = xs.length * 1 := by omega
    refine wpList_append_arg w hgd s x t ho e i z 1 bytes ht hi hz hsize hby hzs (by decide) g 0 xs.length cap xs hs (by omega) ?_ ad m c news hx (by omega) hnews h1 ?_ h63 hbytes ?_ ?_
    · intro j u hj
      have hjl : j < xs.length := (List.getElem?_eq_some_iff.1 hj).1
      rw [Nat.zero_add, hc j hjl, hj]
    · intro hroom j hj
      have := hf (0 + xs.length * 1 + j) (by omega)
      exact this
    · intro hroom
      have hgb := grownBy_setCells w g (0 + xs.length * 1) news
      have := h g cap (w.setCells g (0 + xs.length * 1) news) (.inr ⟨g, cap, by simp [hl], hb, Nat.lt_of_lt_of_le hg hgb.size, by simp; omega, hcm, fun j hj => ?_, fun j hj => ?_⟩) (by simpa [Value.ownBlock] using hgb) (.inl rfl)
      · exact this
      · rcases Nat.lt_or_ge j xs.length with hlt | hge
        · rw [World.cell?_setCells_out g news _ w ⟨g, j, none⟩ (fun _ _ => .inl (by show j < _; omega)), hc j hlt, List.getElem?_append_left hlt]
        · have hj2 : j - xs.length < news.length := by simp at hj; omega
          have := World.cell?_setCells_in g news (0 + xs.length * 1) w (fun j hj => (hf (0 + xs.length * 1 + j) (by omega)).1) (j - xs.length) hj2
          rw [show (0 + xs.length * 1 + (j - xs.length)) = j from by omega] at this
          rw [this, List.getElem?_append_right hge, List.getElem?_eq_getElem hj2]
      · rw [World.frozen?_setCells]
        refine ⟨?_, (hf j hj).2⟩
        by_cases hin : xs.length ≤ j ∧ j < xs.length + news.length
        · have := World.cell?_setCells_in g news (0 + xs.length * 1) w (fun j hj => (hf (0 + xs.length * 1 + j) (by omega)).1) (j - xs.length) (by omega)
          rw [show (0 + xs.length * 1 + (j - xs.length)) = j from by omega] at this
          rw [this]; rfl
        · rw [World.cell?_setCells_out g news _ w ⟨g, j, none⟩ (fun _ _ => by show j < _ ∨ _ ≤ j; omega)]
          exact (hf j hj).1
    · intro hgrow v' w' h2 h3
      obtain ⟨h5, h6⟩ := OwnC.ofRow h2
      have hgb : w.grownBy w' (Value.ownBlock (.slice (some ⟨g, 0, none⟩) xs.length cap)) := ⟨h3.os, h3.tape, h3.output, h3.size, fun k hk _ => h3.block k hk (by simp)⟩
      rcases h2.2 with ⟨rfl, h0⟩ | ⟨g', cap', cur, rfl, hbg, _⟩
      · omega
      · exact h g' cap' w' (h5.le hbase) hgb (.inr hbg)
end

end Go.Proofs.YtfhnjgoipajiaaaDoor.gen
