/-
  Lemmas and contracts of this claim, texts Gen, Peek, Skip, Char, Pure, Upper, KwZ, LexP, LexQ, ComP, TokOf, Toks, LinesP, LitP. No statement of the seat is proved here.
-/
import Derived.WalkKit
import Derived.ProofKit
import Derived.OpenShut
import Derived.ShutString
import Derived.Below
import Derived.OwnWalk
import Derived.ArgAppend
import Derived.Laws.OwnMore
import Derived.Laws.IdiomStrings
import Derived.Laws.IdiomCopy
import Derived.Laws.BytesArg
import Derived.Lib.Hide
import Derived.WalkSpells
import Derived.WalkLawsBesides
import Derived.Test.YtngofbhlhcalpaaGreatDoorRows
import Derived.Deep.QuietTactic
import Derived.BigQuiet
import Derived.Outline
import Derived.Lib.SpaceUEq
import Derived.Deep.LoopGhost
import Derived.Deep.AppendLies
namespace Go.Proofs.YtngofbhlhcalpaaGreatDoor.gen
open Go.RowKit

theorem ret_int {k : IntKind} {a b : Int} (h : a = b) : Ending.returned (.int k a) = .returned (.int k b) := by rw [h]
theorem ret_bool {a b : Bool} (h : a = b) : Ending.returned (.bool a) = .returned (.bool b) := by rw [h]
theorem ret_str {a b : ByteArray} (h : a = b) : Ending.returned (.string a) = .returned (.string b) := by rw [h]

theorem below_drewN {B : Nat} {a w : World} (h : Below B a w) (n : Nat) : Below B a (w.drewN n) := h.trans ⟨rfl, rfl, rfl, Nat.le_refl _, fun _ _ => rfl⟩

/-- Of the blocks that were there only those of the list may have changed. -/
structure Frm (w w' : World) (S : List Nat) : Prop where
  os : w'.os = w.os
  tape : w'.tape = w.tape
  output : w'.output = w.output
  size : w.heap.size ≤ w'.heap.size
  block : ∀ k, k < w.heap.size → k ∉ S → w'.heap[k]? = w.heap[k]?

theorem Frm.refl (w : World) (S : List Nat) : Frm w w S := ⟨rfl, rfl, rfl, Nat.le_refl _, fun _ _ _ => rfl⟩
theorem Frm.trans {a b c : World} {S T : List Nat} (h : Frm a b S) (k : Frm b c T) (hs : ∀ x, x ∈ T → x ∈ S ∨ a.heap.size ≤ x) : Frm a c S :=
  ⟨k.os.trans h.os, k.tape.trans h.tape, k.output.trans h.output, Nat.le_trans h.size k.size, fun x hx hn => by
    refine (k.block x (Nat.lt_of_lt_of_le hx h.size) fun hT => ?_).trans (h.block x hx hn)
    rcases hs x hT with h1 | h1
    · exact hn h1
    · omega⟩
theorem Frm.step {a b c : World} {S : List Nat} (h : Frm a b S) (k : Frm b c S) : Frm a c S := h.trans k fun _ hx => .inl hx
theorem Frm.ofBelow {w w' : World} (h : Below w.heap.size w w') (S : List Nat) : Frm w w' S := ⟨h.os, h.tape, h.output, h.size, fun k hk _ => h.block k hk⟩
theorem Frm.below {w w' : World} (h : Frm w w' []) : Below w.heap.size w w' := ⟨h.os, h.tape, h.output, h.size, fun k hk => h.block k hk (by simp)⟩
theorem Frm.belowOf {w w' : World} {S : List Nat} {B : Nat} (h : Frm w w' S) (hs : ∀ x, x ∈ S → B ≤ x) (hB : B ≤ w.heap.size) : Below B w w' :=
  ⟨h.os, h.tape, h.output, h.size, fun k hk => h.block k (by omega) fun hm => by have := hs k hm; omega⟩
theorem Frm.grown {w w' : World} {S : List Nat} {row : Option Nat} (hg : w.grownBy w' row) (hr : ∀ k, row = some k → k ∈ S ∨ w.heap.size ≤ k) : Frm w w' S :=
  ⟨hg.os, hg.tape, hg.output, hg.size, fun k hk hn => hg.block k hk fun e => by
    rcases hr k e.symm with h1 | h1
    · exact hn h1
    · omega⟩
theorem Frm.setCell {a w : World} {S : List Nat} (h : Frm a w S) (p : Addr) (u : Value) (hp : p.block ∈ S ∨ a.heap.size ≤ p.block) : Frm a (w.setCell p u) S :=
  ⟨by rw [← h.os]; rfl, by rw [← h.tape]; rfl, by rw [← h.output]; rfl, by simpa using h.size, fun k hk hn => by
    rw [Below.heap_setCell _ _ _ _ (fun e => by subst e; rcases hp with h1 | h1; · exact hn h1
                                                · omega)]
    exact h.block k hk hn⟩
theorem Frm.alloc {a w : World} {S : List Nat} (h : Frm a w S) (o : Obj) : Frm a (w.alloc o) S :=
  h.trans (Frm.ofBelow ((Below.refl _ _).alloc (Nat.le_refl _) o) S) fun _ hx => .inl hx
theorem Frm.drew {a w : World} {S : List Nat} (h : Frm a w S) : Frm a w.drew S := ⟨h.os, h.tape, h.output, h.size, h.block⟩
theorem Frm.drewN {a w : World} {S : List Nat} (h : Frm a w S) (n : Nat) : Frm a (w.drewN n) S := ⟨h.os, h.tape, h.output, h.size, h.block⟩

theorem block_set {w : World} {g i : Nat} {cs : Array Value} {t : TypeId} {fr : Nat × Nat} (h : w.heap[g]? = some (.cells cs t fr)) (v : Value) : (w.setCell ⟨g, i, none⟩ v).heap[g]? = some (.cells (cs.setIfInBounds i v) t fr) := by
  rw [setCell_eq_setRow w g i cs t fr v h]
  exact setRow_heap w g _ _ t _ h
theorem block_cell {w : World} {g : Nat} {cs : Array Value} {t : TypeId} {fr : Nat × Nat} (h : w.heap[g]? = some (.cells cs t fr)) (i : Nat) : w.cell? ⟨g, i, none⟩ = cs[i]? := by simp [World.cell?, h]
theorem block_free {w : World} {g : Nat} {cs : Array Value} {t : TypeId} (h : w.heap[g]? = some (.cells cs t (0, 0))) (i : Nat) : w.frozen? ⟨g, i, none⟩ = false := by simp [World.frozen?, h]
theorem block_lt {w : World} {g : Nat} {o : Obj} (h : w.heap[g]? = some o) : g < w.heap.size := (Array.getElem?_eq_some_iff.1 h).1

def OwnC (w : World) (base : Nat) (v : Value) (xs : List Value) : Prop :=
  (v = .slice none 0 0 ∧ xs = []) ∨
  ∃ g cap, v = .slice (some ⟨g, 0, none⟩) xs.length cap ∧ base ≤ g ∧ g < w.heap.size ∧ xs.length ≤ cap ∧ cap ≤ maxLen ∧
    (∀ j, j < xs.length → w.cell? ⟨g, j, none⟩ = xs[j]?) ∧ (∀ j, j < cap → (w.cell? ⟨g, j, none⟩).isSome = true ∧ w.frozen? ⟨g, j, none⟩ = false)

theorem OwnC.nil (w : World) (base : Nat) : OwnC w base (.slice none 0 0) [] := .inl ⟨rfl, rfl⟩

theorem OwnC.lt {w : World} {base : Nat} {v : Value} {xs : List Value} (h : OwnC w base v xs) : ∀ k, v.ownBlock = some k → base ≤ k ∧ k < w.heap.size := by
  intro k hk
  rcases h with ⟨rfl, _⟩ | ⟨g, cap, rfl, hb, hg, _⟩
  · simp [Value.ownBlock] at hk
  · simp [Value.ownBlock] at hk
    subst hk
    exact ⟨hb, hg⟩

theorem OwnC.kept {w w' : World} {base : Nat} {v : Value} {xs : List Value} {row : Option Nat} (h : OwnC w base v xs) (hg : w.grownBy w' row) (hne : v.ownBlock = none ∨ v.ownBlock ≠ row) : OwnC w' base v xs := by
  rcases h with hn | ⟨g, cap, rfl, hb, hlt, h1, h2, hc, hf⟩
  · exact .inl hn
  · have hblk := hg.block g hlt (by simpa [Value.ownBlock] using hne)
    refine .inr ⟨g, cap, rfl, hb, Nat.lt_of_lt_of_le hlt hg.size, h1, h2, fun j hj => ?_, fun j hj => ?_⟩
    · rw [World.cell?_of_block (w := w) (w' := w') (a := ⟨g, j, none⟩) hblk]; exact hc j hj
    · rw [World.cell?_of_block (w := w) (w' := w') (a := ⟨g, j, none⟩) hblk, World.frozen?_of_block (w := w) (w' := w') (a := ⟨g, j, none⟩) hblk]; exact hf j hj

theorem OwnC.alloc {w : World} {base : Nat} {v : Value} {xs : List Value} (h : OwnC w base v xs) (o : Obj) : OwnC (w.alloc o) base v xs :=
  h.kept (World.grownBy_alloc w o none) (by cases hv : v.ownBlock <;> simp)

theorem OwnC.below {w w' : World} {base : Nat} {v : Value} {xs : List Value} (h : OwnC w base v xs) (hb : Below w.heap.size w w') : OwnC w' base v xs :=
  h.kept (row := none) ⟨hb.os, hb.tape, hb.output, hb.size, fun k hk _ => hb.block k hk⟩ (by cases hv : v.ownBlock <;> simp)

theorem OwnC.drew {w : World} {base : Nat} {v : Value} {xs : List Value} (h : OwnC w base v xs) : OwnC w.drew base v xs :=
  h.below ((Below.refl _ _).drew)

theorem OwnC.le {w : World} {base base' : Nat} {v : Value} {xs : List Value} (h : OwnC w base v xs) (hb : base' ≤ base) : OwnC w base' v xs := by
  rcases h with hn | ⟨g, cap, hv, h1, r⟩
  · exact .inl hn
  · exact .inr ⟨g, cap, hv, Nat.le_trans hb h1, r⟩

theorem OwnC.ofRow {w : World} {base : Nat} {e : TypeId} {v : Value} {n : Nat} {xs : List Value} (h : w.ownsRow base e 1 v n xs) : OwnC w base v xs ∧ n = xs.length := by
  have hl : n = xs.length := by have := h.1; omega
  refine ⟨?_, hl⟩
  rcases h.2 with ⟨rfl, h0⟩ | ⟨g, cap, cur, rfl, hb, hg, h1, h2, h3, h4⟩
  · exact .inl ⟨rfl, List.eq_nil_of_length_eq_zero (by omega)⟩
  · subst hl
    refine .inr ⟨g, cap, rfl, hb, (Array.getElem?_eq_some_iff.1 hg).1, h1, h2, fun j hj => h.cellAt j (by omega), fun j hj => ⟨?_, h.frozenAt j⟩⟩
    have : w.cell? ⟨g, j, none⟩ = cur[j]? := by simp [World.cell?, hg]
    rw [this]
    have hj2 : j < cur.size := by omega
    simp [hj2]

theorem OwnC.frm {w w' : World} {base : Nat} {v : Value} {xs : List Value} {S : List Nat} (h : OwnC w base v xs) (hf : Frm w w' S) (hS : ∀ x, x ∈ S → x < base) : OwnC w' base v xs := by
  rcases h with hn | ⟨g, cap, rfl, hb, hlt, h1, h2, hc, hfz⟩
  · exact .inl hn
  · have hblk := hf.block g hlt (fun hm => by have := hS g hm; omega)
    refine .inr ⟨g, cap, rfl, hb, Nat.lt_of_lt_of_le hlt hf.size, h1, h2, fun j hj => ?_, fun j hj => ?_⟩
    · rw [World.cell?_of_block (w := w) (w' := w') (a := ⟨g, j, none⟩) hblk]; exact hc j hj
    · rw [World.cell?_of_block (w := w) (w' := w') (a := ⟨g, j, none⟩) hblk, World.frozen?_of_block (w := w) (w' := w') (a := ⟨g, j, none⟩) hblk]; exact hfz j hj

theorem OwnC.shape {w : World} {base n : Nat} {v : Value} {xs : List Value} (h : OwnC w base v xs) (hn : xs.length = n) (hp : 0 < n) : ∃ g cap, v = .slice (some ⟨g, 0, none⟩) n cap := by
  rcases h with ⟨_, rfl⟩ | ⟨g, cap, rfl, _⟩
  · simp at hn; omega
  · exact ⟨g, cap, by rw [hn]⟩

theorem OwnC.at_ {w : World} {base g n cap : Nat} {xs : List Value} (h : OwnC w base (.slice (some ⟨g, 0, none⟩) n cap) xs) (j : Nat) (u : Value) (hj : xs[j]? = some u) : w.cell? ⟨g, j, none⟩ = some u := by
  have hl : j < xs.length := (List.getElem?_eq_some_iff.1 hj).1
  rcases h with ⟨h, _⟩ | ⟨g', cap', hv, _, _, _, _, hc, _⟩
  · cases h
  · cases hv
    rw [hc j hl, hj]

theorem OwnC.inBlock {w : World} {base g n cap : Nat} {xs : List Value} (h : OwnC w base (.slice (some ⟨g, 0, none⟩) n cap) xs) : base ≤ g ∧ g < w.heap.size := h.lt g rfl

/-- A slice of one element, laid by the text itself. -/
theorem OwnC.one (w : World) (x : Value) (t : TypeId) (base : Nat) (hb : base ≤ w.heap.size) : OwnC (w.alloc (.cells #[x] t)) base (.slice (some ⟨w.heap.size, 0, none⟩) 1 1) [x] := by
  refine .inr ⟨w.heap.size, 1, rfl, hb, by show w.heap.size < (w.heap.push _).size; rw [Array.size_push]; omega, Nat.le_refl _, by unfold maxLen; omega, fun j hj => ?_, fun j hj => ?_⟩
  · obtain rfl : j = 0 := by simp at hj; omega
    simp
  · obtain rfl : j = 0 := by omega
    refine ⟨by rw [show (w.alloc (.cells #[x] t)).cell? ⟨w.heap.size, 0, none⟩ = some x from by simp]; rfl, ?_⟩
    exact block_free (heap_alloc_new w _) 0

/-- '[]byte(s)': what the new row is. -/
theorem OwnC.bytes (w : World) (e : TypeId) (s : ByteArray) (c n base : Nat) (xs : List Value) (hn : s.size = n) (hc : n ≤ c) (hm : c ≤ maxLen) (hb : base ≤ w.heap.size) (hxs : xs = s.data.toList.map fun b => .int .u8 (b.toNat : Int)) :
    OwnC (w.alloc (.cells (bytesRow s c) e ((bytesRow s c).size, (bytesRow s c).size + 1))) base (.slice (some ⟨w.heap.size, 0, none⟩) n c) xs := by
  subst hn
  have hsz : (bytesRow s c).size = c := by
    simp only [bytesRow, Array.size_append, Array.size_map, Array.size_replicate]
    show s.size + _ = _
    omega
  have hlen : xs.length = s.size := by rw [hxs, List.length_map, Array.length_toList]; rfl
  refine .inr ⟨w.heap.size, c, by rw [hlen], hb, by show w.heap.size < (w.heap.push _).size; rw [Array.size_push]; omega, by rw [hlen]; exact hc, hm, fun j hj => ?_, fun j hj => ⟨?_, ?_⟩⟩
  · rw [hlen] at hj
    rw [World.cell?_alloc_mark, bytesRow_at s _ j hj]
    have hj2 : j < s.data.toList.length := by rw [Array.length_toList]; exact hj
    rw [hxs, List.getElem?_map, List.getElem?_eq_getElem hj2]
    rfl
  · rw [World.cell?_alloc_mark]
    have hj2 : j < (bytesRow s c).size := by omega
    simp [hj2]
  · rw [World.frozen?_alloc_mark]
    simp
    omega

theorem grownBy_setCells (w : World) (b off : Nat) (vs : List Value) : w.grownBy (w.setCells b off vs) (some b) := by
  have h := World.keptBut_setCells (w := w) b (may := fun p => p.block = b) vs off (fun _ _ => rfl)
  have hs : ∀ (vs : List Value) (off : Nat) (w : World), (w.setCells b off vs).heap.size = w.heap.size ∧ (w.setCells b off vs).tape = w.tape := by
    intro vs
    induction vs with
    | nil => intro off w; exact ⟨rfl, rfl⟩
    | cons v vs ih => intro off w; obtain ⟨h1, h2⟩ := ih (off + 1) (w.setCell ⟨b, off, none⟩ v); exact ⟨by simp only [World.setCells]; rw [h1]; simp, by simp only [World.setCells]; rw [h2]; simp⟩
  refine ⟨h.1, (hs vs off w).2, h.2.1, Nat.le_of_eq (hs vs off w).1.symm, fun k hk hne => ?_⟩
  exact h.block hk (fun _ hp e => hne (by rw [← e, hp]))

theorem cell_one_at (w : World) (x : Value) (t : TypeId) (n : Nat) (hn : n = w.heap.size) : ∀ j u, [x][j]? = some u → (w.alloc (.cells #[x] t)).cell? ((⟨n, 0, none⟩ : Addr).add j) = some u := by
  subst hn; exact cell_one_new w x t

theorem one_int (k : IntKind) (x : Int) : ∀ u ∈ [Value.int k x], u.oneCell' = true := by
  intro u hu; simp at hu; subst hu; rfl

/-- 'string(b)' of a row of bytes of the call's own. -/
theorem OwnC.text {P : Program} {w : World} {base : Nat} {g n cap : Nat} {l : List UInt8} (src dst e : TypeId) (hs : P.underlying src = some (.slice e)) (he : P.underlying e = some (.int .u8)) (hd : P.underlying dst = some .string)
    (h : OwnC w base (.slice (some ⟨g, 0, none⟩) n cap) (l.map fun b => .int .u8 (b.toNat : Int))) : (convert src dst (.slice (some ⟨g, 0, none⟩) n cap)).run P w = .ok (.string ⟨l.toArray⟩) w := by
  rcases h with ⟨h, _⟩ | ⟨g', cap', hv, _, _, _, _, hc, _⟩
  · cases h
  · simp only [List.length_map] at hv hc
    cases hv
    refine run_convert_bytes_back w src dst e ⟨g, 0, none⟩ cap l hs he hd fun j hj => ?_
    have hadd : (⟨g, 0, none⟩ : Addr).add j = ⟨g, j, none⟩ := by unfold Addr.add; split <;> simp_all
    rw [hadd, hc j hj]
    simp [hj]

theorem run_eq_nil {P : Program} (w : World) (t e : TypeId) (a : Option Addr) (n c n' c' : Nat) (h : P.underlying t = some (.slice e)) :
    (binOp .eql t (.slice a n c) (.slice none n' c')).run P w = .ok (.bool a.isNone) w := by
  simp only [binOp]
  simp [Op.equal, Op.maxDepth, Lib.run_equalIn_slice_nil w 9999 t e a n c n' c' h]

section
variable {P : Program} (w : World)

theorem wpList_append_ownC {ops : Array Oper} {rest : List Oper} {o : Oper} {a : Act} {Q : Exit → Act → World → Prop} (hgd : o.guard = none) (s x : Operand) (t : TypeId)
    (ho : o.op = .call { callee := .builtin .append, args := #[s, x], argTypes := #[t, t] })
    (base : Nat) (e : TypeId) (i : TypeInfo) (z : Value) (bytes : Nat) (ht : P.underlying t = some (.slice e)) (hi : P.info? e = some i) (hz : i.zero = some z)
    (hsize : i.size = 1) (hby : i.bytes = bytes) (hzs : z.cells.size = 1)
    (v : Value) (n : Nat) (xs : List Value) (hs : a.eval s = v) (hxn : xs.length = n) (hown : OwnC w base v xs)
    (ad : Addr) (m c : Nat) (news : List Value) (hx : a.eval x = .slice (some ad) m c) (hl : news.length = m) (hpos : 0 < m) (hnews : ∀ j u, news[j]? = some u → w.cell? (ad.add j) = some u) (h1 : ∀ u ∈ news, u.oneCell' = true)
    (h63 : n + m ≤ maxLen) (hbytes : (n + m) * bytes ≤ 140737488355328) (hbase : base ≤ w.heap.size)
    (h : ∀ g' cap' w', OwnC w' base (.slice (some ⟨g', 0, none⟩) (n + m) cap') (xs ++ news) → w.grownBy w' v.ownBlock → (v.ownBlock = some g' ∨ w.heap.size ≤ g') → wpList P ops Q rest (a.put o.dst (.slice (some ⟨g', 0, none⟩) (n + m) cap')) w') : wpList P ops Q (o :: rest) a w := by
  subst hxn
  rcases hown with ⟨rfl, rfl⟩ | ⟨g, cap, rfl, hb, hg, hlc, hcm, hc, hf⟩
  · refine wpList_append_own w hgd s x t ho w.heap.size e i z 1 bytes ht hi hz hsize hby hzs (by decide) _ 0 [] hs (World.ownsRow_nil _ _ _ _) ad m c news hx (by omega) hnews h1 (by simpa using h63) (by simpa using hbytes) (Nat.le_refl _) ?_
    intro v' w' h2 h3 h4
    have h5 := OwnC.ofRow h2
    obtain ⟨h5, h6⟩ := h5
    rcases h2.2 with ⟨rfl, h0⟩ | ⟨g', cap', cur, rfl, hbg, _⟩
    · omega
    · exact h g' cap' w' (by simpa using h5.le hbase) h3 (.inr hbg)
  · have hlx : xs.length = xs.length * 1 := by omega
    refine wpList_append_arg w hgd s x t ho e i z 1 bytes ht hi hz hsize hby hzs (by decide) g 0 xs.length cap xs hs (by omega) ?_ ad m c news hx (by omega) hnews h1 ?_ h63 hbytes ?_ ?_
    · intro j u hj
      have hjl : j < xs.length := (List.getElem?_eq_some_iff.1 hj).1
      rw [Nat.zero_add, hc j hjl, hj]
    · intro hroom j hj
      have := hf (0 + xs.length * 1 + j) (by omega)
      exact this
    · intro hroom
      have hgb := grownBy_setCells w g (0 + xs.length * 1) news
      have := h g cap (w.setCells g (0 + xs.length * 1) news) (.inr ⟨g, cap, by simp [hl], hb, Nat.lt_of_lt_of_le hg hgb.size, by simp; omega, hcm, fun j hj => ?_, fun j hj => ?_⟩) (by simpa [Value.ownBlock] using hgb) (.inl rfl)
      · exact this
      · rcases Nat.lt_or_ge j xs.length with hlt | hge
        · rw [World.cell?_setCells_out g news _ w ⟨g, j, none⟩ (fun _ _ => .inl (by show j < _; omega)), hc j hlt, List.getElem?_append_left hlt]
        · have hj2 : j - xs.length < news.length := by simp at hj; omega
          have := World.cell?_setCells_in g news (0 + xs.length * 1) w (fun j hj => (hf (0 + xs.length * 1 + j) (by omega)).1) (j - xs.length) hj2
          rw [show (0 + xs.length * 1 + (j - xs.length)) = j from by omega] at this
          rw [this, List.getElem?_append_right hge, List.getElem?_eq_getElem hj2]
      · rw [World.frozen?_setCells]
        refine ⟨?_, (hf j hj).2⟩
        by_cases hin : xs.length ≤ j ∧ j < xs.length + news.length
        · have := World.cell?_setCells_in g news (0 + xs.length * 1) w (fun j hj => (hf (0 + xs.length * 1 + j) (by omega)).1) (j - xs.length) (by omega)
          rw [show (0 + xs.length * 1 + (j - xs.length)) = j from by omega] at this
          rw [this]; rfl
        · rw [World.cell?_setCells_out g news _ w ⟨g, j, none⟩ (fun _ _ => by show j < _ ∨ _ ≤ j; omega)]
          exact (hf j hj).1
    · intro hgrow v' w' h2 h3
      obtain ⟨h5, h6⟩ := OwnC.ofRow h2
      have hgb : w.grownBy w' (Value.ownBlock (.slice (some ⟨g, 0, none⟩) xs.length cap)) := ⟨h3.os, h3.tape, h3.output, h3.size, fun k hk _ => h3.block k hk (by simp)⟩
      rcases h2.2 with ⟨rfl, h0⟩ | ⟨g', cap', cur, rfl, hbg, _⟩
      · omega
      · exact h g' cap' w' (h5.le hbase) hgb (.inr hbg)
end

end Go.Proofs.YtngofbhlhcalpaaGreatDoor.gen

namespace Go.Proofs.YtngofbhlhcalpaaGreatDoor.lexer
open Go.RowKit Go.Proofs.YtngofbhlhcalpaaGreatDoor.gen

/-- The byte at a place, or -1. -/
def byt (s : ByteArray) (z : Int) : Int := if h : 0 ≤ z ∧ z.toNat < s.size then ((s[z.toNat]'h.2).toNat : Int) else -1

theorem byt_in (s : ByteArray) (k : Nat) (h : k < s.size) : byt s (k : Int) = (s[k].toNat : Int) := by
  unfold byt; rw [dif_pos ⟨by omega, by simpa using h⟩]; rfl
theorem byt_out (s : ByteArray) (z : Int) (h : (s.size : Int) ≤ z) : byt s z = -1 := by
  unfold byt; rw [dif_neg (by omega)]
theorem byt_bd (s : ByteArray) (z : Int) : -1 ≤ byt s z ∧ byt s z ≤ 255 := by
  unfold byt
  split
  · rename_i h
    have := (s[z.toNat]'h.2).toNat_lt
    omega
  · omega
theorem byt_lt (s : ByteArray) (z : Int) (h : 0 ≤ byt s z) : 0 ≤ z ∧ z < (s.size : Int) := by
  unfold byt at h
  split at h
  · omega
  · omega
theorem byt_ge (s : ByteArray) (z : Int) (h0 : 0 ≤ z) (h : z < (s.size : Int)) : 0 ≤ byt s z := by
  obtain ⟨k, rfl⟩ := Int.eq_ofNat_of_zero_le h0
  rw [byt_in s k (by omega)]; omega

/-- What the readers ask: the lexer's file, the file's text, the lexer's place. -/
structure Rd (w : World) (lb fb : Nat) (s : ByteArray) (p : Nat) : Prop where
  c0 : w.cell? ⟨lb, 0, none⟩ = some (.pointer (some ⟨fb, 0, none⟩))
  cB : w.cell? ⟨fb, 1, none⟩ = some (.string s)
  c9 : w.cell? ⟨lb, 9, none⟩ = some (.int .i64 p)
  sz : s.size ≤ 2147483647
  pz : p ≤ s.size

theorem Rd.drewN {w : World} {lb fb : Nat} {s : ByteArray} {p : Nat} (h : Rd w lb fb s p) (n : Nat) : Rd (w.drewN n) lb fb s p := ⟨h.c0, h.cB, h.c9, h.sz, h.pz⟩

def Drawn (v : Value) (w : World) (e : Ending) (w' : World) : Prop := e = .returned v ∧ ∃ n, w' = w.drewN n

theorem eof_yes (lb fb : Nat) (s : ByteArray) (p : Nat) (w : World) (h : Rd w lb fb s p) (hp : s.size ≤ p) :
    Calls Tryz.prog 61 #[.pointer (some ⟨lb, 0, none⟩)] w (Drawn (.bool true) w) := by
  obtain ⟨c0, cB, c9, sz, pz⟩ := h
  have hd : decide ((s.size : Int) ≤ (p : Int)) = true := by simp; omega
  go_enter Tryz.func61, Tryz.ntmps61
  go_wp2_with fail
  go_quiet (fail)
  go_wp2
  go_ret
  exact ⟨rfl, _, rfl⟩

theorem eof_no (lb fb : Nat) (s : ByteArray) (p : Nat) (w : World) (h : Rd w lb fb s p) (hp : p < s.size) :
    Calls Tryz.prog 61 #[.pointer (some ⟨lb, 0, none⟩)] w (Drawn (.bool false) w) := by
  obtain ⟨c0, cB, c9, sz, pz⟩ := h
  have hd : decide (s.size ≤ p) = false := by simp; omega
  go_enter Tryz.func61, Tryz.ntmps61
  go_wp2_with fail
  go_quiet (fail)
  go_wp2
  go_ret
  exact ⟨rfl, _, rfl⟩

theorem peekOk_yes (lb fb : Nat) (s : ByteArray) (p : Nat) (i : Int) (w : World) (h : Rd w lb fb s p) (hi : 0 ≤ i ∧ (p : Int) + i < s.size) :
    Calls Tryz.prog 67 #[.pointer (some ⟨lb, 0, none⟩), .int .i64 i] w (Drawn (.bool true) w) := by
  obtain ⟨c0, cB, c9, sz, pz⟩ := h
  obtain ⟨h0, h1⟩ := hi
  have e1 : IntKind.i64.wrap ((p : Int) + i) = (p : Int) + i := IntWalk.i64_in _ (by omega)
  have hd : decide ((p : Int) + i < (s.size : Int)) = true := by simp; omega
  go_enter Tryz.func67, Tryz.ntmps67
  go_wp2_with fail
  go_quiet (fail)
  go_wp2
  go_ret
  exact ⟨rfl, _, rfl⟩

theorem peekOk_no (lb fb : Nat) (s : ByteArray) (p : Nat) (i : Int) (w : World) (h : Rd w lb fb s p) (hi : 0 ≤ i ∧ i ≤ 4294967296 ∧ (s.size : Int) ≤ (p : Int) + i) :
    Calls Tryz.prog 67 #[.pointer (some ⟨lb, 0, none⟩), .int .i64 i] w (Drawn (.bool false) w) := by
  obtain ⟨c0, cB, c9, sz, pz⟩ := h
  obtain ⟨h0, h1, h2⟩ := hi
  have e1 : IntKind.i64.wrap ((p : Int) + i) = (p : Int) + i := IntWalk.i64_in _ (by omega)
  have hd : decide ((p : Int) + i < (s.size : Int)) = false := by simp; omega
  go_enter Tryz.func67, Tryz.ntmps67
  go_wp2_with fail
  go_quiet (fail)
  go_wp2
  go_ret
  exact ⟨rfl, _, rfl⟩

theorem peek_any (lb fb : Nat) (s : ByteArray) (p : Nat) (i c : Int) (w : World) (h : Rd w lb fb s p) (hi : 0 ≤ i ∧ 0 ≤ c ∧ byt s ((p : Int) + i) = c) :
    Calls Tryz.prog 69 #[.pointer (some ⟨lb, 0, none⟩), .int .i64 i] w (Drawn (.int .u8 c) w) := by
  obtain ⟨c0, cB, c9, sz, pz⟩ := h
  obtain ⟨h0, h1, h2⟩ := hi
  have h3 := byt_lt s _ (by rw [h2]; exact h1)
  obtain ⟨k, rfl⟩ := Int.eq_ofNat_of_zero_le h0
  have h4 : p + k < s.size := by omega
  have h5 := byt_in s (p + k) h4
  rw [show ((p + k : Nat) : Int) = (p : Int) + (k : Int) from by omega, h2] at h5
  subst h5
  have h4' : (p : Int) + (k : Int) < (s.size : Int) := by omega
  have h6 : 0 ≤ (p : Int) + (k : Int) := by omega
  have h7 : ((p : Int) + (k : Int)).toNat = p + k := by omega
  have e1 : IntKind.i64.wrap ((p : Int) + (k : Int)) = (p : Int) + (k : Int) := IntWalk.i64_in _ (by omega)
  clear h2 h3 h0 h1
  go_enter Tryz.func69, Tryz.ntmps69
  go_wp2_with fail
  go_quiet (fail)
  go_wp2
  go_ret
  exact ⟨rfl, _, rfl⟩

theorem peekIs_far (lb fb : Nat) (s : ByteArray) (p : Nat) (i c : Int) (w : World) (h : Rd w lb fb s p) (hi : 0 ≤ i ∧ i ≤ 4294967296 ∧ (s.size : Int) ≤ (p : Int) + i) :
    Calls Tryz.prog 65 #[.pointer (some ⟨lb, 0, none⟩), .int .i64 i, .int .u8 c] w (Drawn (.bool false) w) := by
  obtain ⟨c0, cB, c9, sz, pz⟩ := h
  obtain ⟨h0, h1, h2⟩ := hi
  have e1 : IntKind.i64.wrap ((p : Int) + i) = (p : Int) + i := IntWalk.i64_in _ (by omega)
  have hd : decide ((p : Int) + i < (s.size : Int)) = false := by simp; omega
  go_enter Tryz.func65, Tryz.ntmps65
  go_wp2_with fail
  go_quiet (fail)
  go_wp2
  go_ret
  exact ⟨rfl, _, rfl⟩

theorem peekIs_near (lb fb : Nat) (s : ByteArray) (p k : Nat) (c d : Int) (b : Bool) (w : World) (h : Rd w lb fb s p) (h4 : p + k < s.size) (hd : (s[p + k].toNat : Int) = d) (hb : (d == c) = b) :
    Calls Tryz.prog 65 #[.pointer (some ⟨lb, 0, none⟩), .int .i64 (k : Int), .int .u8 c] w (Drawn (.bool b) w) := by
  obtain ⟨c0, cB, c9, sz, pz⟩ := h
  have h4' : (p : Int) + (k : Int) < (s.size : Int) := by omega
  have h6 : 0 ≤ (p : Int) + (k : Int) := by omega
  have h7 : ((p : Int) + (k : Int)).toNat = p + k := by omega
  have e1 : IntKind.i64.wrap ((p : Int) + (k : Int)) = (p : Int) + (k : Int) := IntWalk.i64_in _ (by omega)
  have hd2 : decide ((p : Int) + (k : Int) < (s.size : Int)) = true := by simp; omega
  subst hd
  go_enter Tryz.func65, Tryz.ntmps65
  go_wp2_with fail
  go_quiet (fail)
  go_wp2
  go_ret
  exact ⟨rfl, _, rfl⟩

theorem peekIs_yes (lb fb : Nat) (s : ByteArray) (p : Nat) (i c : Int) (w : World) (h : Rd w lb fb s p) (hi : 0 ≤ i ∧ 0 ≤ c ∧ byt s ((p : Int) + i) = c) :
    Calls Tryz.prog 65 #[.pointer (some ⟨lb, 0, none⟩), .int .i64 i, .int .u8 c] w (Drawn (.bool true) w) := by
  obtain ⟨h0, h1, h2⟩ := hi
  have h3 := byt_lt s _ (by rw [h2]; exact h1)
  obtain ⟨k, rfl⟩ := Int.eq_ofNat_of_zero_le h0
  have h4 : p + k < s.size := by omega
  have h5 := byt_in s (p + k) h4
  rw [show ((p + k : Nat) : Int) = (p : Int) + (k : Int) from by omega, h2] at h5
  exact peekIs_near lb fb s p k c c true w h h4 h5.symm (by simp)

theorem peekIs_no (lb fb : Nat) (s : ByteArray) (p : Nat) (i c : Int) (w : World) (h : Rd w lb fb s p) (hi : 0 ≤ i ∧ i ≤ 4294967296 ∧ ¬ byt s ((p : Int) + i) = c) :
    Calls Tryz.prog 65 #[.pointer (some ⟨lb, 0, none⟩), .int .i64 i, .int .u8 c] w (Drawn (.bool false) w) := by
  obtain ⟨h0, h1, h2⟩ := hi
  by_cases h3 : (p : Int) + i < s.size
  · obtain ⟨k, rfl⟩ := Int.eq_ofNat_of_zero_le h0
    have h4 : p + k < s.size := by omega
    have h5 := byt_in s (p + k) h4
    rw [show ((p + k : Nat) : Int) = (p : Int) + (k : Int) from by omega] at h5
    exact peekIs_near lb fb s p k c _ false w h h4 h5.symm (by rw [beq_eq_false_iff_ne]; exact h2)
  · exact peekIs_far lb fb s p i c w h ⟨h0, h1, by omega⟩

end Go.Proofs.YtngofbhlhcalpaaGreatDoor.lexer

namespace Go.Proofs.YtngofbhlhcalpaaGreatDoor.lexer
open Go.RowKit Go.Proofs.YtngofbhlhcalpaaGreatDoor.gen

/-- What the lexer's cells hold. -/
structure LX where
  kind : ByteArray
  com : Value
  space : ByteArray
  raw : ByteArray
  text : ByteArray
  base : Int
  ps : Int
  en : Int
  p : Nat
  last : ByteArray
  dot : Bool

def LX.cells (x : LX) (fb : Nat) : Array Value := #[.pointer (some ⟨fb, 0, none⟩), .string x.kind, x.com, .string x.space, .string x.raw, .string x.text, .int .i64 x.base, .int .i64 x.ps, .int .i64 x.en, .int .i64 (x.p : Int), .string x.last, .bool x.dot]

structure St (w : World) (lb fb : Nat) (fp s : ByteArray) (x : LX) : Prop where
  lex : w.heap[lb]? = some (.cells (x.cells fb) 63 (0, 0))
  file : w.heap[fb]? = some (.cells #[.string fp, .string s, .slice none 0 0] 71 (0, 0))
  ne : lb ≠ fb
  sz : s.size ≤ 2147483647
  pz : x.p ≤ s.size

theorem St.rd {w : World} {lb fb : Nat} {fp s : ByteArray} {x : LX} (h : St w lb fb fp s x) : Rd w lb fb s x.p :=
  ⟨block_cell h.lex 0, block_cell h.file 1, block_cell h.lex 9, h.sz, h.pz⟩

theorem St.drewN {w : World} {lb fb : Nat} {fp s : ByteArray} {x : LX} (h : St w lb fb fp s x) (n : Nat) : St (w.drewN n) lb fb fp s x := ⟨h.lex, h.file, h.ne, h.sz, h.pz⟩

theorem St.set {w : World} {lb fb : Nat} {fp s : ByteArray} {x : LX} (h : St w lb fb fp s x) (i : Nat) (v : Value) (y : LX) (hy : (x.cells fb).setIfInBounds i v = y.cells fb) (hp : y.p ≤ s.size) :
    St (w.setCell ⟨lb, i, none⟩ v) lb fb fp s y :=
  ⟨by rw [← hy]; exact block_set h.lex v, by rw [Below.heap_setCell _ _ _ _ (fun e => h.ne e.symm)]; exact h.file, h.ne, h.sz, hp⟩

theorem St.frm {w w' : World} {lb fb : Nat} {fp s : ByteArray} {x : LX} (h : St w lb fb fp s x) (hf : Frm w w' []) : St w' lb fb fp s x :=
  ⟨(hf.block lb (block_lt h.lex) (by simp)).trans h.lex, (hf.block fb (block_lt h.file) (by simp)).trans h.file, h.ne, h.sz, h.pz⟩

/-- The call returns v and leaves the lexer as y says; of the blocks that were there only the lexer's has changed. -/
def Goes (v : Value) (lb fb : Nat) (fp s : ByteArray) (y : LX) (w : World) (e : Ending) (w' : World) : Prop := e = .returned v ∧ St w' lb fb fp s y ∧ Frm w w' [lb]

theorem skipN_any (lb fb : Nat) (fp s : ByteArray) (x : LX) (n : Int) (y : LX) (w : World) (h : St w lb fb fp s x) (hn : 0 ≤ n ∧ (x.p : Int) + n ≤ s.size) (hy : y = { x with p := (x.p + n).toNat }) :
    Calls Tryz.prog 64 #[.pointer (some ⟨lb, 0, none⟩), .int .i64 n] w (Goes (.tuple #[]) lb fb fp s y w) := by
  obtain ⟨h0, h1⟩ := hn
  obtain ⟨k, rfl⟩ := Int.eq_ofNat_of_zero_le h0
  have c9 := h.rd.c9
  have f9 := block_free h.lex 9
  have hs := h.sz
  have HS := Lib.hid h
  clear h
  have HY := Lib.hid hy
  clear hy
  go_enter Tryz.func64, Tryz.ntmps64
  go_wp2
  go_end0
  refine ⟨rfl, HS.out.set 9 _ y ?_ ?_, (Frm.refl _ _).setCell _ _ (.inl (by simp))⟩
  · rw [HY.out]
    have e : ((x.p : Int) + (k : Int)).toNat = x.p + k := by omega
    simp [LX.cells, e]
  · rw [HY.out]; show ((x.p : Int) + (k : Int)).toNat ≤ _; omega

theorem skip_any (lb fb : Nat) (fp s : ByteArray) (x : LX) (c : Int) (y : LX) (w : World) (h : St w lb fb fp s x) (hc : 0 ≤ c ∧ byt s ((x.p : Int) + 0) = c) (hy : y = { x with p := x.p + 1 }) :
    Calls Tryz.prog 70 #[.pointer (some ⟨lb, 0, none⟩)] w (Goes (.int .u8 c) lb fb fp s y w) := by
  obtain ⟨h1, h2⟩ := hc
  have h3 := byt_lt s _ (by rw [h2]; exact h1)
  have h4 : x.p < s.size := by omega
  have h5 := byt_in s x.p h4
  rw [show ((x.p : Nat) : Int) = (x.p : Int) + 0 from by omega, h2] at h5
  subst h5
  have h4' : (x.p : Int) < (s.size : Int) := by omega
  have h6 : 0 ≤ (x.p : Int) := by omega
  have h7 : (x.p : Int).toNat = x.p := by omega
  obtain ⟨c0, cB, c9, sz, pz⟩ := h.rd
  have f9 := block_free h.lex 9
  have HS := Lib.hid h
  have HY := Lib.hid hy
  clear h hy h2 h3 h1
  go_enter Tryz.func70, Tryz.ntmps70
  go_wp2_with fail
  go_quiet (fail)
  go_wp2
  go_ret
  refine ⟨rfl, (HS.out.drewN _).set 9 _ y ?_ ?_, ((Frm.refl _ _).drewN _).setCell _ _ (.inl (by simp))⟩
  · rw [HY.out]; simp [LX.cells]
  · rw [HY.out]; exact h4

theorem drawn3 (w : World) (a b c : Nat) : ((w.drewN a).drewN b).drewN c = w.drewN (a + b + c) := by rw [World.drewN_drewN, World.drewN_drewN, Nat.add_assoc]

theorem slice_any (lb fb : Nat) (s : ByteArray) (p a b : Nat) (t : ByteArray) (w : World) (h : Rd w lb fb s p) (hb : b ≤ 2147483648) (hab : a ≤ b) (ha : p + a ≤ s.size) (ht : t = s.extract (p + a) (min (p + b) s.size)) :
    Calls Tryz.prog 80 #[.pointer (some ⟨lb, 0, none⟩), .int .i64 (a : Int), .int .i64 (b : Int)] w (Drawn (.string t) w) := by
  obtain ⟨c0, cB, c9, sz, pz⟩ := h
  have e1 : IntKind.i64.wrap ((p : Int) + (a : Int)) = (p : Int) + (a : Int) := IntWalk.i64_in _ (by omega)
  have e2 : IntKind.i64.wrap ((p : Int) + (b : Int)) = (p : Int) + (b : Int) := IntWalk.i64_in _ (by omega)
  have e3 : IntKind.i64.wrap ((s.size : Int) - (p : Int)) = (s.size : Int) - (p : Int) := IntWalk.i64_in _ (by omega)
  have e4 : IntKind.i64.wrap ((p : Int) + ((s.size : Int) - (p : Int))) = (s.size : Int) := by rw [IntWalk.i64_in _ (by omega)]; omega
  by_cases hlt : s.size < p + b
  · rw [Nat.min_eq_right (by omega)] at ht
    have HT := Lib.hid ht
    clear ht
    have hd : decide ((s.size : Int) < (p : Int) + (b : Int)) = true := by simp; omega
    go_enter Tryz.func80, Tryz.ntmps80
    go_wp2_with fail
    go_quiet (fail)
    go_wp2_with fail
    go_quiet (fail)
    go_wp2_with fail
    go_quiet (fail)
    go_wp2
    go_ret
    exact ⟨by rw [HT.out]; rfl, _, drawn3 _ _ _ _⟩
  · rw [Nat.min_eq_left (by omega)] at ht
    have HT := Lib.hid ht
    clear ht
    have hd : decide ((s.size : Int) < (p : Int) + (b : Int)) = false := by simp; omega
    go_enter Tryz.func80, Tryz.ntmps80
    go_wp2_with fail
    go_quiet (fail)
    go_wp2_with fail
    go_quiet (fail)
    go_wp2
    go_ret
    exact ⟨by rw [HT.out]; rfl, _, World.drewN_drewN ..⟩

end Go.Proofs.YtngofbhlhcalpaaGreatDoor.lexer

namespace Go.Proofs.YtngofbhlhcalpaaGreatDoor.lexer
open Go.RowKit Go.Proofs.YtngofbhlhcalpaaGreatDoor.gen

def dg (c : Int) : Bool := decide (48 ≤ c) && decide (c ≤ 57)
def hx (c : Int) : Bool := dg c || (decide (97 ≤ c) && decide (c ≤ 102)) || (decide (65 ≤ c) && decide (c ≤ 70))
def oc (c : Int) : Bool := decide (48 ≤ c) && decide (c ≤ 55)
def ids (c : Int) : Bool := (decide (97 ≤ c) && decide (c ≤ 122)) || (decide (65 ≤ c) && decide (c ≤ 90)) || (c == 95)
def idp (c : Int) : Bool := dg c || ids c

theorem isDigit_any (c : Int) (w : World) :
    Calls Tryz.prog 72 #[.int .u8 c] w fun e w' => e = .returned (.bool (dg c)) ∧ w = w' := by
  by_cases h1 : (48 : Int) ≤ c
  · by_cases h2 : c ≤ 57
    · have h : dg c = true := by simp [dg, h1, h2]
      rw [h]; clear h
      go_enter Tryz.func72, Tryz.ntmps72
      go_wp2
      go_ret
      exact ⟨rfl, rfl⟩
    · have h : dg c = false := by simp [dg]; omega
      rw [h]; clear h
      go_enter Tryz.func72, Tryz.ntmps72
      go_wp2
      go_ret
      exact ⟨rfl, rfl⟩
  · have h : dg c = false := by simp [dg]; omega
    rw [h]; clear h
    go_enter Tryz.func72, Tryz.ntmps72
    go_wp2
    go_ret
    exact ⟨rfl, rfl⟩

theorem isOctal_any (c : Int) (w : World) :
    Calls Tryz.prog 99 #[.int .u8 c] w fun e w' => e = .returned (.bool (oc c)) ∧ w = w' := by
  by_cases h1 : (48 : Int) ≤ c
  · by_cases h2 : c ≤ 55
    · have h : oc c = true := by simp [oc, h1, h2]
      rw [h]; clear h
      go_enter Tryz.func99, Tryz.ntmps99
      go_wp2
      go_ret
      exact ⟨rfl, rfl⟩
    · have h : oc c = false := by simp [oc]; omega
      rw [h]; clear h
      go_enter Tryz.func99, Tryz.ntmps99
      go_wp2
      go_ret
      exact ⟨rfl, rfl⟩
  · have h : oc c = false := by simp [oc]; omega
    rw [h]; clear h
    go_enter Tryz.func99, Tryz.ntmps99
    go_wp2
    go_ret
    exact ⟨rfl, rfl⟩

theorem isHex_any (c : Int) (w : World) :
    Calls Tryz.prog 95 #[.int .u8 c] w fun e w' => e = .returned (.bool (hx c)) ∧ w = w' := by
  rcases (show c < 48 ∨ (48 ≤ c ∧ c ≤ 57) ∨ (57 < c ∧ c < 65) ∨ (65 ≤ c ∧ c ≤ 70) ∨ (70 < c ∧ c < 97) ∨ (97 ≤ c ∧ c ≤ 102) ∨ 102 < c by omega) with h | ⟨h1, h2⟩ | ⟨h1, h2⟩ | ⟨h1, h2⟩ | ⟨h1, h2⟩ | ⟨h1, h2⟩ | h
  all_goals
    go_enter Tryz.func95, Tryz.ntmps95
    go_wp2
    go_ret
    refine ⟨ret_bool ?_, rfl⟩
    rw [Bool.eq_iff_iff]
    simp [hx, dg]
    try omega

theorem isIdentStart_any (c : Int) (w : World) :
    Calls Tryz.prog 74 #[.int .u8 c] w fun e w' => e = .returned (.bool (ids c)) ∧ w = w' := by
  rcases (show c < 65 ∨ (65 ≤ c ∧ c ≤ 90) ∨ (90 < c ∧ c < 95) ∨ (95 ≤ c ∧ c ≤ 95) ∨ (96 ≤ c ∧ c ≤ 96) ∨ (97 ≤ c ∧ c ≤ 122) ∨ 122 < c by omega) with h | ⟨h1, h2⟩ | ⟨h1, h2⟩ | ⟨h1, h2⟩ | ⟨h1, h2⟩ | ⟨h1, h2⟩ | h
  all_goals
    go_enter Tryz.func74, Tryz.ntmps74
    go_wp2
    go_ret
    refine ⟨ret_bool ?_, rfl⟩
    rw [Bool.eq_iff_iff]
    simp [ids]
    try omega

theorem isIdentPart_any (c : Int) (w : World) :
    Calls Tryz.prog 68 #[.int .u8 c] w fun e w' => e = .returned (.bool (idp c)) ∧ w = w' := by
  rcases (show c < 48 ∨ (48 ≤ c ∧ c ≤ 57) ∨ (57 < c ∧ c < 65) ∨ (65 ≤ c ∧ c ≤ 90) ∨ (90 < c ∧ c < 95) ∨ (95 ≤ c ∧ c ≤ 95) ∨ (96 ≤ c ∧ c ≤ 96) ∨ (97 ≤ c ∧ c ≤ 122) ∨ 122 < c by omega) with h | ⟨h1, h2⟩ | ⟨h1, h2⟩ | ⟨h1, h2⟩ | ⟨h1, h2⟩ | ⟨h1, h2⟩ | ⟨h1, h2⟩ | ⟨h1, h2⟩ | h
  all_goals
    go_enter Tryz.func68, Tryz.ntmps68
    go_wp2
    go_ret
    refine ⟨ret_bool ?_, rfl⟩
    rw [Bool.eq_iff_iff]
    simp [idp, ids, dg]
    try omega

end Go.Proofs.YtngofbhlhcalpaaGreatDoor.lexer

namespace Go.Proofs.YtngofbhlhcalpaaGreatDoor.lexer
open Go.RowKit Go.Proofs.YtngofbhlhcalpaaGreatDoor.gen

/-- A byte as a number. -/
def nn (c : UInt8) : Int := (c.toNat : Int)

def dgHead : List UInt8 → Bool
  | [] => false
  | c :: _ => dg (nn c)
def idpHead : List UInt8 → Bool
  | [] => false
  | c :: _ => idp (nn c)

/-- A number's digits from here on: how many bytes, and whether it is still an integer. -/
def numU : List UInt8 → Bool → Bool → Bool → Nat × Bool
  | [], _, int, _ => (0, int)
  | c :: r, b16, int, exp =>
    if !b16 && dg (nn c) then ((numU r b16 int exp).1 + 1, (numU r b16 int exp).2)
    else if b16 && hx (nn c) then ((numU r b16 int exp).1 + 1, (numU r b16 int exp).2)
    else if !exp && int && !b16 && (nn c == 46) then ((numU r b16 false exp).1 + 1, (numU r b16 false exp).2)
    else if !exp && !b16 && (nn c == 69 || nn c == 101) then
      match r with
      | [] => (0, int)
      | d :: r2 =>
        if nn d == 43 || nn d == 45 then
          if dgHead r2 then ((numU r2 b16 false true).1 + 2, (numU r2 b16 false true).2) else (0, int)
        else if dg (nn d) then ((numU r2 b16 false true).1 + 2, (numU r2 b16 false true).2)
        else (0, int)
    else (0, int)

/-- How many bytes at the beginning may stand in an identifier. -/
def idLen : List UInt8 → Nat
  | [] => 0
  | c :: r => if idp (nn c) then idLen r + 1 else 0

/-- The text from a place on. -/
def suf (s : ByteArray) (k : Nat) : List UInt8 := s.data.toList.drop k

theorem len_list (s : ByteArray) : s.data.toList.length = s.size := by rw [Array.length_toList]; rfl
theorem suf_nil (s : ByteArray) (k : Nat) (h : s.size ≤ k) : suf s k = [] := by
  unfold suf; rw [List.drop_eq_nil_of_le]; rw [len_list]; exact h
theorem suf_cons (s : ByteArray) (k : Nat) (h : k < s.size) : suf s k = s[k] :: suf s (k + 1) := by
  unfold suf
  have h2 : k < s.data.toList.length := by rw [len_list]; exact h
  rw [List.drop_eq_getElem_cons h2]; rfl
theorem suf_len (s : ByteArray) (k : Nat) : (suf s k).length = s.size - k := by unfold suf; rw [List.length_drop, len_list]

/-- The text from a place on, by the byte that stands there. -/
theorem suf_byt (s : ByteArray) (k : Nat) : (byt s (k : Int) = -1 ∧ suf s k = [] ∧ s.size ≤ k) ∨ ∃ c, byt s (k : Int) = nn c ∧ suf s k = c :: suf s (k + 1) ∧ k < s.size := by
  rcases Nat.lt_or_ge k s.size with h | h
  · exact .inr ⟨s[k], byt_in s k h, suf_cons s k h, h⟩
  · exact .inl ⟨byt_out s _ (by omega), suf_nil s k h, h⟩

theorem nn_bd (c : UInt8) : 0 ≤ nn c ∧ nn c ≤ 255 := by unfold nn; have := c.toNat_lt; omega

theorem idLen_le (t : List UInt8) : idLen t ≤ t.length := by
  induction t with
  | nil => exact Nat.le_refl _
  | cons c r ih => unfold idLen; split <;> simp <;> omega

theorem numU_le : ∀ (n : Nat) (t : List UInt8) (b i e : Bool), t.length ≤ n → (numU t b i e).1 ≤ t.length := by
  intro n
  induction n with
  | zero =>
    intro t b i e h
    cases t with
    | nil => simp [numU]
    | cons c r => simp at h
  | succ n ih =>
    intro t b i e h
    cases t with
    | nil => simp [numU]
    | cons c r =>
      simp only [List.length_cons] at h ⊢
      unfold numU
      split
      · have := ih r b i e (by omega); simp; omega
      · split
        · have := ih r b i e (by omega); simp; omega
        · split
          · have := ih r b false e (by omega); simp; omega
          · split
            · cases r with
              | nil => simp
              | cons d r2 =>
                simp only [List.length_cons] at h ⊢
                have h1 := ih r2 b false true (by omega)
                split
                · split
                  · show _ + 2 ≤ _; omega
                  · exact Nat.zero_le _
                · split
                  · show _ + 2 ≤ _; omega
                  · exact Nat.zero_le _
            · simp

theorem numU_dig (c : UInt8) (r : List UInt8) (i e : Bool) (h : dg (nn c) = true) : numU (c :: r) false i e = ((numU r false i e).1 + 1, (numU r false i e).2) := by
  rw [numU.eq_def]; simp [h]
theorem numU_hex (c : UInt8) (r : List UInt8) (i e : Bool) (h : hx (nn c) = true) : numU (c :: r) true i e = ((numU r true i e).1 + 1, (numU r true i e).2) := by
  rw [numU.eq_def]; simp [h]
theorem numU_hexEnd (c : UInt8) (r : List UInt8) (i e : Bool) (h : hx (nn c) = false) : numU (c :: r) true i e = (0, i) := by
  rw [numU.eq_def]; simp [h]
theorem numU_dot (c : UInt8) (r : List UInt8) (h : nn c = 46) : numU (c :: r) false true false = ((numU r false false false).1 + 1, (numU r false false false).2) := by
  rw [numU.eq_def]; simp [h, dg]
theorem numU_exp2 (c d : UInt8) (r : List UInt8) (i : Bool) (h : nn c = 69 ∨ nn c = 101) (h2 : nn d = 43 ∨ nn d = 45) (h3 : dgHead r = true) : numU (c :: d :: r) false i false = ((numU r false false true).1 + 2, (numU r false false true).2) := by
  rw [numU.eq_def]
  rcases h with h | h <;> rcases h2 with h2 | h2 <;> simp [h, h2, h3, dg]
theorem numU_exp1 (c d : UInt8) (r : List UInt8) (i : Bool) (h : nn c = 69 ∨ nn c = 101) (h2 : dg (nn d) = true) : numU (c :: d :: r) false i false = ((numU (d :: r) false false true).1 + 1, (numU (d :: r) false false true).2) := by
  rw [numU_dig d r _ _ h2, numU.eq_def]
  have h4 : ¬ nn d = 43 ∧ ¬ nn d = 45 := by simp [dg] at h2; omega
  have h5 : dg 69 = false := by decide
  have h6 : dg 101 = false := by decide
  rcases h with h | h <;> simp [h, h2, h4.1, h4.2, h5, h6]
theorem numU_expNo (c : UInt8) (r : List UInt8) (i : Bool) (h : nn c = 69 ∨ nn c = 101) (h2 : ∀ d r2, r = d :: r2 → ((nn d = 43 ∨ nn d = 45) ∧ dgHead r2 = false) ∨ (¬ nn d = 43 ∧ ¬ nn d = 45 ∧ dg (nn d) = false)) : numU (c :: r) false i false = (0, i) := by
  rw [numU.eq_def]
  cases r with
  | nil => rcases h with h | h <;> simp [h, dg]
  | cons d r2 =>
    rcases h2 d r2 rfl with ⟨h3, h4⟩ | ⟨h3, h4, h5⟩
    · rcases h with h | h <;> rcases h3 with h3 | h3 <;> simp [h, h3, h4, dg]
    · have e1 : dg 69 = false := by decide
      have e2 : dg 101 = false := by decide
      rcases h with h | h <;> simp [h, h3, h4, h5, e1, e2]
theorem numU_stop (c : UInt8) (r : List UInt8) (i e : Bool) (h : dg (nn c) = false) (h2 : nn c = 46 → ¬ (i = true ∧ e = false)) (h3 : nn c = 69 ∨ nn c = 101 → e = true) : numU (c :: r) false i e = (0, i) := by
  rw [numU.eq_def]
  by_cases h4 : nn c = 46
  · have := h2 h4
    cases i <;> cases e <;> simp_all [dg]
  · by_cases h5 : nn c = 69 ∨ nn c = 101
    · have := h3 h5
      subst this
      simp [h]
    · simp only [not_or] at h5
      simp [h, h4, h5.1, h5.2]

end Go.Proofs.YtngofbhlhcalpaaGreatDoor.lexer

namespace Go.Proofs.YtngofbhlhcalpaaGreatDoor.upper
open Go.RowKit Go.Proofs.YtngofbhlhcalpaaGreatDoor.gen

def upb (c : UInt8) : UInt8 := if 97 ≤ c.toNat ∧ c.toNat ≤ 122 then c - 32 else c
def up (l : List UInt8) : List UInt8 := l.map upb
def bv (l : List UInt8) : List Value := l.map fun b => .int .u8 (b.toNat : Int)

theorem bv_len (l : List UInt8) : (bv l).length = l.length := by simp [bv]
theorem up_len (l : List UInt8) : (up l).length = l.length := by simp [up]
theorem upb_lo (c : UInt8) (h : 97 ≤ c.toNat ∧ c.toNat ≤ 122) : ((upb c).toNat : Int) = 65 + ((c.toNat : Int) - 97) := by
  unfold upb; rw [if_pos h, UInt8.toNat_sub_of_le c 32 (by rw [UInt8.le_iff_toNat_le]; show 32 ≤ c.toNat; omega)]
  show ((c.toNat - 32 : Nat) : Int) = _
  omega
theorem upb_no (c : UInt8) (h : ¬ (97 ≤ c.toNat ∧ c.toNat ≤ 122)) : upb c = c := by unfold upb; rw [if_neg h]

theorem take_snoc (s : ByteArray) (k : Nat) (h : k < s.size) : s.data.toList.take (k + 1) = s.data.toList.take k ++ [s[k]] := by
  have h2 : k < s.data.toList.length := by rw [Array.length_toList]; exact h
  rw [List.take_succ_eq_append_getElem h2]; rfl
theorem up_snoc (s : ByteArray) (k : Nat) (h : k < s.size) : up (s.data.toList.take (k + 1)) = up (s.data.toList.take k) ++ [upb s[k]] := by
  rw [take_snoc s k h]; simp [up]

theorem info5 : (Tryz.prog.info? 5).map (fun i => (i.zero, i.size, i.bytes)) = some (some (.int .u8 0), 1, 1) := by kernel_rfl

def St (base : Nat) (l : List UInt8) (k : Nat) (v : Value) (wr : World) : Prop :=
  (v = .slice none 0 0 ∧ up (l.take k) = l.take k) ∨ (OwnC wr base v (bv (up (l.take k))) ∧ ∃ g cap, v = .slice (some ⟨g, 0, none⟩) k cap)

theorem bv_ext (s : ByteArray) (k : Nat) (h : up (s.data.toList.take k) = s.data.toList.take k) : bv (up (s.data.toList.take k)) = (s.extract 0 k).data.toList.map fun b => .int .u8 (b.toNat : Int) := by
  rw [h, ByteArray.data_extract, Array.toList_extract]
  simp [bv]

theorem St.snoc (s : ByteArray) (k : Nat) (hlt : k < s.size) {w1 : World} {base g cap : Nat} {x : Int} (h : OwnC w1 base (.slice (some ⟨g, 0, none⟩) (k + 1) cap) (bv (up (s.data.toList.take k)) ++ [.int .u8 x])) (hx : x = ((upb s[k]).toNat : Int)) :
    OwnC w1 base (.slice (some ⟨g, 0, none⟩) (k + 1) cap) (bv (up (s.data.toList.take (k + 1)))) ∧ ∃ g' cap', (Value.slice (some ⟨g, 0, none⟩) (k + 1) cap) = .slice (some ⟨g', 0, none⟩) (k + 1) cap' := by
  refine ⟨?_, g, cap, rfl⟩
  rw [up_snoc s k hlt]
  subst hx
  simpa [bv] using h

set_option maxHeartbeats 1000000 in
set_option maxRecDepth 100000 in
theorem toUpper_any (s : ByteArray) (w : World) (hs : s.size ≤ 2147483648) :
    Calls Tryz.prog 81 #[.string s] w fun e w' => e = .returned (.string ⟨(up s.data.toList).toArray⟩) ∧ Below w.heap.size w w' := by
  obtain ⟨i0, hi, hz0, hz1, hz2⟩ := info_parts info5
  have hq1 := fun (wx : World) (a : Option Addr) (n c n' c' : Nat) => run_eq_nil (P := Tryz.prog) wx 44 5 a n c n' c' Tryz.underlying44
  have hq2 := fun (wx : World) (a : Option Addr) (n c n' c' : Nat) => run_neq_slice_nil_any (P := Tryz.prog) wx 44 5 a n c n' c' Tryz.underlying44
  have hq3 := fun (wx : World) (s : ByteArray) => run_bytes_of_string (P := Tryz.prog) wx 9 44 5 s Tryz.underlying9 Tryz.underlying44 Tryz.underlying5
  go_enter Tryz.func81, Tryz.ntmps81
  go_wp2
  go_loopw [3, 4] (fun v i wr => ∃ k : Nat, k ≤ s.size ∧ i = .int .i64 k ∧ St w.heap.size s.data.toList k v wr ∧ Below w.heap.size w wr)
    (fun _ i _ => s.size - (intOf i).toNat)
  case atStart => exact ⟨0, by omega, rfl, .inl ⟨rfl, rfl⟩, Below.refl _ _⟩
  case round =>
    obtain ⟨k, hk, rfl, hst, hbel⟩ := hrel
    by_cases hlt : k < s.size
    · rcases hst with ⟨rfl, hup⟩ | ⟨hown, g, cap, rfl⟩
      · by_cases hlo : 97 ≤ s[k].toNat ∧ s[k].toNat ≤ 122
        · obtain ⟨h1, h2⟩ := hlo
          have h1' : (97 : Int) ≤ (s[k].toNat : Int) := by omega
          have h2' : (s[k].toNat : Int) ≤ 122 := by omega
          have hup' := Lib.hid hup
          clear hup
          go_wp2_with (at_builtin; refine wpList_append_ownC _ rfl (.tmp 27) (.tmp 31) 44 rfl w.heap.size 5 i0 (.int .u8 0) 1 Tryz.underlying44 hi hz0 hz1 hz2 rfl _ k (bv (up (s.data.toList.take k))) rfl ?c0a ?c1a ⟨wr.heap.size + 1, 0, none⟩ 1 1 [.int .u8 (65 + ((s[k].toNat : Int) - 97))] rfl rfl (by decide) ?c2a (one_int _ _) ?c4a ?c5a ?c6a ?_)
          case c0a => rw [bv_len, up_len]; simp; omega
          case c1a => exact ((OwnC.bytes wr _ (s.extract 0 k) _ k _ _ (by simp; omega) (grownCap_ge _ _ _ _) (grownCap_le_maxLen _ _ _ _ (by unfold maxLen; omega)) hbel.size (bv_ext s k hup'.out)).alloc _).drew
          case c2a => exact fun j u hj => by rw [World.cell?_drew]; exact cell_one_at _ _ _ _ (by simp) j u hj
          case c4a => unfold maxLen; omega
          case c5a => omega
          case c6a => have := hbel.size; simp; omega
          intro g' cap' w1 hown hgrow _
          have hown2 := St.snoc s k hlt hown (upb_lo s[k] ⟨h1, h2⟩).symm
          have hbel2 : Below w.heap.size w w1 := by
            refine (((hbel.alloc hbel.size _).alloc (by have := hbel.size; simp; omega) _).drew).grown hgrow (by have := hbel.size; simp; omega) ?_
            intro r hr
            simp [Value.ownBlock] at hr
            subst hr; exact hbel.size
          clear hown hgrow hbel
          go_wp2
          go_roundw
          case rel => exact ⟨k + 1, by omega, by go_num, .inr hown2, hbel2⟩
          case measure => simp [intOf]; omega
        · have hup2 : up (s.data.toList.take (k + 1)) = s.data.toList.take (k + 1) := by
            rw [up_snoc s k hlt, hup, upb_no _ hlo, take_snoc s k hlt]
          have hup' := Lib.hid hup2
          clear hup hup2
          by_cases h1 : (97 : Int) ≤ (s[k].toNat : Int)
          · have h2 : (122 : Int) < (s[k].toNat : Int) := by omega
            go_wp2
            go_roundw
            case rel => exact ⟨k + 1, by omega, by go_num, .inl ⟨rfl, hup'⟩, hbel⟩
            case measure => simp [intOf]; omega
          · go_wp2
            go_roundw
            case rel => exact ⟨k + 1, by omega, by go_num, .inl ⟨rfl, hup'⟩, hbel⟩
            case measure => simp [intOf]; omega
      · by_cases hlo : 97 ≤ s[k].toNat ∧ s[k].toNat ≤ 122
        · obtain ⟨h1, h2⟩ := hlo
          have h1' : (97 : Int) ≤ (s[k].toNat : Int) := by omega
          have h2' : (s[k].toNat : Int) ≤ 122 := by omega
          go_wp2_with (at_builtin; refine wpList_append_ownC _ rfl (.tmp 27) (.tmp 31) 44 rfl w.heap.size 5 i0 (.int .u8 0) 1 Tryz.underlying44 hi hz0 hz1 hz2 rfl _ k (bv (up (s.data.toList.take k))) rfl ?c0b ?c1b ⟨wr.heap.size, 0, none⟩ 1 1 [.int .u8 (65 + ((s[k].toNat : Int) - 97))] rfl rfl (by decide) (cell_one_at _ _ _ _ rfl) (one_int _ _) ?c4b ?c5b ?c6b ?_)
          case c0b => rw [bv_len, up_len]; simp; omega
          case c1b => exact hown.alloc _
          case c4b => unfold maxLen; omega
          case c5b => omega
          case c6b => have := hbel.size; simp; omega
          intro g' cap' w1 hown1 hgrow _
          have hown2 := St.snoc s k hlt hown1 (upb_lo s[k] ⟨h1, h2⟩).symm
          have hbel2 : Below w.heap.size w w1 := (hbel.alloc hbel.size _).grown hgrow (by have := hbel.size; simp; omega) fun r hr => (hown.lt r hr).1
          clear hown1 hown hgrow hbel
          go_wp2
          go_roundw
          case rel => exact ⟨k + 1, by omega, by go_num, .inr hown2, hbel2⟩
          case measure => simp [intOf]; omega
        · by_cases h1 : (97 : Int) ≤ (s[k].toNat : Int)
          · have h2 : (122 : Int) < (s[k].toNat : Int) := by omega
            go_wp2_with (at_builtin; refine wpList_append_ownC _ rfl (.tmp 35) (.tmp 37) 44 rfl w.heap.size 5 i0 (.int .u8 0) 1 Tryz.underlying44 hi hz0 hz1 hz2 rfl _ k (bv (up (s.data.toList.take k))) rfl ?c0c ?c1c ⟨wr.heap.size, 0, none⟩ 1 1 [.int .u8 (s[k].toNat : Int)] rfl rfl (by decide) (cell_one_at _ _ _ _ rfl) (one_int _ _) ?c4c ?c5c ?c6c ?_)
            case c0c => rw [bv_len, up_len]; simp; omega
            case c1c => exact hown.alloc _
            case c4c => unfold maxLen; omega
            case c5c => omega
            case c6c => have := hbel.size; simp; omega
            intro g' cap' w1 hown1 hgrow _
            have hown2 := St.snoc s k hlt hown1 (congrArg (fun c : UInt8 => (c.toNat : Int)) (upb_no _ hlo)).symm
            have hbel2 : Below w.heap.size w w1 := (hbel.alloc hbel.size _).grown hgrow (by have := hbel.size; simp; omega) fun r hr => (hown.lt r hr).1
            clear hown1 hown hgrow hbel
            go_wp2
            go_roundw
            case rel => exact ⟨k + 1, by omega, by go_num, .inr hown2, hbel2⟩
            case measure => simp [intOf]; omega
          · go_wp2_with (at_builtin; refine wpList_append_ownC _ rfl (.tmp 35) (.tmp 37) 44 rfl w.heap.size 5 i0 (.int .u8 0) 1 Tryz.underlying44 hi hz0 hz1 hz2 rfl _ k (bv (up (s.data.toList.take k))) rfl ?c0d ?c1d ⟨wr.heap.size, 0, none⟩ 1 1 [.int .u8 (s[k].toNat : Int)] rfl rfl (by decide) (cell_one_at _ _ _ _ rfl) (one_int _ _) ?c4d ?c5d ?c6d ?_)
            case c0d => rw [bv_len, up_len]; simp; omega
            case c1d => exact hown.alloc _
            case c4d => unfold maxLen; omega
            case c5d => omega
            case c6d => have := hbel.size; simp; omega
            intro g' cap' w1 hown1 hgrow _
            have hown2 := St.snoc s k hlt hown1 (congrArg (fun c : UInt8 => (c.toNat : Int)) (upb_no _ hlo)).symm
            have hbel2 : Below w.heap.size w w1 := (hbel.alloc hbel.size _).grown hgrow (by have := hbel.size; simp; omega) fun r hr => (hown.lt r hr).1
            clear hown1 hown hgrow hbel
            go_wp2
            go_roundw
            case rel => exact ⟨k + 1, by omega, by go_num, .inr hown2, hbel2⟩
            case measure => simp [intOf]; omega
    · have hk2 : k = s.size := by omega
      have hall : s.data.toList.take k = s.data.toList := List.take_of_length_le (by rw [Array.length_toList, hk2]; exact Nat.le_refl _)
      rcases hst with ⟨rfl, hup⟩ | ⟨hown, g, cap, rfl⟩
      · rw [hall] at hup
        have hup' := Lib.hid hup
        clear hup hall
        go_wp2
        go_ret
        exact ⟨ret_str (by rw [hup'.out]), hbel⟩
      · rw [hall] at hown
        have hq4 := hown.text (P := Tryz.prog) 44 9 5 Tryz.underlying44 Tryz.underlying5 Tryz.underlying9
        clear hown hall hk2
        go_wp2
        go_ret
        exact ⟨rfl, hbel⟩

end Go.Proofs.YtngofbhlhcalpaaGreatDoor.upper

namespace Go.Proofs.YtngofbhlhcalpaaGreatDoor.upper
open Go.RowKit Go.Proofs.YtngofbhlhcalpaaGreatDoor.gen

def kwords : List (List UInt8) := [
  [65, 76, 76],
  [65, 78, 68],
  [65, 78, 89],
  [65, 82, 82, 65, 89],
  [65, 83],
  [65, 83, 67],
  [65, 83, 83, 69, 82, 84, 95, 82, 79, 87, 83, 95, 77, 79, 68, 73, 70, 73, 69, 68],
  [65, 84],
  [66, 69, 84, 87, 69, 69, 78],
  [66, 89],
  [67, 65, 83, 69],
  [67, 65, 83, 84],
  [67, 79, 76, 76, 65, 84, 69],
  [67, 79, 78, 84, 65, 73, 78, 83],
  [67, 82, 69, 65, 84, 69],
  [67, 82, 79, 83, 83],
  [67, 85, 66, 69],
  [67, 85, 82, 82, 69, 78, 84],
  [68, 69, 70, 65, 85, 76, 84],
  [68, 69, 70, 73, 78, 69],
  [68, 69, 83, 67],
  [68, 73, 83, 84, 73, 78, 67, 84],
  [69, 76, 83, 69],
  [69, 78, 68],
  [69, 78, 85, 77],
  [69, 83, 67, 65, 80, 69],
  [69, 88, 67, 69, 80, 84],
  [69, 88, 67, 76, 85, 68, 69],
  [69, 88, 73, 83, 84, 83],
  [69, 88, 84, 82, 65, 67, 84],
  [70, 65, 76, 83, 69],
  [70, 69, 84, 67, 72],
  [70, 79, 76, 76, 79, 87, 73, 78, 71],
  [70, 79, 82],
  [70, 82, 79, 77],
  [70, 85, 76, 76],
  [71, 82, 65, 80, 72, 95, 84, 65, 66, 76, 69],
  [71, 82, 79, 85, 80],
  [71, 82, 79, 85, 80, 73, 78, 71],
  [71, 82, 79, 85, 80, 83],
  [72, 65, 83, 72],
  [72, 65, 86, 73, 78, 71],
  [73, 71, 78, 79, 82, 69],
  [73, 70],
  [73, 78],
  [73, 78, 78, 69, 82],
  [73, 78, 84, 69, 82, 83, 69, 67, 84],
  [73, 78, 84, 69, 82, 86, 65, 76],
  [73, 78, 84, 79],
  [73, 83],
  [74, 79, 73, 78],
  [76, 65, 84, 69, 82, 65, 76],
  [76, 69, 70, 84],
  [76, 73, 75, 69],
  [76, 73, 77, 73, 84],
  [76, 79, 79, 75, 85, 80],
  [77, 69, 82, 71, 69],
  [78, 65, 84, 85, 82, 65, 76],
  [78, 69, 87],
  [78, 79],
  [78, 79, 84],
  [78, 85, 76, 76],
  [78, 85, 76, 76, 83],
  [79, 70],
  [79, 78],
  [79, 82],
  [79, 82, 68, 69, 82],
  [79, 85, 84, 69, 82],
  [79, 86, 69, 82],
  [80, 65, 82, 84, 73, 84, 73, 79, 78],
  [80, 82, 69, 67, 69, 68, 73, 78, 71],
  [80, 82, 79, 84, 79],
  [82, 65, 78, 71, 69],
  [82, 69, 67, 85, 82, 83, 73, 86, 69],
  [82, 69, 83, 80, 69, 67, 84],
  [82, 73, 71, 72, 84],
  [82, 79, 76, 76, 85, 80],
  [82, 79, 87, 83],
  [83, 69, 76, 69, 67, 84],
  [83, 69, 84],
  [83, 79, 77, 69],
  [83, 84, 82, 85, 67, 84],
  [84, 65, 66, 76, 69, 83, 65, 77, 80, 76, 69],
  [84, 72, 69, 78],
  [84, 79],
  [84, 82, 69, 65, 84],
  [84, 82, 85, 69],
  [85, 78, 66, 79, 85, 78, 68, 69, 68],
  [85, 78, 73, 79, 78],
  [85, 78, 78, 69, 83, 84],
  [85, 83, 73, 78, 71],
  [87, 72, 69, 78],
  [87, 72, 69, 82, 69],
  [87, 73, 78, 68, 79, 87],
  [87, 73, 84, 72],
  [87, 73, 84, 72, 73, 78]]
def isKw (l : List UInt8) : Bool := kwords.contains l

theorem kw_yes (s : ByteArray) (l : List UInt8) (h : (s.toList == l) = true) (hm : kwords.contains l = true) : isKw s.data.toList = true := by
  rw [← ByteArray.toList_eq, beq_iff_eq.1 h]; exact hm
theorem clash {b : Bool} {C : Prop} (h1 : b = true) (h2 : b = false) : C := by rw [h1] at h2; cases h2

set_option maxRecDepth 100000 in
set_option maxHeartbeats 4000000 in
theorem zzKeyword_any (s : ByteArray) (w : World) :
    Calls Tryz.prog 82 #[.string s] w fun e w' => e = .returned (.bool (isKw s.data.toList)) ∧ w = w' := by
  go_enter Tryz.func82, Tryz.ntmps82
  go_wp2
  all_goals first
    | (go_ret; exact ⟨ret_bool (kw_yes s _ (by assumption) (by decide)).symm, rfl⟩)
    | (go_ret; refine ⟨ret_bool ?_, rfl⟩; exact clash (b := s.toList == _) (by assumption) (by assumption))
    | (go_ret; refine ⟨ret_bool ?_, rfl⟩; rw [← ByteArray.toList_eq]; simp only [isKw, kwords, List.contains_cons, List.contains_nil, *, Bool.or_false]; done)
    | fail

end Go.Proofs.YtngofbhlhcalpaaGreatDoor.upper

namespace Go.Proofs.YtngofbhlhcalpaaGreatDoor.lexer
open Go.RowKit Go.Proofs.YtngofbhlhcalpaaGreatDoor.gen
open Go.Proofs.YtngofbhlhcalpaaGreatDoor.upper (up isKw)

/-- What a token is: its kind, its value, its base, how many bytes it has, and what it says of names behind a point. -/
structure Tk where
  kind : ByteArray
  text : ByteArray
  base : Int
  n : Nat
  dot : Option Bool

inductive Out where
  | ok (t : Tk)
  | bad (off : Nat)

def Out.shift (k : Nat) : Out → Out
  | .ok t => .ok { t with n := t.n + k }
  | .bad o => .bad (o + k)

def kBad : ByteArray := ⟨#[60, 98, 97, 100, 62]⟩
def kEof : ByteArray := ⟨#[60, 101, 111, 102, 62]⟩
def kIdent : ByteArray := ⟨#[60, 105, 100, 101, 110, 116, 62]⟩
def kParam : ByteArray := ⟨#[60, 112, 97, 114, 97, 109, 62]⟩
def kInt : ByteArray := ⟨#[60, 105, 110, 116, 62]⟩
def kFloat : ByteArray := ⟨#[60, 102, 108, 111, 97, 116, 62]⟩
def kString : ByteArray := ⟨#[60, 115, 116, 114, 105, 110, 103, 62]⟩
def kBytes : ByteArray := ⟨#[60, 98, 121, 116, 101, 115, 62]⟩
def kNone : ByteArray := ⟨#[]⟩

def plain (k : ByteArray) (n : Nat) : Tk := ⟨k, kNone, 0, n, none⟩

/-- A number. -/
def isHexNum : List UInt8 → Bool
  | c :: d :: _ => nn c == 48 && (nn d == 120 || nn d == 88)
  | _ => false

def num (l : List UInt8) : Out :=
  let N := if isHexNum l then 2 + (numU (l.drop 2) true true false).1 else (numU l false true false).1
  let I := if isHexNum l then true else (numU l false true false).2
  if idpHead (l.drop N) then .bad N else .ok ⟨if I then kInt else kFloat, kNone, if I then (if isHexNum l then 16 else 10) else 0, N, none⟩

/-- The value of a digit, hexadecimal ones too. -/
def dv (c : UInt8) : Nat := if c.toNat ≤ 57 then c.toNat - 48 else if 97 ≤ c.toNat then c.toNat - 87 else c.toNat - 55
def dvs (base : Nat) (l : List UInt8) : Nat := l.foldl (fun a c => a * base + dv c) 0
def hexN (n : Nat) (l : List UInt8) : Option Nat := if n ≤ l.length ∧ (l.take n).all (fun c => hx (nn c)) then some (dvs 16 (l.take n)) else none
def octN (n : Nat) (l : List UInt8) : Option Nat := if n ≤ l.length ∧ (l.take n).all (fun c => oc (nn c)) then some (dvs 8 (l.take n)) else none

/-- The bytes of a code point. -/
def u8s (u : Nat) : List UInt8 :=
  if u < 128 then [UInt8.ofNat u]
  else if u < 2048 then [UInt8.ofNat (192 + u / 64), UInt8.ofNat (128 + u % 64)]
  else if u < 65536 then [UInt8.ofNat (224 + u / 4096), UInt8.ofNat (128 + u / 64 % 64), UInt8.ofNat (128 + u % 64)]
  else [UInt8.ofNat (240 + u / 262144), UInt8.ofNat (128 + u / 4096 % 64), UInt8.ofNat (128 + u / 64 % 64), UInt8.ofNat (128 + u % 64)]

def scalar (u : Nat) : Bool := decide (u < 55296) || (decide (57344 ≤ u) && decide (u ≤ 1114111))

/-- The one byte that a letter behind a backslash means. -/
def simple (c : UInt8) : Option UInt8 :=
  if nn c == 97 then some 7 else if nn c == 98 then some 8 else if nn c == 102 then some 12 else if nn c == 110 then some 10
  else if nn c == 114 then some 13 else if nn c == 116 then some 9 else if nn c == 118 then some 11
  else if nn c == 92 || nn c == 63 || nn c == 34 || nn c == 39 || nn c == 96 then some c else none

/-- What stands behind a backslash: the bytes that it means, and how many bytes the escape has, the backslash too. -/
def esc (uni : Bool) : List UInt8 → Option (List UInt8 × Nat)
  | [] => none
  | c :: r =>
    match simple c with
    | some b => some ([b], 2)
    | none =>
      if nn c == 120 || nn c == 88 then (hexN 2 r).map fun u => ([UInt8.ofNat u], 4)
      else if nn c == 117 then if uni then (hexN 4 r).bind fun u => if scalar u then some (u8s u, 6) else none else none
      else if nn c == 85 then if uni then (hexN 8 r).bind fun u => if scalar u then some (u8s u, 10) else none else none
      else if nn c == 48 || nn c == 49 || nn c == 50 || nn c == 51 then (octN 2 r).map fun u => ([UInt8.ofNat (dv c * 64 + u)], 4)
      else none

inductive QEnd where
  | closed | unclosed | newline | escape
deriving DecidableEq

/-- A quoted content from here on: its bytes, how many bytes are read, and how it ends. -/
def qr (q : List UInt8) (raw uni : Bool) (l : List UInt8) : List UInt8 × Nat × QEnd :=
  match l with
  | [] => ([], 0, .unclosed)
  | c :: r =>
    if (c :: r).take q.length == q then ([], 0, .closed)
    else if nn c == 92 then
      if raw then
        match r with
        | [] => ([], 0, .escape)
        | d :: r2 => ((c :: d :: (qr q raw uni r2).1), (qr q raw uni r2).2.1 + 2, (qr q raw uni r2).2.2)
      else
        match esc uni r with
        | none => ([], 0, .escape)
        | some (bs, n) => (bs ++ (qr q raw uni (r.drop (n - 1))).1, (qr q raw uni (r.drop (n - 1))).2.1 + n, (qr q raw uni (r.drop (n - 1))).2.2)
    else if nn c == 10 && q.length != 3 then ([], 0, .newline)
    else (c :: (qr q raw uni r).1, (qr q raw uni r).2.1 + 1, (qr q raw uni r).2.2)
termination_by l.length
decreasing_by all_goals (simp [List.length_drop]; try omega)

/-- A quoted token; the text begins with its quotation mark. -/
def qtok (q : List UInt8) (raw uni ident : Bool) (kind : ByteArray) (l : List UInt8) : Out :=
  match qr q raw uni (l.drop q.length) with
  | (bs, n, .closed) => if ident && bs.isEmpty then .bad 0 else .ok ⟨kind, ⟨bs.toArray⟩, 0, q.length + n + q.length, none⟩
  | (_, _, .unclosed) => .bad 0
  | (_, _, .newline) => .bad 0
  | (_, n, .escape) => .bad (q.length + n)

def delim : List UInt8 → List UInt8
  | c :: d :: e :: _ => if nn c == nn d && nn c == nn e then [c, c, c] else [c]
  | c :: _ => [c]
  | [] => []

/-- The letters ahead of a quotation mark: how many, whether bytes, whether raw. -/
def pre : Nat → Bool → Bool → List UInt8 → Option (Nat × Bool × Bool)
  | 0, _, _, _ => none
  | _ + 1, _, _, [] => none
  | f + 1, b, r, c :: t =>
    if !b && (nn c == 66 || nn c == 98) then (pre f true r t).map fun x => (x.1 + 1, x.2)
    else if !r && (nn c == 82 || nn c == 114) then (pre f b true t).map fun x => (x.1 + 1, x.2)
    else if nn c == 34 || nn c == 39 then some (0, b, r)
    else none

def single (c : Int) : Bool :=
  c == 40 || c == 41 || c == 123 || c == 125 || c == 59 || c == 44 || c == 91 || c == 93 || c == 126 || c == 42 || c == 47 || c == 38 || c == 94 || c == 37 || c == 58 || c == 63 || c == 92 || c == 36

/-- The signs that stand for something together. -/
def two (c d : Int) : Bool :=
  (c == 60 && (d == 60 || d == 61 || d == 62)) || (c == 62 && (d == 62 || d == 61)) || (c == 43 && d == 61) || (c == 45 && (d == 61 || d == 62)) ||
    (c == 61 && d == 62) || (c == 124 && (d == 62 || d == 124)) || (c == 33 && d == 61) || (c == 64 && d == 64)

def sign (c : Int) : Bool := c == 60 || c == 62 || c == 43 || c == 45 || c == 61 || c == 124 || c == 33 || c == 64

def twoHead (c : UInt8) : List UInt8 → Option UInt8
  | d :: _ => if two (nn c) (nn d) then some d else none
  | [] => none

def idsHead : List UInt8 → Bool
  | [] => false
  | c :: _ => ids (nn c)

/-- Behind these kinds a point is followed by a name. -/
def dotted (k : ByteArray) : Bool := k.data.toList == kIdent.data.toList || k.data.toList == kParam.data.toList || k.data.toList == [41] || k.data.toList == [93]

def word (l : List UInt8) : Out :=
  let t := l.take (idLen l)
  if isKw (up t) then .ok (plain ⟨(up t).toArray⟩ (idLen l)) else .ok ⟨kIdent, ⟨t.toArray⟩, 0, idLen l, none⟩

def tok (last : ByteArray) : List UInt8 → Out
  | [] => .ok (plain kEof 0)
  | c :: r =>
    if single (nn c) then .ok (plain ⟨#[c]⟩ 1)
    else if nn c == 46 then if !dotted last && dgHead r then num (c :: r) else .ok ⟨⟨#[46]⟩, kNone, 0, 1, some (dotted last)⟩
    else if sign (nn c) then
      match twoHead c r with
      | some d => .ok (plain ⟨#[c, d]⟩ 2)
      | none => if nn c == 64 && idsHead r then .ok ⟨kParam, ⟨(r.take (idLen r)).toArray⟩, 0, 1 + idLen r, none⟩ else .ok (plain ⟨#[c]⟩ 1)
    else if nn c == 96 then qtok [96] false true true kIdent (c :: r)
    else if dg (nn c) then num (c :: r)
    else
      match pre 3 false false (c :: r) with
      | some (i, b, w) => (qtok (delim ((c :: r).drop i)) w (!b) false (if b then kBytes else kString) ((c :: r).drop i)).shift i
      | none => if ids (nn c) then word (c :: r) else .bad 0

/-- The token, where a name may follow a point. -/
def ftok (last : ByteArray) (l : List UInt8) : Out :=
  if idpHead l then .ok ⟨kIdent, ⟨(l.take (idLen l)).toArray⟩, 0, idLen l, none⟩ else tok last l

end Go.Proofs.YtngofbhlhcalpaaGreatDoor.lexer

namespace Go.Proofs.YtngofbhlhcalpaaGreatDoor.lexer
open Go.RowKit Go.Proofs.YtngofbhlhcalpaaGreatDoor.gen
open Go.Lib (headSpace)

theorem headSpace_le (l : List UInt8) : headSpace l ≤ l.length := by
  unfold headSpace
  cases h : Go.Lib.spaceSeqs.find? (·.isPrefixOf l) with
  | none => exact Nat.zero_le _
  | some t =>
    have h1 := List.find?_some h
    have h2 : t <+: l := List.isPrefixOf_iff_prefix.1 h1
    exact h2.length_le

/-- How many bytes of blanks stand at the beginning. -/
def spc (l : List UInt8) : Nat := if _h : headSpace l = 0 then 0 else headSpace l + spc (l.drop (headSpace l))
termination_by l.length
decreasing_by
  have := headSpace_le l
  rw [List.length_drop]; omega

/-- Up to the line's end, and with it. -/
def lineLen : List UInt8 → Nat
  | [] => 0
  | c :: r => if nn c == 10 then 1 else lineLen r + 1

def headIs (k : Int) : List UInt8 → Bool
  | [] => false
  | c :: _ => nn c == k

/-- Up to the comment's end, and with it. -/
def blockEnd : List UInt8 → Option Nat
  | [] => none
  | c :: r => if nn c == 42 && headIs 47 r then some 2 else (blockEnd r).map (· + 1)

inductive Cm where
  | no
  | ok (n : Nat)
  | opened

def com : List UInt8 → Cm
  | [] => .no
  | c :: r =>
    if nn c == 35 || (nn c == 45 && headIs 45 r) then .ok (lineLen (c :: r))
    else if nn c == 47 && headIs 42 r then
      match blockEnd (c :: r) with
      | some n => .ok n
      | none => .opened
    else .no

theorem lineLen_le (l : List UInt8) : lineLen l ≤ l.length := by
  induction l with
  | nil => exact Nat.le_refl _
  | cons c r ih => unfold lineLen; split <;> simp <;> omega
theorem lineLen_pos (c : UInt8) (r : List UInt8) : 0 < lineLen (c :: r) := by unfold lineLen; split <;> omega
theorem headIs_len {k : Int} {l : List UInt8} (h : headIs k l = true) : 0 < l.length := by cases l with
  | nil => cases h
  | cons c r => simp
theorem blockEnd_le : ∀ (l : List UInt8) (n : Nat), blockEnd l = some n → 0 < n ∧ n ≤ l.length := by
  intro l
  induction l with
  | nil => intro n h; cases h
  | cons c r ih =>
    intro n h
    unfold blockEnd at h
    split at h
    · rename_i hc
      simp only [Bool.and_eq_true] at hc
      have := headIs_len hc.2
      cases h; simp; omega
    · cases hb : blockEnd r with
      | none => rw [hb] at h; cases h
      | some m =>
        rw [hb] at h
        have := ih m hb
        cases h
        simp; omega

theorem com_le (l : List UInt8) (n : Nat) (h : com l = .ok n) : 0 < n ∧ n ≤ l.length := by
  cases l with
  | nil => cases h
  | cons c r =>
    simp only [com] at h
    split at h
    · cases h; exact ⟨lineLen_pos c r, lineLen_le _⟩
    · split at h
      · cases hb : blockEnd (c :: r) with
        | none => rw [hb] at h; cases h
        | some m => rw [hb] at h; cases h; exact blockEnd_le _ _ hb
      · cases h

/-- What stands ahead of a token: the comments, each with the length of the blanks ahead of it and its own; the blanks behind the last one; whether a comment is open there. -/
def gap (l : List UInt8) : List (Nat × Nat) × Nat × Bool :=
  match _h : com (l.drop (spc l)) with
  | .no => ([], spc l, false)
  | .opened => ([], spc l, true)
  | .ok n => ((spc l, n) :: (gap (l.drop (spc l + n))).1, (gap (l.drop (spc l + n))).2.1, (gap (l.drop (spc l + n))).2.2)
termination_by l.length
decreasing_by
  all_goals
    have := com_le _ _ _h
    rw [List.length_drop] at *
    omega

theorem gap_no (l : List UInt8) (h : com (l.drop (spc l)) = .no) : gap l = ([], spc l, false) := by
  rw [gap.eq_def]; split <;> simp_all
theorem gap_opened (l : List UInt8) (h : com (l.drop (spc l)) = .opened) : gap l = ([], spc l, true) := by
  rw [gap.eq_def]; split <;> simp_all
theorem gap_ok (l : List UInt8) (n : Nat) (h : com (l.drop (spc l)) = .ok n) :
    gap l = ((spc l, n) :: (gap (l.drop (spc l + n))).1, (gap (l.drop (spc l + n))).2.1, (gap (l.drop (spc l + n))).2.2) := by
  rw [gap.eq_def]; split <;> simp_all

def comsLen : List (Nat × Nat) → Nat
  | [] => 0
  | c :: r => c.1 + c.2 + comsLen r
def gapLen (g : List (Nat × Nat) × Nat × Bool) : Nat := comsLen g.1 + g.2.1

theorem spc_le (l : List UInt8) : spc l ≤ l.length := by
  have key : ∀ (n : Nat) (l : List UInt8), l.length ≤ n → spc l ≤ l.length := by
    intro n
    induction n with
    | zero =>
      intro l h
      have hl : l = [] := List.eq_nil_of_length_eq_zero (by omega)
      subst hl
      rw [spc.eq_def]
      split
      · exact Nat.le_refl _
      · rename_i h0; exact absurd (Nat.le_zero.1 (headSpace_le [])) h0
    | succ n ih =>
      intro l h
      rw [spc.eq_def]
      split
      · exact Nat.zero_le _
      · rename_i h0
        have h1 := headSpace_le l
        have := ih (l.drop (headSpace l)) (by rw [List.length_drop]; omega)
        rw [List.length_drop] at this
        omega
  exact key _ _ (Nat.le_refl _)

theorem gap_le (l : List UInt8) : gapLen (gap l) ≤ l.length := by
  have key : ∀ (n : Nat) (l : List UInt8), l.length ≤ n → gapLen (gap l) ≤ l.length := by
    intro n
    induction n with
    | zero =>
      intro l h
      have h1 := spc_le l
      have hl : l = [] := List.eq_nil_of_length_eq_zero (by omega)
      subst hl
      rw [gap_no [] (by simp [com])]
      simpa [gapLen, comsLen] using h1
    | succ n ih =>
      intro l h
      have h1 := spc_le l
      cases hc : com (l.drop (spc l)) with
      | no => rw [gap_no l hc]; simpa [gapLen, comsLen] using h1
      | opened => rw [gap_opened l hc]; simpa [gapLen, comsLen] using h1
      | ok m =>
        rw [gap_ok l m hc]
        have h2 := com_le _ _ hc
        rw [List.length_drop] at h2
        have := ih (l.drop (spc l + m)) (by rw [List.length_drop]; omega)
        rw [List.length_drop] at this
        simp only [gapLen, comsLen] at this ⊢
        omega
  exact key _ _ (Nat.le_refl _)

/-- A token with what stands ahead of it: the comments, the blanks, the token. -/
structure Nt where
  coms : List (Nat × Nat)
  space : Nat
  tk : Tk

inductive Nx where
  | ok (t : Nt)
  | bad (off : Nat)

def tokD (last : ByteArray) (dot : Bool) (l : List UInt8) : Out := if dot then ftok last l else tok last l
def dotOf (dot : Bool) (t : Tk) : Bool := if dot then false else t.dot.getD false

def Nt.pre (t : Nt) : Nat := comsLen t.coms + t.space
def Nt.len (t : Nt) : Nat := t.pre + t.tk.n

def next (last : ByteArray) (dot : Bool) (l : List UInt8) : Nx :=
  let g := gap l
  if g.2.2 then .bad (gapLen g)
  else match tokD last dot (l.drop (gapLen g)) with
    | .ok t => .ok ⟨g.1, g.2.1, t⟩
    | .bad o => .bad (gapLen g + o)

/-- All tokens of a text, each with its place (of what stands ahead of it); where the fault is, if there is one. -/
def lexL (last : ByteArray) (dot : Bool) (l : List UInt8) (p : Nat) : List (Nat × Nt) × Option Nat :=
  match next last dot l with
  | .bad o => ([], some (p + o))
  | .ok t =>
    if _h : t.tk.kind.data.toList = kEof.data.toList ∨ t.len = 0 ∨ l.length < t.len then ([(p, t)], none)
    else ((p, t) :: (lexL t.tk.kind (dotOf dot t.tk) (l.drop t.len) (p + t.len)).1, (lexL t.tk.kind (dotOf dot t.tk) (l.drop t.len) (p + t.len)).2)
termination_by l.length
decreasing_by
  all_goals
    rw [not_or, not_or] at _h
    rw [List.length_drop]
    omega

end Go.Proofs.YtngofbhlhcalpaaGreatDoor.lexer

namespace Go.Proofs.YtngofbhlhcalpaaGreatDoor.lexer
open Go.RowKit Go.Proofs.YtngofbhlhcalpaaGreatDoor.gen

/-- A comment: the blanks ahead, the comment, its place, its end. -/
structure PC where
  space : ByteArray
  raw : ByteArray
  pos : Nat
  en : Nat

def comsAt (s : ByteArray) : Nat → List (Nat × Nat) → List PC
  | _, [] => []
  | p, c :: r => ⟨s.extract p (p + c.1), s.extract (p + c.1) (p + c.1 + c.2), p + c.1, p + c.1 + c.2⟩ :: comsAt s (p + c.1 + c.2) r

def PC.cells (c : PC) : List Value := [.string c.space, .string c.raw, .int .i64 (c.pos : Int), .int .i64 (c.en : Int)]
def tcs (l : List PC) : List Value := l.flatMap PC.cells

theorem tcs_len (l : List PC) : (tcs l).length = l.length * 4 := by
  induction l with
  | nil => rfl
  | cons c r ih =>
    have : tcs (c :: r) = c.cells ++ tcs r := rfl
    rw [this, List.length_append, ih]
    show 4 + _ = (r.length + 1) * 4
    omega
theorem tcs_snoc (l : List PC) (c : PC) : tcs (l ++ [c]) = tcs l ++ c.cells := by simp [tcs]

/-- The comments that a slice holds. -/
def ComAt (w : World) (base : Nat) (v : Value) (l : List PC) : Prop := w.ownsRow base 83 4 v l.length (tcs l)

theorem ComAt.frm {w w' : World} {base : Nat} {v : Value} {l : List PC} {S : List Nat} (h : ComAt w base v l) (hf : Frm w w' S) (hS : ∀ x, x ∈ S → x < base) : ComAt w' base v l := by
  refine ⟨h.1, ?_⟩
  rcases h.2 with h2 | ⟨g, cap, cur, h1, h2, h3, h4, h5, h6, h7⟩
  · exact .inl h2
  · have hlt : g < w.heap.size := block_lt h3
    have := hf.block g hlt (fun hm => by have := hS g hm; omega)
    exact .inr ⟨g, cap, cur, h1, h2, this.trans h3, h4, h5, h6, h7⟩

end Go.Proofs.YtngofbhlhcalpaaGreatDoor.lexer

namespace Go.Proofs.YtngofbhlhcalpaaGreatDoor.lexer
open Go.RowKit Go.Proofs.YtngofbhlhcalpaaGreatDoor.gen

/-- A token as plain data. -/
structure IT where
  kind : ByteArray
  space : ByteArray
  raw : ByteArray
  text : ByteArray
  base : Int
  pos : Int
  en : Int
  coms : List PC

def IT.cells (t : IT) (cv : Value) : List Value := [.string t.kind, .string t.space, .string t.raw, .string t.text, .int .i64 t.base, .int .i64 t.pos, .int .i64 t.en, cv]
def IT.agg (t : IT) (cv : Value) : Value := .agg (t.cells cv).toArray

/-- The comments that a slice of plain data holds. -/
def ComI (w : World) (base : Nat) (v : Value) (l : List PC) : Prop := w.ownsRow base 67 4 v l.length (tcs l)

theorem ComI.frm {w w' : World} {base : Nat} {v : Value} {l : List PC} {S : List Nat} (h : ComI w base v l) (hf : Frm w w' S) (hS : ∀ x, x ∈ S → x < base) : ComI w' base v l := by
  refine ⟨h.1, ?_⟩
  rcases h.2 with h2 | ⟨g, cap, cur, h1, h2, h3, h4, h5, h6, h7⟩
  · exact .inl h2
  · have hlt : g < w.heap.size := block_lt h3
    have := hf.block g hlt (fun hm => by have := hS g hm; omega)
    exact .inr ⟨g, cap, cur, h1, h2, this.trans h3, h4, h5, h6, h7⟩
theorem ComI.le {w : World} {base base' : Nat} {v : Value} {l : List PC} (h : ComI w base v l) (hb : base' ≤ base) : ComI w base' v l := by
  refine ⟨h.1, ?_⟩
  rcases h.2 with h2 | ⟨g, cap, cur, h1, h2, h3⟩
  · exact .inl h2
  · exact .inr ⟨g, cap, cur, h1, Nat.le_trans hb h2, h3⟩

theorem tcs_at : ∀ (l : List PC) (k : Nat) (c : PC), l[k]? = some c → ∀ j, j < 4 → (tcs l)[k * 4 + j]? = c.cells[j]? := by
  intro l
  induction l with
  | nil => intro k c h; simp at h
  | cons d l ih =>
    intro k c h j hj
    have e : tcs (d :: l) = d.cells ++ tcs l := rfl
    have hl : d.cells.length = 4 := rfl
    cases k with
    | zero =>
      simp only [List.getElem?_cons_zero, Option.some.injEq] at h
      subst h
      rw [e, List.getElem?_append_left (by omega)]
      simp
    | succ k =>
      simp only [List.getElem?_cons_succ] at h
      rw [e, List.getElem?_append_right (by omega), hl, show (k + 1) * 4 + j - 4 = k * 4 + j from by omega]
      exact ih k c h j hj

theorem ComAt.at_ {w : World} {base g n cap : Nat} {l : List PC} (h : ComAt w base (.slice (some ⟨g, 0, none⟩) n cap) l) (k : Nat) (c : PC) (hk : l[k]? = some c) :
    w.cell? ⟨g, k * 4, none⟩ = some (.string c.space) ∧ w.cell? ⟨g, k * 4 + 1, none⟩ = some (.string c.raw) ∧ w.cell? ⟨g, k * 4 + 2, none⟩ = some (.int .i64 (c.pos : Int)) ∧ w.cell? ⟨g, k * 4 + 3, none⟩ = some (.int .i64 (c.en : Int)) := by
  have hn : n = l.length := by
    rcases h.2 with ⟨h1, _⟩ | ⟨g', cap', cur, h1, _⟩
    · cases h1
    · cases h1; rfl
  subst hn
  have hlt : k < l.length := (List.getElem?_eq_some_iff.1 hk).1
  refine ⟨?_, ?_, ?_, ?_⟩
  · rw [h.cellAt (k * 4) (by omega)]; exact tcs_at l k c hk 0 (by omega)
  · rw [h.cellAt (k * 4 + 1) (by omega)]; exact tcs_at l k c hk 1 (by omega)
  · rw [h.cellAt (k * 4 + 2) (by omega)]; exact tcs_at l k c hk 2 (by omega)
  · rw [h.cellAt (k * 4 + 3) (by omega)]; exact tcs_at l k c hk 3 (by omega)

theorem infoIC : (Tryz.prog.info? 67).map (fun i => (i.zero, i.size, i.bytes)) = some (some (.agg #[.string ⟨#[]⟩, .string ⟨#[]⟩, .int .i64 0, .int .i64 0]), 4, 48) := by kernel_rfl

def zeroIT : List Value := [.string ⟨#[]⟩, .string ⟨#[]⟩, .string ⟨#[]⟩, .string ⟨#[]⟩, .int .i64 0, .int .i64 0, .int .i64 0, .slice none 0 0]

/-- k comments are handed on. -/
structure TI (w : World) (t : IT) (k : Nat) (cv : Value) (wr : World) : Prop where
  x : wr.heap[w.heap.size + 1 + 1]? = some (.cells (t.cells cv).toArray 30 (0, 0))
  r : wr.heap[w.heap.size + 1]? = some (.cells zeroIT.toArray 30 (0, 0))
  own : ComI wr (w.heap.size + 1 + 1 + 1) cv (t.coms.take k)
  bel : Below w.heap.size w wr
  size : w.heap.size + 1 + 1 + 1 ≤ wr.heap.size

theorem TI.start (w : World) (t : IT) (o : Obj) : TI w t 0 (.slice none 0 0) (((w.alloc o).alloc (.cells zeroIT.toArray 30)).alloc (.cells (t.cells (.slice none 0 0)).toArray 30)) := by
  have e1 : (w.alloc o).heap.size = w.heap.size + 1 := by show (w.heap.push _).size = _; rw [Array.size_push]
  have e2 : ((w.alloc o).alloc (.cells zeroIT.toArray 30)).heap.size = w.heap.size + 1 + 1 := by show ((w.alloc o).heap.push _).size = _; rw [Array.size_push, e1]
  refine ⟨?_, ?_, World.ownsRow_nil _ _ _ _, (((Below.refl _ _).alloc (Nat.le_refl _) _).alloc (by omega) _).alloc (by omega) _, ?_⟩
  · have := heap_alloc_new ((w.alloc o).alloc (.cells zeroIT.toArray 30)) (.cells (t.cells (.slice none 0 0)).toArray 30)
    rw [e2] at this
    exact this
  · have := heap_alloc_new (w.alloc o) (.cells zeroIT.toArray 30)
    rw [e1] at this
    exact (Below.heap_alloc _ _ _ (by omega)).trans this
  · show _ ≤ (((w.alloc o).alloc _).heap.push _).size
    rw [Array.size_push, e2]; exact Nat.le_refl _

theorem TI.on {w wr w5 : World} {t : IT} {k : Nat} {cv v' : Value} {c : PC} {o1 o2 : Obj} (h : TI w t k cv wr) (hc : t.coms[k]? = some c) (hg : ((wr.alloc o1).alloc o2).grownBy w5 cv.ownBlock)
    (hown : w5.ownsRow (w.heap.size + 1 + 1 + 1) 67 4 v' (k + 1) (tcs (t.coms.take k) ++ c.cells)) :
    w5.heap[w.heap.size + 1 + 1]? = some (.cells (t.cells cv).toArray 30 (0, 0)) ∧ TI w t (k + 1) v' (w5.setCell ⟨w.heap.size + 1 + 1, 7, none⟩ v') := by
  have hne : ∀ b, b < w.heap.size + 1 + 1 + 1 → w5.heap[b]? = wr.heap[b]? := fun b hb => by
    have hs := h.size
    have e1 : (wr.alloc o1).heap.size = wr.heap.size + 1 := by show (wr.heap.push _).size = _; rw [Array.size_push]
    have h1 := hg.block b (by show b < ((wr.alloc o1).heap.push _).size; rw [Array.size_push, e1]; omega) (fun e => by have := (h.own.lt b e.symm).1; omega)
    exact h1.trans ((Below.heap_alloc _ _ b (by omega)).trans (Below.heap_alloc _ _ b (by omega)))
  have hx := (hne _ (by omega)).trans h.x
  have hlt : k < t.coms.length := (List.getElem?_eq_some_iff.1 hc).1
  have htk : t.coms.take (k + 1) = t.coms.take k ++ [c] := by
    rw [List.take_add_one, hc]; rfl
  have hF5 : Frm w w5 [] := by
    have h1 : Frm wr ((wr.alloc o1).alloc o2) [] := ((Frm.refl wr []).alloc o1).alloc o2
    refine (((Frm.ofBelow h.bel []).step h1)).trans (Frm.grown (S := cv.ownBlock.toList) hg (fun b hb => .inl (by rw [hb]; simp))) (fun y hy => ?_)
    right
    cases hv : cv.ownBlock with
    | none => rw [hv] at hy; simp at hy
    | some b => rw [hv] at hy; have : y = b := by simpa using hy
                subst this; have := (h.own.lt y hv).1; omega
  refine ⟨hx, ?_, ?_, ?_, ?_, ?_⟩
  · have := block_set hx (i := 7) v'
    exact this
  · rw [Below.heap_setCell _ _ _ _ (by show w.heap.size + 1 ≠ w.heap.size + 1 + 1; omega)]
    exact (hne _ (by omega)).trans h.r
  · have h1 : ComI w5 (w.heap.size + 1 + 1 + 1) v' (t.coms.take (k + 1)) := by
      unfold ComI
      rw [htk, List.length_append, tcs_snoc, List.length_take, Nat.min_eq_left (by omega)]
      exact hown
    exact h1.frm ((Frm.refl w5 [w.heap.size + 1 + 1]).setCell ⟨w.heap.size + 1 + 1, 7, none⟩ v' (.inl (by simp))) (by intro x hx; simp at hx; omega)
  · exact (hF5.setCell ⟨w.heap.size + 1 + 1, 7, none⟩ v' (.inr (by show w.heap.size ≤ w.heap.size + 1 + 1; omega))).below
  · have h1 := hg.size
    have h2 : ((wr.alloc o1).alloc o2).heap.size = wr.heap.size + 1 + 1 := by show ((wr.heap.push _).push _).size = _; rw [Array.size_push, Array.size_push]
    have h3 := h.size
    have h4 : (w5.setCell ⟨w.heap.size + 1 + 1, 7, none⟩ v').heap.size = w5.heap.size := by simp
    rw [h4]; omega

theorem TI.done {w wr : World} {t : IT} {k : Nat} {cv : Value} (h : TI w t k cv wr) (hk : k = t.coms.length) :
    ((((((((wr.setCell ⟨w.heap.size + 1, 0, none⟩ (.string t.kind)).setCell ⟨w.heap.size + 1, 1, none⟩ (.string t.space)).setCell ⟨w.heap.size + 1, 2, none⟩ (.string t.raw)).setCell ⟨w.heap.size + 1, 3, none⟩ (.string t.text)).setCell ⟨w.heap.size + 1, 4, none⟩ (.int .i64 t.base)).setCell ⟨w.heap.size + 1, 5, none⟩ (.int .i64 t.pos)).setCell ⟨w.heap.size + 1, 6, none⟩ (.int .i64 t.en)).setCell ⟨w.heap.size + 1, 7, none⟩ cv).heap[w.heap.size + 1]? = some (.cells (t.cells cv).toArray 30 (0, 0)) ∧ ComI ((((((((wr.setCell ⟨w.heap.size + 1, 0, none⟩ (.string t.kind)).setCell ⟨w.heap.size + 1, 1, none⟩ (.string t.space)).setCell ⟨w.heap.size + 1, 2, none⟩ (.string t.raw)).setCell ⟨w.heap.size + 1, 3, none⟩ (.string t.text)).setCell ⟨w.heap.size + 1, 4, none⟩ (.int .i64 t.base)).setCell ⟨w.heap.size + 1, 5, none⟩ (.int .i64 t.pos)).setCell ⟨w.heap.size + 1, 6, none⟩ (.int .i64 t.en)).setCell ⟨w.heap.size + 1, 7, none⟩ cv) w.heap.size cv t.coms ∧ Below w.heap.size w ((((((((wr.setCell ⟨w.heap.size + 1, 0, none⟩ (.string t.kind)).setCell ⟨w.heap.size + 1, 1, none⟩ (.string t.space)).setCell ⟨w.heap.size + 1, 2, none⟩ (.string t.raw)).setCell ⟨w.heap.size + 1, 3, none⟩ (.string t.text)).setCell ⟨w.heap.size + 1, 4, none⟩ (.int .i64 t.base)).setCell ⟨w.heap.size + 1, 5, none⟩ (.int .i64 t.pos)).setCell ⟨w.heap.size + 1, 6, none⟩ (.int .i64 t.en)).setCell ⟨w.heap.size + 1, 7, none⟩ cv) := by
  subst hk
  have hF : Frm wr ((((((((wr.setCell ⟨w.heap.size + 1, 0, none⟩ (.string t.kind)).setCell ⟨w.heap.size + 1, 1, none⟩ (.string t.space)).setCell ⟨w.heap.size + 1, 2, none⟩ (.string t.raw)).setCell ⟨w.heap.size + 1, 3, none⟩ (.string t.text)).setCell ⟨w.heap.size + 1, 4, none⟩ (.int .i64 t.base)).setCell ⟨w.heap.size + 1, 5, none⟩ (.int .i64 t.pos)).setCell ⟨w.heap.size + 1, 6, none⟩ (.int .i64 t.en)).setCell ⟨w.heap.size + 1, 7, none⟩ cv) [w.heap.size + 1] := by
    repeat (refine Frm.setCell ?_ _ _ (.inl (by simp)))
    exact Frm.refl wr [w.heap.size + 1]
  refine ⟨?_, ?_, ?_⟩
  · have b := (block_set (block_set (block_set (block_set (block_set (block_set (block_set (block_set h.r (i := 0) (.string t.kind)) (i := 1) (.string t.space)) (i := 2) (.string t.raw)) (i := 3) (.string t.text)) (i := 4) (.int .i64 t.base)) (i := 5) (.int .i64 t.pos)) (i := 6) (.int .i64 t.en)) (i := 7) cv)
    simp only [zeroIT, List.setIfInBounds_toArray, List.set_cons_zero, List.set_cons_succ] at b
    exact b
  · have h1 := h.own
    rw [List.take_length] at h1
    exact (h1.frm hF (by intro x hx; simp at hx; omega)).le (by omega)
  · exact ((Frm.ofBelow h.bel []).trans hF (fun x hx => by right; simp at hx; omega)).below

def TofRes (t : IT) (w : World) (e : Ending) (w' : World) : Prop :=
  ∃ cv, e = .returned (t.agg cv) ∧ ComI w' w.heap.size cv t.coms ∧ Below w.heap.size w w'

set_option maxRecDepth 100000 in
set_option maxHeartbeats 4000000 in
theorem tokenOf_some (t : IT) (g n cap : Nat) (base : Nat) (w : World) (hn : n = t.coms.length) (hc : ComAt w base (.slice (some ⟨g, 0, none⟩) n cap) t.coms) (hlen : t.coms.length ≤ 1048576) :
    Calls Tryz.prog 29 #[.agg #[.string t.kind, .slice (some ⟨g, 0, none⟩) n cap, .string t.space, .string t.raw, .string t.text, .int .i64 t.base, .int .i64 t.pos, .int .i64 t.en]] w (TofRes t w) := by
  obtain ⟨i0, hi0, hz0, hz1, hz2⟩ := info_parts infoIC
  have HC := Lib.hid hc
  have HN := Lib.hid hn
  have HS := Lib.hid (TI.start w t (.cells #[.string t.kind, (.slice (some ⟨g, 0, none⟩) n cap : Value), .string t.space, .string t.raw, .string t.text, .int .i64 t.base, .int .i64 t.pos, .int .i64 t.en] 61))
  have hln : n ≤ 1048576 := by omega
  clear hc hn hlen
  go_enter Tryz.func29, Tryz.ntmps29
  go_wp2_with fail
  go_loopg [24] n (fun g i wr => ∃ (k : Nat) (cv : Value), g = n - k ∧ i = .int .i64 k ∧ k ≤ n ∧ Hid (TI w t k cv wr))
  case atStart => exact ⟨0, .slice none 0 0, rfl, rfl, Nat.zero_le _, HS⟩
  case round =>
    obtain ⟨k, cv, hg, rfl, hkn, HI⟩ := hrel
    by_cases hlt : k < n
    · obtain ⟨c, hcg⟩ : ∃ c, t.coms[k]? = some c := ⟨_, List.getElem?_eq_getElem (by have := HN.out; omega)⟩
      obtain ⟨q0, q1, q2, q3⟩ := (ComAt.frm HC.out (Frm.ofBelow HI.out.bel []) (by simp)).at_ k c hcg
      have hx7 : ∀ o, (wr.alloc o).cell? ⟨w.heap.size + 1 + 1, 7, none⟩ = some cv := fun o => (World.cell?_of_block (Below.heap_alloc wr o _ (block_lt HI.out.x))).trans (block_cell HI.out.x 7)
      have sz := HI.out.size
      have hkl : (t.coms.take k).length = k := by rw [List.length_take]; have := HN.out; omega
      have hown : wr.ownsRow (w.heap.size + 1 + 1 + 1) 67 4 cv k (tcs (t.coms.take k)) := by
        have := HI.out.own
        unfold ComI at this
        rw [hkl] at this
        exact this
      have HG := Lib.hid hcg
      have hk48 : (k + 1) * 48 ≤ 140737488355328 := by omega
      have hk63 : k + 1 ≤ maxLen := by unfold maxLen; omega
      have hb3 : w.heap.size + 1 + 1 + 1 ≤ wr.heap.size + 1 + 1 := by omega
      clear hcg hkl
      go_wp2_with (at_builtin; refine wpList_append_own _ rfl (.tmp 29) (.tmp 39) 28 rfl (w.heap.size + 1 + 1 + 1) 67 i0 _ 4 48 Tryz.underlying28 hi0 hz0 hz1 hz2 rfl (by decide) cv k (tcs (t.coms.take k)) rfl ((hown.alloc _).alloc _) ⟨wr.heap.size + 1, 0, none⟩ 1 1 c.cells rfl rfl ?c1 ?c2 ?c3 ?c4 ?c5 ?_)
      case c1 => exact World.news_of_block (cs := #[.string c.space, .string c.raw, .int .i64 (c.pos : Int), .int .i64 (c.en : Int)]) (t := 67) (fr := (0, 0)) (by have := heap_alloc_new (wr.alloc (.cells #[.string c.space, .string c.raw, .int .i64 (c.pos : Int), .int .i64 (c.en : Int)] 83)) (.cells #[.string c.space, .string c.raw, .int .i64 (c.pos : Int), .int .i64 (c.en : Int)] 67); rw [show (wr.alloc (.cells #[.string c.space, .string c.raw, .int .i64 (c.pos : Int), .int .i64 (c.en : Int)] 83)).heap.size = wr.heap.size + 1 from by show (wr.heap.push _).size = _; rw [Array.size_push]] at this; exact this)
      case c2 => simp [PC.cells, Value.oneCell']
      case c3 => exact hk63
      case c4 => exact hk48
      case c5 => simp; omega
      intro v' w5 hown1 hgrow _
      obtain ⟨g', cap', rfl⟩ : ∃ g' cap', v' = .slice (some ⟨g', 0, none⟩) (k + 1) cap' := by
        rcases hown1.2 with ⟨_, h0⟩ | ⟨g', cap', cur, h1, _⟩
        · omega
        · exact ⟨g', cap', h1⟩
      obtain ⟨hX, hT⟩ := HI.out.on HG.out hgrow hown1
      have p7 : w5.cell? ⟨w.heap.size + 1 + 1, 7, none⟩ = some cv := block_cell hX 7
      have pf : w5.frozen? ⟨w.heap.size + 1 + 1, 7, none⟩ = false := block_free hX 7
      have HT := Lib.hid hT
      have hkw : IntKind.i64.wrap ((k : Int) + 1) = (k : Int) + 1 := IntWalk.i64_in _ (by omega)
      clear hown hown1 hgrow hX hT hx7 q0 q1 q2 q3
      go_wp2_with fail
      go_roundg (n - (k + 1))
      case measure => omega
      case rel => exact ⟨k + 1, _, rfl, by go_num, by omega, HT⟩
    · have hlt2 := hlt
      obtain rfl : k = n := by omega
      obtain ⟨ca, cn, cc, rfl⟩ : ∃ ca cn cc, cv = .slice ca cn cc := by
        rcases HI.out.own.2 with ⟨h1, _⟩ | ⟨g', cap', cur, h1, _⟩
        · exact ⟨_, _, _, h1⟩
        · exact ⟨_, _, _, h1⟩
      have x0 : wr.cell? ⟨w.heap.size + 1 + 1, 0, none⟩ = some (.string t.kind) := block_cell HI.out.x 0
      have x1 : wr.cell? ⟨w.heap.size + 1 + 1, 1, none⟩ = some (.string t.space) := block_cell HI.out.x 1
      have x2 : wr.cell? ⟨w.heap.size + 1 + 1, 2, none⟩ = some (.string t.raw) := block_cell HI.out.x 2
      have x3 : wr.cell? ⟨w.heap.size + 1 + 1, 3, none⟩ = some (.string t.text) := block_cell HI.out.x 3
      have x4 : wr.cell? ⟨w.heap.size + 1 + 1, 4, none⟩ = some (.int .i64 t.base) := block_cell HI.out.x 4
      have x5 : wr.cell? ⟨w.heap.size + 1 + 1, 5, none⟩ = some (.int .i64 t.pos) := block_cell HI.out.x 5
      have x6 : wr.cell? ⟨w.heap.size + 1 + 1, 6, none⟩ = some (.int .i64 t.en) := block_cell HI.out.x 6
      have x7 : wr.cell? ⟨w.heap.size + 1 + 1, 7, none⟩ = some (.slice ca cn cc) := block_cell HI.out.x 7
      have r0 : wr.cell? ⟨w.heap.size + 1, 0, none⟩ = some (.string ⟨#[]⟩) := block_cell HI.out.r 0
      have r1 : wr.cell? ⟨w.heap.size + 1, 1, none⟩ = some (.string ⟨#[]⟩) := block_cell HI.out.r 1
      have r2 : wr.cell? ⟨w.heap.size + 1, 2, none⟩ = some (.string ⟨#[]⟩) := block_cell HI.out.r 2
      have r3 : wr.cell? ⟨w.heap.size + 1, 3, none⟩ = some (.string ⟨#[]⟩) := block_cell HI.out.r 3
      have r4 : wr.cell? ⟨w.heap.size + 1, 4, none⟩ = some (.int .i64 0) := block_cell HI.out.r 4
      have r5 : wr.cell? ⟨w.heap.size + 1, 5, none⟩ = some (.int .i64 0) := block_cell HI.out.r 5
      have r6 : wr.cell? ⟨w.heap.size + 1, 6, none⟩ = some (.int .i64 0) := block_cell HI.out.r 6
      have r7 : wr.cell? ⟨w.heap.size + 1, 7, none⟩ = some (.slice none 0 0) := block_cell HI.out.r 7
      have f0 : wr.frozen? ⟨w.heap.size + 1, 0, none⟩ = false := block_free HI.out.r 0
      have f1 : wr.frozen? ⟨w.heap.size + 1, 1, none⟩ = false := block_free HI.out.r 1
      have f2 : wr.frozen? ⟨w.heap.size + 1, 2, none⟩ = false := block_free HI.out.r 2
      have f3 : wr.frozen? ⟨w.heap.size + 1, 3, none⟩ = false := block_free HI.out.r 3
      have f4 : wr.frozen? ⟨w.heap.size + 1, 4, none⟩ = false := block_free HI.out.r 4
      have f5 : wr.frozen? ⟨w.heap.size + 1, 5, none⟩ = false := block_free HI.out.r 5
      have f6 : wr.frozen? ⟨w.heap.size + 1, 6, none⟩ = false := block_free HI.out.r 6
      have f7 : wr.frozen? ⟨w.heap.size + 1, 7, none⟩ = false := block_free HI.out.r 7
      go_wp2_with fail
      obtain ⟨D1, D2, D3⟩ := HI.out.done HN.out
      generalize ((((((((wr.setCell ⟨w.heap.size + 1, 0, none⟩ (.string t.kind)).setCell ⟨w.heap.size + 1, 1, none⟩ (.string t.space)).setCell ⟨w.heap.size + 1, 2, none⟩ (.string t.raw)).setCell ⟨w.heap.size + 1, 3, none⟩ (.string t.text)).setCell ⟨w.heap.size + 1, 4, none⟩ (.int .i64 t.base)).setCell ⟨w.heap.size + 1, 5, none⟩ (.int .i64 t.pos)).setCell ⟨w.heap.size + 1, 6, none⟩ (.int .i64 t.en)).setCell ⟨w.heap.size + 1, 7, none⟩ (.slice ca cn cc)) = W9 at *
      have HD2 := Lib.hid D2
      have HD3 := Lib.hid D3
      have y0 : W9.cell? ⟨w.heap.size + 1, 0, none⟩ = some (.string t.kind) := block_cell D1 0
      have y1 : W9.cell? ⟨w.heap.size + 1, 1, none⟩ = some (.string t.space) := block_cell D1 1
      have y2 : W9.cell? ⟨w.heap.size + 1, 2, none⟩ = some (.string t.raw) := block_cell D1 2
      have y3 : W9.cell? ⟨w.heap.size + 1, 3, none⟩ = some (.string t.text) := block_cell D1 3
      have y4 : W9.cell? ⟨w.heap.size + 1, 4, none⟩ = some (.int .i64 t.base) := block_cell D1 4
      have y5 : W9.cell? ⟨w.heap.size + 1, 5, none⟩ = some (.int .i64 t.pos) := block_cell D1 5
      have y6 : W9.cell? ⟨w.heap.size + 1, 6, none⟩ = some (.int .i64 t.en) := block_cell D1 6
      have y7 : W9.cell? ⟨w.heap.size + 1, 7, none⟩ = some (.slice ca cn cc) := block_cell D1 7
      clear D1 D2 D3
      exact bodyPost_ret (v := .agg #[.string t.kind, .string t.space, .string t.raw, .string t.text, .int .i64 t.base, .int .i64 t.pos, .int .i64 t.en, .slice ca cn cc]) (by simp [results, Tryz.results29, go_sem, y0, y1, y2, y3, y4, y5, y6, y7]) rfl ⟨_, rfl, HD2.out, HD3.out⟩

set_option maxRecDepth 100000 in
set_option maxHeartbeats 4000000 in
theorem tokenOf_none (t : IT) (base : Nat) (w : World) (hn : 0 = t.coms.length) (hc : ComAt w base (.slice none 0 0) t.coms) (_hlen : t.coms.length ≤ 1048576) :
    Calls Tryz.prog 29 #[.agg #[.string t.kind, .slice none 0 0, .string t.space, .string t.raw, .string t.text, .int .i64 t.base, .int .i64 t.pos, .int .i64 t.en]] w (TofRes t w) := by
  have HC := Lib.hid hc
  have HN := Lib.hid hn
  have HS := Lib.hid (TI.start w t (.cells #[.string t.kind, (.slice none 0 0 : Value), .string t.space, .string t.raw, .string t.text, .int .i64 t.base, .int .i64 t.pos, .int .i64 t.en] 61))
  have hln : 0 ≤ 1048576 := by omega
  clear hc hn _hlen
  go_enter Tryz.func29, Tryz.ntmps29
  go_wp2_with fail
  go_loopg [24] 0 (fun g i wr => ∃ (k : Nat) (cv : Value), g = 0 - k ∧ i = .int .i64 k ∧ k ≤ 0 ∧ Hid (TI w t k cv wr))
  case atStart => exact ⟨0, .slice none 0 0, rfl, rfl, Nat.zero_le _, HS⟩
  case round =>
    obtain ⟨k, cv, hg, rfl, hkn, HI⟩ := hrel
    have hlt : ¬ k < 0 := by omega
    obtain rfl : k = 0 := by omega
    obtain ⟨ca, cn, cc, rfl⟩ : ∃ ca cn cc, cv = .slice ca cn cc := by
      rcases HI.out.own.2 with ⟨h1, _⟩ | ⟨g', cap', cur, h1, _⟩
      · exact ⟨_, _, _, h1⟩
      · exact ⟨_, _, _, h1⟩
    have x0 : wr.cell? ⟨w.heap.size + 1 + 1, 0, none⟩ = some (.string t.kind) := block_cell HI.out.x 0
    have x1 : wr.cell? ⟨w.heap.size + 1 + 1, 1, none⟩ = some (.string t.space) := block_cell HI.out.x 1
    have x2 : wr.cell? ⟨w.heap.size + 1 + 1, 2, none⟩ = some (.string t.raw) := block_cell HI.out.x 2
    have x3 : wr.cell? ⟨w.heap.size + 1 + 1, 3, none⟩ = some (.string t.text) := block_cell HI.out.x 3
    have x4 : wr.cell? ⟨w.heap.size + 1 + 1, 4, none⟩ = some (.int .i64 t.base) := block_cell HI.out.x 4
    have x5 : wr.cell? ⟨w.heap.size + 1 + 1, 5, none⟩ = some (.int .i64 t.pos) := block_cell HI.out.x 5
    have x6 : wr.cell? ⟨w.heap.size + 1 + 1, 6, none⟩ = some (.int .i64 t.en) := block_cell HI.out.x 6
    have x7 : wr.cell? ⟨w.heap.size + 1 + 1, 7, none⟩ = some (.slice ca cn cc) := block_cell HI.out.x 7
    have r0 : wr.cell? ⟨w.heap.size + 1, 0, none⟩ = some (.string ⟨#[]⟩) := block_cell HI.out.r 0
    have r1 : wr.cell? ⟨w.heap.size + 1, 1, none⟩ = some (.string ⟨#[]⟩) := block_cell HI.out.r 1
    have r2 : wr.cell? ⟨w.heap.size + 1, 2, none⟩ = some (.string ⟨#[]⟩) := block_cell HI.out.r 2
    have r3 : wr.cell? ⟨w.heap.size + 1, 3, none⟩ = some (.string ⟨#[]⟩) := block_cell HI.out.r 3
    have r4 : wr.cell? ⟨w.heap.size + 1, 4, none⟩ = some (.int .i64 0) := block_cell HI.out.r 4
    have r5 : wr.cell? ⟨w.heap.size + 1, 5, none⟩ = some (.int .i64 0) := block_cell HI.out.r 5
    have r6 : wr.cell? ⟨w.heap.size + 1, 6, none⟩ = some (.int .i64 0) := block_cell HI.out.r 6
    have r7 : wr.cell? ⟨w.heap.size + 1, 7, none⟩ = some (.slice none 0 0) := block_cell HI.out.r 7
    have f0 : wr.frozen? ⟨w.heap.size + 1, 0, none⟩ = false := block_free HI.out.r 0
    have f1 : wr.frozen? ⟨w.heap.size + 1, 1, none⟩ = false := block_free HI.out.r 1
    have f2 : wr.frozen? ⟨w.heap.size + 1, 2, none⟩ = false := block_free HI.out.r 2
    have f3 : wr.frozen? ⟨w.heap.size + 1, 3, none⟩ = false := block_free HI.out.r 3
    have f4 : wr.frozen? ⟨w.heap.size + 1, 4, none⟩ = false := block_free HI.out.r 4
    have f5 : wr.frozen? ⟨w.heap.size + 1, 5, none⟩ = false := block_free HI.out.r 5
    have f6 : wr.frozen? ⟨w.heap.size + 1, 6, none⟩ = false := block_free HI.out.r 6
    have f7 : wr.frozen? ⟨w.heap.size + 1, 7, none⟩ = false := block_free HI.out.r 7
    go_wp2_with fail
    obtain ⟨D1, D2, D3⟩ := HI.out.done HN.out
    generalize ((((((((wr.setCell ⟨w.heap.size + 1, 0, none⟩ (.string t.kind)).setCell ⟨w.heap.size + 1, 1, none⟩ (.string t.space)).setCell ⟨w.heap.size + 1, 2, none⟩ (.string t.raw)).setCell ⟨w.heap.size + 1, 3, none⟩ (.string t.text)).setCell ⟨w.heap.size + 1, 4, none⟩ (.int .i64 t.base)).setCell ⟨w.heap.size + 1, 5, none⟩ (.int .i64 t.pos)).setCell ⟨w.heap.size + 1, 6, none⟩ (.int .i64 t.en)).setCell ⟨w.heap.size + 1, 7, none⟩ (.slice ca cn cc)) = W9 at *
    have HD2 := Lib.hid D2
    have HD3 := Lib.hid D3
    have y0 : W9.cell? ⟨w.heap.size + 1, 0, none⟩ = some (.string t.kind) := block_cell D1 0
    have y1 : W9.cell? ⟨w.heap.size + 1, 1, none⟩ = some (.string t.space) := block_cell D1 1
    have y2 : W9.cell? ⟨w.heap.size + 1, 2, none⟩ = some (.string t.raw) := block_cell D1 2
    have y3 : W9.cell? ⟨w.heap.size + 1, 3, none⟩ = some (.string t.text) := block_cell D1 3
    have y4 : W9.cell? ⟨w.heap.size + 1, 4, none⟩ = some (.int .i64 t.base) := block_cell D1 4
    have y5 : W9.cell? ⟨w.heap.size + 1, 5, none⟩ = some (.int .i64 t.pos) := block_cell D1 5
    have y6 : W9.cell? ⟨w.heap.size + 1, 6, none⟩ = some (.int .i64 t.en) := block_cell D1 6
    have y7 : W9.cell? ⟨w.heap.size + 1, 7, none⟩ = some (.slice ca cn cc) := block_cell D1 7
    clear D1 D2 D3
    exact bodyPost_ret (v := .agg #[.string t.kind, .string t.space, .string t.raw, .string t.text, .int .i64 t.base, .int .i64 t.pos, .int .i64 t.en, .slice ca cn cc]) (by simp [results, Tryz.results29, go_sem, y0, y1, y2, y3, y4, y5, y6, y7]) rfl ⟨_, rfl, HD2.out, HD3.out⟩

theorem tokenOf_any (t : IT) (v : Value) (base : Nat) (w : World) (hc : ComAt w base v t.coms) (hlen : t.coms.length ≤ 1048576) :
    Calls Tryz.prog 29 #[.agg #[.string t.kind, v, .string t.space, .string t.raw, .string t.text, .int .i64 t.base, .int .i64 t.pos, .int .i64 t.en]] w (TofRes t w) := by
  rcases hc.2 with ⟨rfl, h0⟩ | ⟨g, cap, cur, rfl, _⟩
  · exact tokenOf_none t base w h0.symm hc hlen
  · exact tokenOf_some t g _ cap base w rfl hc hlen

end Go.Proofs.YtngofbhlhcalpaaGreatDoor.lexer

namespace Go.Proofs.YtngofbhlhcalpaaGreatDoor.lexer
open Go.RowKit Go.Proofs.YtngofbhlhcalpaaGreatDoor.gen

def pcells (ps : List (IT × Value)) : List Value := ps.flatMap fun p => p.1.cells p.2

theorem pcells_len (ps : List (IT × Value)) : (pcells ps).length = ps.length * 8 := by
  induction ps with
  | nil => rfl
  | cons p r ih =>
    have : pcells (p :: r) = p.1.cells p.2 ++ pcells r := rfl
    rw [this, List.length_append, ih]
    show 8 + _ = (r.length + 1) * 8
    omega
theorem pcells_snoc (ps : List (IT × Value)) (p : IT × Value) : pcells (ps ++ [p]) = pcells ps ++ p.1.cells p.2 := by simp [pcells]
theorem pcells_at : ∀ (l : List (IT × Value)) (k : Nat) (c : IT × Value), l[k]? = some c → ∀ j, j < 8 → (pcells l)[k * 8 + j]? = (c.1.cells c.2)[j]? := by
  intro l
  induction l with
  | nil => intro k c h; simp at h
  | cons d l ih =>
    intro k c h j hj
    have e : pcells (d :: l) = d.1.cells d.2 ++ pcells l := rfl
    have hl : (d.1.cells d.2).length = 8 := rfl
    cases k with
    | zero =>
      simp only [List.getElem?_cons_zero, Option.some.injEq] at h
      subst h
      rw [e, List.getElem?_append_left (by omega)]
      simp
    | succ k =>
      simp only [List.getElem?_cons_succ] at h
      rw [e, List.getElem?_append_right (by omega), hl, show (k + 1) * 8 + j - 8 = k * 8 + j from by omega]
      exact ih k c h j hj

/-- The tokens that a slice holds, with their comments. -/
def ToksAt (w : World) (base : Nat) (v : Value) (ts : List IT) : Prop :=
  ∃ ps : List (IT × Value), ps.map (·.1) = ts ∧ w.ownsRow base 30 8 v ps.length (pcells ps) ∧ ∀ p ∈ ps, ComI w base p.2 p.1.coms

theorem ToksAt.nil (w : World) (base : Nat) : ToksAt w base (.slice none 0 0) [] := ⟨[], rfl, World.ownsRow_nil _ _ _ _, fun _ h => by cases h⟩

theorem ownsRow_frm {w w' : World} {base size n : Nat} {e : TypeId} {v : Value} {xs : List Value} {S : List Nat} (h : w.ownsRow base e size v n xs) (hf : Frm w w' S) (hS : ∀ x, x ∈ S → x < base) : w'.ownsRow base e size v n xs := by
  refine ⟨h.1, ?_⟩
  rcases h.2 with h2 | ⟨g, cap, cur, h1, h2, h3, h4⟩
  · exact .inl h2
  · have := hf.block g (block_lt h3) (fun hm => by have := hS g hm; omega)
    exact .inr ⟨g, cap, cur, h1, h2, this.trans h3, h4⟩
theorem ownsRow_le {w : World} {base base' size n : Nat} {e : TypeId} {v : Value} {xs : List Value} (h : w.ownsRow base e size v n xs) (hb : base' ≤ base) : w.ownsRow base' e size v n xs := by
  refine ⟨h.1, ?_⟩
  rcases h.2 with h2 | ⟨g, cap, cur, h1, h2, h3⟩
  · exact .inl h2
  · exact .inr ⟨g, cap, cur, h1, Nat.le_trans hb h2, h3⟩

theorem ToksAt.frm {w w' : World} {base : Nat} {v : Value} {ts : List IT} {S : List Nat} (h : ToksAt w base v ts) (hf : Frm w w' S) (hS : ∀ x, x ∈ S → x < base) : ToksAt w' base v ts := by
  obtain ⟨ps, h1, h2, h3⟩ := h
  exact ⟨ps, h1, ownsRow_frm h2 hf hS, fun p hp => (h3 p hp).frm hf hS⟩
theorem ToksAt.below {w w' : World} {base : Nat} {v : Value} {ts : List IT} (h : ToksAt w base v ts) (hb : Below w.heap.size w w') : ToksAt w' base v ts := h.frm (Frm.ofBelow hb []) (by simp)
theorem ToksAt.le {w : World} {base base' : Nat} {v : Value} {ts : List IT} (h : ToksAt w base v ts) (hb : base' ≤ base) : ToksAt w base' v ts := by
  obtain ⟨ps, h1, h2, h3⟩ := h
  exact ⟨ps, h1, ownsRow_le h2 hb, fun p hp => (h3 p hp).le hb⟩

theorem ToksAt.shape {w : World} {base : Nat} {v : Value} {ts : List IT} (h : ToksAt w base v ts) :
    (v = .slice none 0 0 ∧ ts = []) ∨ ∃ g cap, v = .slice (some ⟨g, 0, none⟩) ts.length cap ∧ base ≤ g ∧ g < w.heap.size ∧ ts.length ≤ cap ∧ cap ≤ maxLen := by
  obtain ⟨ps, rfl, h2, h3⟩ := h
  rcases h2.2 with ⟨h4, h5⟩ | ⟨g, cap, cur, h4, h5, h6, h7, h8, _⟩
  · exact .inl ⟨h4, by rw [List.eq_nil_of_length_eq_zero h5]; rfl⟩
  · exact .inr ⟨g, cap, by rw [List.length_map]; exact h4, h5, block_lt h6, by rw [List.length_map]; exact h7, h8⟩

/-- A token of the slice, field by field. -/
structure TokAt (w : World) (g i : Nat) (B : Nat) (t : IT) : Prop where
  kind : w.cell? ⟨g, i, none⟩ = some (.string t.kind)
  space : w.cell? ⟨g, i + 1, none⟩ = some (.string t.space)
  raw : w.cell? ⟨g, i + 2, none⟩ = some (.string t.raw)
  text : w.cell? ⟨g, i + 3, none⟩ = some (.string t.text)
  base : w.cell? ⟨g, i + 4, none⟩ = some (.int .i64 t.base)
  pos : w.cell? ⟨g, i + 5, none⟩ = some (.int .i64 t.pos)
  en : w.cell? ⟨g, i + 6, none⟩ = some (.int .i64 t.en)
  coms : ∃ ca cn cc, w.cell? ⟨g, i + 7, none⟩ = some (.slice ca cn cc) ∧ ComI w B (.slice ca cn cc) t.coms

theorem ToksAt.at_ {w : World} {base g n cap : Nat} {ts : List IT} (h : ToksAt w base (.slice (some ⟨g, 0, none⟩) n cap) ts) (k : Nat) (t : IT) (hk : ts[k]? = some t) : TokAt w g (k * 8) base t := by
  obtain ⟨ps, rfl, h2, h3⟩ := h
  have hn : n = ps.length := by
    rcases h2.2 with ⟨h1, _⟩ | ⟨g', cap', cur, h1, _⟩
    · cases h1
    · cases h1; rfl
  subst hn
  rw [List.getElem?_map] at hk
  cases hp : ps[k]? with
  | none => rw [hp] at hk; cases hk
  | some p =>
    rw [hp] at hk
    simp only [Option.map_some, Option.some.injEq] at hk
    subst hk
    have hlt : k < ps.length := (List.getElem?_eq_some_iff.1 hp).1
    have key : ∀ j, j < 8 → w.cell? ⟨g, k * 8 + j, none⟩ = (p.1.cells p.2)[j]? := fun j hj => by
      rw [h2.cellAt (k * 8 + j) (by omega)]; exact pcells_at ps k p hp j hj
    refine ⟨key 0 (by omega), key 1 (by omega), key 2 (by omega), key 3 (by omega), key 4 (by omega), key 5 (by omega), key 6 (by omega), ?_⟩
    have hc := h3 p (List.mem_of_getElem? hp)
    have h7 := key 7 (by omega)
    have h8 : (p.1.cells p.2)[7]? = some p.2 := rfl
    rw [h8] at h7
    obtain ⟨ca, cn, cc, hcv⟩ : ∃ ca cn cc, p.2 = .slice ca cn cc := by
      rcases hc.2 with ⟨h9, _⟩ | ⟨g', cap', cur, h9, _⟩
      · exact ⟨_, _, _, h9⟩
      · exact ⟨_, _, _, h9⟩
    rw [hcv] at h7 hc
    exact ⟨ca, cn, cc, h7, hc⟩

theorem ComI.kept {w w' : World} {base : Nat} {cv : Value} {l : List PC} {row : Option Nat} (h : ComI w base cv l) (hg : w.grownBy w' row) (hr : ∀ r, row = some r → ∃ cur, w.heap[r]? = some (.cells cur 30 (0, 0))) : ComI w' base cv l := by
  refine ⟨h.1, ?_⟩
  rcases h.2 with h2 | ⟨g, cap, cur, h1, h2, h3, h4⟩
  · exact .inl h2
  · have hne : some g ≠ row := fun e => by
      obtain ⟨cur', h5⟩ := hr g e.symm
      rw [h3] at h5
      simp at h5
    exact .inr ⟨g, cap, cur, h1, h2, (hg.block g (block_lt h3) hne).trans h3, h4⟩

theorem ownsRow_type {w : World} {base size n : Nat} {e : TypeId} {v : Value} {xs : List Value} (h : w.ownsRow base e size v n xs) : ∀ r, v.ownBlock = some r → ∃ cur, w.heap[r]? = some (.cells cur e (0, 0)) := by
  intro r hr
  rcases h.2 with ⟨h2, _⟩ | ⟨g, cap, cur, h1, h2, h3, _⟩
  · rw [h2] at hr; simp [Value.ownBlock] at hr
  · rw [h1] at hr
    simp [Value.ownBlock] at hr
    subst hr
    exact ⟨cur, h3⟩

theorem ToksAt.snoc {w w' : World} {base : Nat} {v v' cv : Value} {ps : List (IT × Value)} {t : IT} (hown : w.ownsRow base 30 8 v ps.length (pcells ps)) (hcs : ∀ p ∈ ps, ComI w base p.2 p.1.coms) (hc : ComI w base cv t.coms)
    (hg : w.grownBy w' v.ownBlock) (hown' : w'.ownsRow base 30 8 v' (ps.length + 1) (pcells ps ++ t.cells cv)) : ToksAt w' base v' (ps.map (·.1) ++ [t]) := by
  refine ⟨ps ++ [(t, cv)], by simp, ?_, fun p hp => ?_⟩
  · rw [List.length_append, pcells_snoc]; exact hown'
  · rcases List.mem_append.1 hp with hp | hp
    · exact (hcs p hp).kept hg (ownsRow_type hown)
    · rw [List.mem_singleton] at hp
      subst hp
      exact hc.kept hg (ownsRow_type hown)

theorem infoIT : (Tryz.prog.info? 30).map (fun i => (i.zero, i.size, i.bytes)) = some (some (.agg #[.string ⟨#[]⟩, .string ⟨#[]⟩, .string ⟨#[]⟩, .string ⟨#[]⟩, .int .i64 0, .int .i64 0, .int .i64 0, .slice none 0 0]), 8, 112) := by kernel_rfl

end Go.Proofs.YtngofbhlhcalpaaGreatDoor.lexer

namespace Go.Proofs.YtngofbhlhcalpaaGreatDoor.lines
open Go.RowKit Go.Proofs.YtngofbhlhcalpaaGreatDoor.gen

def brk : List UInt8 → Nat
  | [] => 0
  | c :: r => if c = 10 then 0 else brk r + 1

def parts : List UInt8 → List (List UInt8)
  | [] => [[]]
  | c :: r => if c = 10 then [] :: parts r else match parts r with
    | [] => [[c]]
    | p :: q => (c :: p) :: q

def lns (off : Nat) : List UInt8 → List Nat
  | [] => [off + 1]
  | c :: r => if c = 10 then (off + 1) :: lns (off + 1) r else lns (off + 1) r

def LL (off : Nat) (l : List UInt8) : List Nat := off :: lns off l

theorem brk_le (l : List UInt8) : brk l ≤ l.length := by
  induction l with
  | nil => exact Nat.le_refl _
  | cons c r ih => unfold brk; split <;> simp <;> omega

theorem brk_at (l : List UInt8) (k : Nat) (h : k ≤ brk l) (hc : l[k]? = some 10) : brk l = k := by
  induction l generalizing k with
  | nil => simp at hc
  | cons c r ih =>
    unfold brk at h ⊢
    cases k with
    | zero => simp at hc; rw [if_pos hc]
    | succ k =>
      split at h
      · omega
      · rename_i hne
        rw [if_neg hne, ih k (by omega) (by simpa using hc)]

theorem brk_next (l : List UInt8) (k : Nat) (h : k ≤ brk l) (c : UInt8) (hc : l[k]? = some c) (hn : c ≠ 10) : k + 1 ≤ brk l := by
  induction l generalizing k with
  | nil => simp at hc
  | cons d r ih =>
    unfold brk at h ⊢
    cases k with
    | zero =>
      simp at hc
      subst hc
      rw [if_neg hn]; omega
    | succ k =>
      split at h
      · omega
      · rename_i hne
        rw [if_neg hne]
        have := ih k (by omega) (by simpa using hc)
        omega

theorem parts_ne (l : List UInt8) : parts l ≠ [] := by
  cases l with
  | nil => simp [parts]
  | cons c r =>
    unfold parts
    split
    · simp
    · split <;> simp

theorem parts_cons (c : UInt8) (r : List UInt8) : parts (c :: r) = if c = 10 then [] :: parts r else match parts r with
    | [] => [[c]]
    | p :: q => (c :: p) :: q := rfl

theorem parts_step (l : List UInt8) (h : brk l < l.length) : parts l = l.take (brk l) :: parts (l.drop (brk l + 1)) := by
  induction l with
  | nil => simp at h
  | cons c r ih =>
    unfold brk at h ⊢
    rw [parts_cons]
    by_cases hc : c = 10
    · rw [if_pos hc, if_pos hc]; simp
    · rw [if_neg hc] at h
      rw [if_neg hc, if_neg hc, ih (by simp at h; omega)]
      simp

theorem parts_end (l : List UInt8) (h : brk l = l.length) : parts l = [l] := by
  induction l with
  | nil => rfl
  | cons c r ih =>
    unfold brk at h
    rw [parts_cons]
    by_cases hc : c = 10
    · rw [if_pos hc] at h; simp at h
    · rw [if_neg hc] at h
      rw [if_neg hc, ih (by simp at h; omega)]

theorem ll_len (off : Nat) (l : List UInt8) : (LL off l).length = (parts l).length + 1 := by
  unfold LL
  induction l generalizing off with
  | nil => rfl
  | cons c r ih =>
    have h := ih (off + 1)
    unfold lns parts
    split
    · simpa using h
    · have hne := parts_ne r
      cases hp : parts r with
      | nil => exact absurd hp hne
      | cons p q => rw [hp] at h; simpa using h

theorem parts_le (l : List UInt8) : (parts l).length ≤ l.length + 1 := by
  induction l with
  | nil => exact Nat.le_refl _
  | cons c r ih =>
    unfold parts
    split
    · simpa using ih
    · cases hp : parts r with
      | nil => simp
      | cons p q => rw [hp] at ih; simp at ih ⊢; omega

theorem ll_step (off : Nat) (l : List UInt8) (k : Nat) (p : List UInt8) (x : Nat) (hp : (parts l)[k]? = some p) (hx : (LL off l)[k]? = some x) : (LL off l)[k + 1]? = some (x + p.length + 1) := by
  induction l generalizing off k p x with
  | nil =>
    cases k with
    | zero => simp [parts] at hp; simp [LL] at hx; subst hp; subst hx; rfl
    | succ k => simp [parts] at hp
  | cons c r ih =>
    unfold parts at hp
    unfold LL lns at hx ⊢
    by_cases hc : c = 10
    · rw [if_pos hc] at hp hx ⊢
      cases k with
      | zero => simp at hp hx; subst hp; subst hx; simp
      | succ k =>
        have := ih (off + 1) k p x (by simpa using hp) (by simpa [LL] using hx)
        simpa [LL] using this
    · rw [if_neg hc] at hp hx ⊢
      cases hr : parts r with
      | nil => exact absurd hr (parts_ne r)
      | cons p0 q =>
        rw [hr] at hp
        cases k with
        | zero =>
          simp at hp hx
          subst hp; subst hx
          have := ih (off + 1) 0 p0 (off + 1) (by rw [hr]; rfl) rfl
          simp only [LL, List.getElem?_cons_succ] at this ⊢
          rw [this]; simp; omega
        | succ k =>
          have := ih (off + 1) (k + 1) p x (by rw [hr]; simpa using hp) (by simpa [LL] using hx)
          simpa [LL] using this

theorem ll_last (off : Nat) (l : List UInt8) : (LL off l)[(parts l).length]? = some (off + l.length + 1) := by
  induction l generalizing off with
  | nil => rfl
  | cons c r ih =>
    have h := ih (off + 1)
    
    unfold LL lns parts
    by_cases hc : c = 10
    · rw [if_pos hc, if_pos hc]
      simp only [List.length_cons, List.getElem?_cons_succ]
      simp only [LL] at h
      rw [h]; simp; omega
    · rw [if_neg hc, if_neg hc]
      cases hp : parts r with
      | nil => exact absurd hp (parts_ne r)
      | cons p q =>
        rw [hp] at h
        simp only [LL, List.length_cons, List.getElem?_cons_succ] at h ⊢
        rw [h]; simp; omega

/-- What is left of the lines behind one byte, seen from the place of that byte: for the search forward. -/
theorem ll_back (off : Nat) (c : UInt8) (r : List UInt8) (k st : Nat) (h : (LL off (c :: r))[k + 1]? = some st) : (LL (off + 1) r)[if c = 10 then k else k + 1]? = some st := by
  unfold LL lns at h
  by_cases hc : c = 10
  · rw [if_pos hc] at h ⊢
    simpa [LL] using h
  · rw [if_neg hc] at h ⊢
    simpa [LL] using h

end Go.Proofs.YtngofbhlhcalpaaGreatDoor.lines

namespace Go.Proofs.YtngofbhlhcalpaaGreatDoor.quo
open Go.RowKit Go.Proofs.YtngofbhlhcalpaaGreatDoor.gen

/-- A byte as a number. -/
def nn (c : UInt8) : Int := (c.toNat : Int)
theorem nn_bd (c : UInt8) : 0 ≤ nn c ∧ nn c ≤ 255 := by unfold nn; have := c.toNat_lt; omega
theorem nn_inj {c d : UInt8} (h : nn c = nn d) : c = d := by
  unfold nn at h
  exact UInt8.toNat_inj.mp (by omega)

/-- The hexadecimal digit of a number below sixteen. -/
def hexd (n : Nat) : UInt8 := UInt8.ofNat (if n < 10 then 48 + n else 87 + n)

theorem nn_hexd (n : Nat) (h : n < 16) : nn (hexd n) = if n < 10 then 48 + (n : Int) else 87 + (n : Int) := by
  unfold nn hexd
  rw [UInt8.toNat_ofNat']
  split <;> (rw [Nat.mod_eq_of_lt (by omega)]; omega)

def enc (q c : UInt8) : List UInt8 :=
  if c = q then [92, c] else if c = 92 then [92, 92] else if 32 ≤ c.toNat ∧ c.toNat ≤ 126 then [c] else [92, 120, hexd (c.toNat / 16), hexd (c.toNat % 16)]
def encs (q : UInt8) : List UInt8 → List UInt8
  | [] => []
  | c :: r => enc q c ++ encs q r
def lit (q : UInt8) (l : List UInt8) : List UInt8 := 98 :: q :: (encs q l ++ [q])

theorem enc_cases (q c : UInt8) (hq : q = 34 ∨ q = 39) :
    (enc q c = [c] ∧ c ≠ q ∧ c ≠ 92 ∧ 32 ≤ c.toNat ∧ c.toNat ≤ 126) ∨ (enc q c = [92, c] ∧ (c = 34 ∨ c = 39 ∨ c = 92)) ∨
    (∃ h l, enc q c = [92, 120, hexd h, hexd l] ∧ h < 16 ∧ l < 16 ∧ c.toNat = 16 * h + l) := by
  unfold enc
  split
  · next h => exact .inr (.inl ⟨rfl, by rcases hq with hq | hq <;> simp [h, hq]⟩)
  · split
    · next h => exact .inr (.inl ⟨by rw [h], .inr (.inr h)⟩)
    · split
      · next h1 h2 h3 => exact .inl ⟨rfl, h1, h2, h3⟩
      · refine .inr (.inr ⟨_, _, rfl, ?_, Nat.mod_lt _ (by omega), ?_⟩)
        · have := c.toNat_lt; omega
        · omega

theorem enc_len (q c : UInt8) : 1 ≤ (enc q c).length ∧ (enc q c).length ≤ 4 := by
  unfold enc
  split
  · simp
  · split
    · simp
    · split <;> simp
theorem encs_len (q : UInt8) (l : List UInt8) : l.length ≤ (encs q l).length ∧ (encs q l).length ≤ 4 * l.length := by
  induction l with
  | nil => exact ⟨Nat.le_refl _, by simp [encs]⟩
  | cons c r ih =>
    have := enc_len q c
    simp only [encs, List.length_append, List.length_cons]
    omega
theorem encs_snoc (q : UInt8) (l : List UInt8) (c : UInt8) : encs q (l ++ [c]) = encs q l ++ enc q c := by
  induction l with
  | nil => simp [encs]
  | cons d r ih => simp [encs, ih]
theorem lit_len (q : UInt8) (l : List UInt8) : (lit q l).length ≤ 4 * l.length + 3 := by
  have := (encs_len q l).2
  simp [lit]; omega

/-- The text from a place on. -/
def sf (s : ByteArray) (k : Nat) : List UInt8 := s.data.toList.drop k
theorem len_list (s : ByteArray) : s.data.toList.length = s.size := by rw [Array.length_toList]; rfl
theorem sf_len (s : ByteArray) (k : Nat) : (sf s k).length = s.size - k := by unfold sf; rw [List.length_drop, len_list]
theorem sf_drop (s : ByteArray) (k n : Nat) : sf s (k + n) = (sf s k).drop n := by unfold sf; rw [List.drop_drop]
theorem sf_cons (s : ByteArray) (k : Nat) (h : k < s.size) : sf s k = s[k] :: sf s (k + 1) := by
  unfold sf
  have h2 : k < s.data.toList.length := by rw [len_list]; exact h
  rw [List.drop_eq_getElem_cons h2]; rfl
theorem sf_at {s : ByteArray} {k : Nat} {c : UInt8} {r : List UInt8} (h : sf s k = c :: r) : ∃ hk : k < s.size, s[k] = c ∧ sf s (k + 1) = r := by
  have hl := sf_len s k
  rw [h] at hl
  simp only [List.length_cons] at hl
  have hk : k < s.size := by omega
  have h2 := sf_cons s k hk
  rw [h] at h2
  injection h2 with h3 h4
  exact ⟨hk, h3.symm, h4.symm⟩

theorem enc_head (q c : UInt8) (hq : q = 34 ∨ q = 39) : ∃ x t, enc q c = x :: t ∧ x ≠ q ∧ x ≠ 10 ∧ x ≠ 13 := by
  rcases enc_cases q c hq with ⟨h, h1, h2, h3, h4⟩ | ⟨h, _⟩ | ⟨a, b, h, _⟩
  · refine ⟨c, [], h, h1, ?_, ?_⟩ <;> (rintro rfl; revert h3; decide)
  · refine ⟨92, [c], h, ?_⟩
    rcases hq with rfl | rfl <;> decide
  · refine ⟨92, [120, hexd a, hexd b], h, ?_⟩
    rcases hq with rfl | rfl <;> decide

end Go.Proofs.YtngofbhlhcalpaaGreatDoor.quo
