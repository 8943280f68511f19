/-
  Contracts of impl.ReadPos and laws.readsPos. No statement of the seat is proved here.
-/
import Derived.Test.YtfhnjgoipajiaaaDoorPlYf
import Derived.Test.YtfhnjgoipajiaaaDoorPlYh
namespace Go.Proofs.YtfhnjgoipajiaaaDoor.pl
open Go.RowKit Go.Proofs.YtfhnjgoipajiaaaDoor.gen

/-- What ReadPos gives. -/
def ReadRes (s : ByteArray) (w : World) (e : Ending) (w' : World) : Prop :=
  ((∃ x av, parse cls (runesOf s) = some x ∧ e = .returned (.tuple #[PTVal (ptPC x) av, .bool true]) ∧ ArgsAt w' (fun g => w.heap.size ≤ g) av (ptPC x).args) ∨
   (parse cls (runesOf s) = none ∧ e = .returned (.tuple #[.agg #[.string ⟨#[]⟩, .string ⟨#[]⟩, .int .i64 0, .slice none 0 0], .bool false]))) ∧ Below w.heap.size w w'

set_option maxRecDepth 100000 in
set_option maxHeartbeats 1000000 in
theorem readPos_any (s : ByteArray) (w : World) (hs : s.size ≤ 2147483647) (hc : Ctx w) : Calls Tryd.prog 4 #[.string s] w (ReadRes s w) := by
  have hW0 : (w.alloc (.cells #[.string ⟨#[]⟩, .string ⟨#[]⟩, .int .i64 0, .slice none 0 0] 24)).heap[w.heap.size]? = some (.cells #[.string ⟨#[]⟩, .string ⟨#[]⟩, .int .i64 0, .slice none 0 0] 24 (0, 0)) := heap_alloc_new w _
  have hb0 : Below w.heap.size w (w.alloc (.cells #[.string ⟨#[]⟩, .string ⟨#[]⟩, .int .i64 0, .slice none 0 0] 24)) := (Below.refl _ _).alloc (Nat.le_refl _) _
  have hsz : (w.alloc (.cells #[.string ⟨#[]⟩, .string ⟨#[]⟩, .int .i64 0, .slice none 0 0] 24)).heap.size = w.heap.size + 1 := by show (w.heap.push _).size = _; rw [Array.size_push]
  have HW0 := Lib.hid hW0
  have HB0 := Lib.hid hb0
  have HSz := Lib.hid hsz
  have HC := Lib.hid (hc.below hb0)
  clear hW0 hb0 hsz hc
  go_enter Tryd.func4, Tryd.ntmps4
  go_wp2_with fail
  refine (parse_any s _ hs HC.out).mono ?_
  rintro e w1 (⟨x, v, ho, rfl, hR, hb⟩ | ⟨ho, b, rfl, hb⟩)
  case inr =>
    have HO := Lib.hid ho
    have hW1 := (hb.block _ (block_lt HW0.out)).trans HW0.out
    have x0 : w1.cell? ⟨w.heap.size, 0, none⟩ = some (.string ⟨#[]⟩) := block_cell hW1 0
    have x1 : w1.cell? ⟨w.heap.size, 1, none⟩ = some (.string ⟨#[]⟩) := block_cell hW1 1
    have x2 : w1.cell? ⟨w.heap.size, 2, none⟩ = some (.int .i64 0) := block_cell hW1 2
    have x3 : w1.cell? ⟨w.heap.size, 3, none⟩ = some (.slice none 0 0) := block_cell hW1 3
    have z0 : w1.frozen? ⟨w.heap.size, 0, none⟩ = false := block_free hW1 0
    have z1 : w1.frozen? ⟨w.heap.size, 1, none⟩ = false := block_free hW1 1
    have z2 : w1.frozen? ⟨w.heap.size, 2, none⟩ = false := block_free hW1 2
    have z3 : w1.frozen? ⟨w.heap.size, 3, none⟩ = false := block_free hW1 3
    have HW1 := Lib.hid hW1
    have HB1 := Lib.hid hb
    clear ho hb hW1
    unfold errV
    go_wp2_with fail
    obtain ⟨hP, hPf, hPz⟩ := put4 HW1.out (.string ⟨#[]⟩) (.string ⟨#[]⟩) (.int .i64 0) (.slice none 0 0)
    have hB : Below w.heap.size w ((((w1.setCell ⟨w.heap.size, 0, none⟩ (.string ⟨#[]⟩)).setCell ⟨w.heap.size, 1, none⟩ (.string ⟨#[]⟩)).setCell ⟨w.heap.size, 2, none⟩ (.int .i64 0)).setCell ⟨w.heap.size, 3, none⟩ (.slice none 0 0)) :=
      ((Frm.ofBelow (HB0.out.trans (HB1.out.mono HB0.out.size)) []).trans hPf (fun x hx => by right; simp at hx; omega)).below
    generalize (((w1.setCell ⟨w.heap.size, 0, none⟩ (.string ⟨#[]⟩)).setCell ⟨w.heap.size, 1, none⟩ (.string ⟨#[]⟩)).setCell ⟨w.heap.size, 2, none⟩ (.int .i64 0)).setCell ⟨w.heap.size, 3, none⟩ (.slice none 0 0) = F at hP hB ⊢
    have y0 : F.cell? ⟨w.heap.size, 0, none⟩ = some (.string ⟨#[]⟩) := block_cell hP 0
    have y1 : F.cell? ⟨w.heap.size, 1, none⟩ = some (.string ⟨#[]⟩) := block_cell hP 1
    have y2 : F.cell? ⟨w.heap.size, 2, none⟩ = some (.int .i64 0) := block_cell hP 2
    have y3 : F.cell? ⟨w.heap.size, 3, none⟩ = some (.slice none 0 0) := block_cell hP 3
    exact bodyPost_ret (v := .tuple #[.agg #[.string ⟨#[]⟩, .string ⟨#[]⟩, .int .i64 0, .slice none 0 0], .bool false]) (by simp [results, Tryd.results4, go_sem, y0, y1, y2, y3]) rfl ⟨.inr ⟨HO.out, rfl⟩, hB⟩
  case inl =>
    have hzz : zPC x ≤ 1099511627776 := by
      have h1 := parse_z ho
      have h2 := runesOf_len s
      omega
    have hp := (pc_pos x v w1 _ hR hzz).2 w1 (Below.refl _ _)
    obtain ⟨tv, bv, rfl, _⟩ := PCAt.iface hR
    obtain ⟨l, hl⟩ : ∃ l, (ptPC x).args.length = l := ⟨_, rfl⟩
    have HCall : Hid (Calls Tryd.prog 9 #[.iface tv (.pointer (some ⟨bv, 0, none⟩))] w1 (fun e W2 => ∃ a m, e = .returned (.agg #[.string (B (ptPC x).kind), .string (B (ptPC x).name), .int .i64 ((ptPC x).n : Int), .slice a l m]) ∧ Hid (ArgsAt W2 (fun g => w1.heap.size ≤ g) (.slice a l m) (ptPC x).args) ∧ Hid (Below w1.heap.size w1 W2))) := hp.mono fun e W2 ⟨av, h1, h2, h3⟩ => by
      obtain ⟨a, m, rfl⟩ := h2.shape
      rw [hl] at h1 h2
      exact ⟨a, m, h1, h2, h3⟩
    have HO := Lib.hid ho
    have HW1 := Lib.hid ((hb.block _ (block_lt HW0.out)).trans HW0.out)
    have HB1 := Lib.hid hb
    clear ho hb hR hzz hp hl
    go_wp2_with fail
    refine HCall.out.mono ?_
    rintro e w2 ⟨a, m, rfl, HA, HB2⟩
    have hW2 := (HB2.out.block _ (block_lt HW1.out)).trans HW1.out
    have x0 : w2.cell? ⟨w.heap.size, 0, none⟩ = some (.string ⟨#[]⟩) := block_cell hW2 0
    have x1 : w2.cell? ⟨w.heap.size, 1, none⟩ = some (.string ⟨#[]⟩) := block_cell hW2 1
    have x2 : w2.cell? ⟨w.heap.size, 2, none⟩ = some (.int .i64 0) := block_cell hW2 2
    have x3 : w2.cell? ⟨w.heap.size, 3, none⟩ = some (.slice none 0 0) := block_cell hW2 3
    have z0 : w2.frozen? ⟨w.heap.size, 0, none⟩ = false := block_free hW2 0
    have z1 : w2.frozen? ⟨w.heap.size, 1, none⟩ = false := block_free hW2 1
    have z2 : w2.frozen? ⟨w.heap.size, 2, none⟩ = false := block_free hW2 2
    have z3 : w2.frozen? ⟨w.heap.size, 3, none⟩ = false := block_free hW2 3
    have HW2 := Lib.hid hW2
    clear hW2
    go_wp2_with fail
    obtain ⟨hP, hPf, hPz⟩ := put4 HW2.out (.string (B (ptPC x).kind)) (.string (B (ptPC x).name)) (.int .i64 ((ptPC x).n : Int)) (.slice a l m)
    have hlt1 := block_lt HW1.out
    have hB : Below w.heap.size w ((((w2.setCell ⟨w.heap.size, 0, none⟩ (.string (B (ptPC x).kind))).setCell ⟨w.heap.size, 1, none⟩ (.string (B (ptPC x).name))).setCell ⟨w.heap.size, 2, none⟩ (.int .i64 ((ptPC x).n : Int))).setCell ⟨w.heap.size, 3, none⟩ (.slice a l m)) := by
      have h1 := HB0.out.trans (HB1.out.mono HB0.out.size)
      have h2 := h1.trans (HB2.out.mono h1.size)
      exact ((Frm.ofBelow h2 []).trans hPf (fun x hx => by right; simp at hx; omega)).below
    have hA9 := (HA.out.frm hPf (by intro x hx; simp at hx; omega)).mono (ok' := fun g => w.heap.size ≤ g) (fun g hg _ => by omega)
    generalize (((w2.setCell ⟨w.heap.size, 0, none⟩ (.string (B (ptPC x).kind))).setCell ⟨w.heap.size, 1, none⟩ (.string (B (ptPC x).name))).setCell ⟨w.heap.size, 2, none⟩ (.int .i64 ((ptPC x).n : Int))).setCell ⟨w.heap.size, 3, none⟩ (.slice a l m) = F at hP hB hA9 ⊢
    have y0 : F.cell? ⟨w.heap.size, 0, none⟩ = some (.string (B (ptPC x).kind)) := block_cell hP 0
    have y1 : F.cell? ⟨w.heap.size, 1, none⟩ = some (.string (B (ptPC x).name)) := block_cell hP 1
    have y2 : F.cell? ⟨w.heap.size, 2, none⟩ = some (.int .i64 ((ptPC x).n : Int)) := block_cell hP 2
    have y3 : F.cell? ⟨w.heap.size, 3, none⟩ = some (.slice a l m) := block_cell hP 3
    exact bodyPost_ret (v := .tuple #[.agg #[.string (B (ptPC x).kind), .string (B (ptPC x).name), .int .i64 ((ptPC x).n : Int), .slice a l m], .bool true]) (by simp [results, Tryd.results4, go_sem, y0, y1, y2, y3]) rfl ⟨.inl ⟨x, _, HO.out, rfl, hA9⟩, hB⟩

/-- 'a.pos'. -/
def aPos : PC := ⟨⟨.pos (.atom (.var [97])), []⟩, []⟩
theorem aPos_good : WC cls GR aPos := by
  have hl : cls.letter 97 = true := by rw [(cls_ok.low 97 (by omega)).1]; rfl
  have hsp : cls.space 97 = false := by rw [(cls_ok.low 97 (by omega)).2.2]; rfl
  refine ⟨⟨⟨⟨97, [], rfl, hl, hsp⟩, fun c hc => ?_, fun c hc => ?_⟩, fun i hi => by cases hi⟩, fun i hi => by cases hi⟩
  · obtain rfl : c = 97 := by simpa using hc
    unfold idc; rw [hl]; rfl
  · obtain rfl : c = 97 := by simpa using hc
    unfold GR; omega
theorem aPos_read : parse cls (runesOf ⟨#[97, 46, 112, 111, 115]⟩) = some aPos := back aPos aPos_good

set_option maxRecDepth 100000 in
theorem readsPos_any (w : World) (hc : Ctx w) : Calls Tryd.prog 5 #[] w (fun e w' => e = .returned (.bool true) ∧ Below w.heap.size w w') := by
  have HC := Lib.hid hc
  clear hc
  go_enter Tryd.func5, Tryd.ntmps5
  go_wp2_with fail
  refine (readPos_any _ _ (by decide) HC.out).mono ?_
  rintro e w1 ⟨⟨x, av, ho, rfl, hA⟩ | ⟨ho, _⟩, hb⟩
  case inr => rw [aPos_read] at ho; cases ho
  case inl =>
    obtain rfl : aPos = x := by rw [aPos_read] at ho; exact Option.some.inj ho
    obtain ⟨a, m, rfl⟩ := hA.shape
    obtain ⟨l, hl⟩ : ∃ l, (ptPC aPos).args.length = l := ⟨_, rfl⟩
    rw [hl]
    have HB : Hid (∀ o, Below w.heap.size w (w1.alloc o)) := fun o => hb.alloc hb.size o
    clear ho hA hl hb
    rw [show PTVal (ptPC aPos) (.slice a l m) = .agg #[.string ⟨#[112, 111, 115]⟩, .string ⟨#[]⟩, .int .i64 0, .slice a l m] from rfl]
    go_wp2_with fail
    go_ret
    exact ⟨rfl, HB.out _⟩

end Go.Proofs.YtfhnjgoipajiaaaDoor.pl
