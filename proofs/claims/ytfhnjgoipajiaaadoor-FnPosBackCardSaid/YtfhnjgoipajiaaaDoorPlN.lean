/-
  Contract of poslang.Parse. No statement of the seat is proved here.
-/
import Derived.Test.YtfhnjgoipajiaaaDoorPlM
import Derived.Defers
import Derived.Recover
import Derived.Laws.AppendOwn
namespace Go.Proofs.YtfhnjgoipajiaaaDoor.pl
open Go.RowKit Go.Proofs.YtfhnjgoipajiaaaDoor.gen

theorem isError (b : Value) (w : World) : (Instr.typeAssert (.iface 96 b) 20 35 true).run Tryd.prog w = .ok (.tuple #[.iface 96 b, .bool true]) w := by kernel_rfl

set_option maxRecDepth 100000 in
theorem catchP_fault (p1 p2 : Addr) (x o1 o2 : Value) (w : World) (hne : p1.block ≠ p2.block) (hc : w.cell? p1 = some o1) (hz : w.frozen? p1 = false) (hc2 : w.cell? p2 = some o2) (hz2 : w.frozen? p2 = false) :
    CallsD Tryd.prog 10 #[.pointer (some p1), .pointer (some p2)] (.panicking [{ v := .iface 96 x, recovered := false }]) w fun e u' w' =>
      e = .returned (.tuple #[]) ∧ u' = .panicking [{ v := .iface 96 x, recovered := true }] ∧ w' = (w.setCell p1 .nilIface).setCell p2 (.iface 96 x) := by
  refine callsD_of_wpS Tryd.func10 rfl fun c₀ cs hu => ?_
  apply wpS_seq
  apply wpS_region
  simp [wpOpsS, go_sem, recoverD, hu, Tryd.ntmps10, Exit.thenS]
  have hta := isError x
  have hc2' : (w.setCell p1 .nilIface).cell? p2 = some o2 := by rw [World.cell?_of_block (Below.heap_setCell _ _ _ _ (Ne.symm hne))]; exact hc2
  have hz2' : (w.setCell p1 .nilIface).frozen? p2 = false := by rw [World.frozen?_of_block (Below.heap_setCell _ _ _ _ (Ne.symm hne))]; exact hz2
  refine wpS_of_wp ?_
  simp only [Array.replicate, List.replicate, List.setIfInBounds_toArray, List.set_cons_zero, List.set_cons_succ, List.append_toArray, List.cons_append, List.nil_append]
  go_wp2
  simp [bodyPostS, results, Tryd.results10]

theorem catchP_idle (p1 p2 : Addr) (w : World) :
    CallsD Tryd.prog 10 #[.pointer (some p1), .pointer (some p2)] .returning w fun e u' w' => e = .returned (.tuple #[]) ∧ u' = .returning ∧ w' = w := by
  refine callsD_of_wpS Tryd.func10 rfl fun c₀ cs hu => ?_
  apply wpS_seq
  apply wpS_region
  simp [wpOpsS, go_sem, recoverD, hu, Tryd.ntmps10, Exit.thenS]
  refine wpS_of_wp ?_
  simp only [Array.replicate, List.replicate, List.setIfInBounds_toArray, List.set_cons_zero, List.set_cons_succ, List.append_toArray, List.cons_append, List.nil_append]
  go_wp2
  cases c₀
  simp_all [bodyPostS, results, Tryd.results10]

theorem VarAt.le {w : World} {pb c : Nat} (hc : c ≤ pb) {v : Value} {n : List Nat} (h : VarAt w pb v n) : VarAt w c v n := by
  obtain ⟨b, h1, h2, h3⟩ := h; exact ⟨b, h1, by omega, h3⟩
theorem IEAt.le {w : World} {pb c : Nat} (hc : c ≤ pb) : ∀ {i : IE} {v : Value}, IEAt w pb i v → IEAt w c i v := by
  intro i
  induction i with
  | int n => rintro v ⟨b, h1, h2, h3⟩; exact ⟨b, h1, by omega, h3⟩
  | len s => rintro v ⟨b, u, h1, h2, h3, h4⟩; exact ⟨b, u, h1, by omega, h3, h4.le hc⟩
  | ite a t e iht ihe => rintro v ⟨b, u, v1, v2, h1, h2, h3, h4, h5, h6⟩; exact ⟨b, u, v1, v2, h1, by omega, h3, h4.le hc, iht h5, ihe h6⟩
theorem NAAt.le {w : World} {pb c : Nat} (hc : c ≤ pb) {a : NA} {v : Value} (h : NAAt w pb a v) : NAAt w c a v := by
  cases a with
  | var s => obtain ⟨u, h1, h2⟩ := h; exact ⟨u, h1, h2.le hc⟩
  | last s => obtain ⟨b, u, h1, h2, h3, h4⟩ := h; exact ⟨b, u, h1, by omega, h3, h4.le hc⟩
  | idx s i => obtain ⟨b, u, vi, h1, h2, h3, h4, h5⟩ := h; exact ⟨b, u, vi, h1, by omega, h3, h4.le hc, IEAt.le hc h5⟩
theorem LAt.le {α : Type} {rep : World → Nat → Value → α → Prop} {T : TypeId} {w : World} {pb c : Nat} (hc : c ≤ pb) {v : Value} {l : List α} (hr : ∀ x a, rep w pb x a → rep w c x a) (h : LAt rep T w pb v l) : LAt rep T w c v l := by
  obtain ⟨xs, h1, ⟨h2, h5⟩, h3, h4⟩ := h
  refine ⟨xs, h1, ⟨h2, ?_⟩, fun x hx => hr _ _ (h3 x hx), h4⟩
  rcases h5 with h5 | ⟨g, cap, cur, k1, k2, k3⟩
  · exact .inl h5
  · exact .inr ⟨g, cap, cur, k1, by omega, k3⟩
theorem NEAt.le {w : World} {pb c : Nat} (hc : c ≤ pb) {n : NE} {v : Value} (h : NEAt w pb n v) : NEAt w c n v := by
  cases n with
  | atom a => exact NAAt.le hc h
  | choice a az => obtain ⟨b, vl, h1, h2, h3, h4⟩ := h; exact ⟨b, vl, h1, by omega, h3, h4.le hc (fun _ _ => NAAt.le hc)⟩
theorem PAAt.le {w : World} {pb c : Nat} (hc : c ≤ pb) {a : PA} {v : Value} (h : PAAt w pb a v) : PAAt w c a v := by
  cases a with
  | var s => obtain ⟨u, h1, h2⟩ := h; exact ⟨u, h1, h2.le hc⟩
  | pos n => obtain ⟨b, vn, h1, h2, h3, h4⟩ := h; exact ⟨b, vn, h1, by omega, h3, NEAt.le hc h4⟩
  | end_ n => obtain ⟨b, vn, h1, h2, h3, h4⟩ := h; exact ⟨b, vn, h1, by omega, h3, NEAt.le hc h4⟩
theorem AddAt.le {w : World} {pb c : Nat} (hc : c ≤ pb) {a : PA} : ∀ {r : List IE} {v : Value}, AddAt w pb a r v → AddAt w c a r v := by
  intro r
  induction r with
  | nil => exact fun h => PAAt.le hc h
  | cons i r ih => rintro v ⟨b, v0, vi, h1, h2, h3, h4, h5⟩; exact ⟨b, v0, vi, h1, by omega, h3, ih h4, IEAt.le hc h5⟩
theorem PCAt.le {w : World} {pb c : Nat} (hc : c ≤ pb) {e : PC} {v : Value} (h : PCAt w pb e v) : PCAt w c e v := by
  rcases h with ⟨h1, h2⟩ | ⟨h1, b, vl, h2, h3, h4, h5⟩
  · exact .inl ⟨h1, AddAt.le hc h2⟩
  · exact .inr ⟨h1, b, vl, h2, by omega, h4, h5.le hc (fun _ _ => AddAt.le hc)⟩

/-- What Parse gives. -/
def ParseRes (s : ByteArray) (w : World) (e : Ending) (w' : World) : Prop :=
  (∃ x v, parse cls (runesOf s) = some x ∧ e = .returned (.tuple #[v, .nilIface]) ∧ PCAt w' w.heap.size x v ∧ Below w.heap.size w w') ∨
  (parse cls (runesOf s) = none ∧ ∃ b, e = .returned (.tuple #[.nilIface, errV b]) ∧ Below w.heap.size w w')

theorem run_runes (s : ByteArray) (w : World) (hs : s.size ≤ 2147483647) : ∃ cap, (convert 9 43 (.string s)).run Tryd.prog w = .ok (.slice (some ⟨w.heap.size, 0, none⟩) (runesOf s).length cap) (w.drew.alloc (.cells ((rv (runesOf s)).toArray ++ Array.replicate (cap - (runesOf s).length) (.int .i32 0)) 21)) ∧ (runesOf s).length ≤ cap ∧ cap ≤ maxLen := by
  have hl := runesOf_len s
  have hz : (Conv.runesFrom s s.size 0 #[]).size = (runesOf s).length := by rw [runesOf_eq]; simp [rv]
  have h := run_runes_of_string (P := Tryd.prog) w 9 43 21 s Tryd.underlying9 Tryd.underlying43 Tryd.underlying21 (by rw [hz]; omega)
  rw [hz, runesOf_eq] at h
  exact ⟨_, h, grownCap_ge _ _ _ _, grownCap_le_maxLen _ _ _ _ (by unfold maxLen; omega)⟩

theorem At.set {w : World} {pb c : Nat} {R : List Nat} {p : Nat} (h : At w pb R p) (hc : w.cell? ⟨c, 0, none⟩ = some .nilIface) (hn : c ≠ pb) (v : Value) : At (w.setCell ⟨c, 0, none⟩ v) pb R p := by
  obtain ⟨rb, cap, h1, h2, h3, h4, h5⟩ := h.blk
  refine ⟨⟨rb, cap, (Below.heap_setCell _ _ _ _ (Ne.symm hn)).trans h1, h2, h3, h4, fun j hj => ?_⟩, h.le, h.len, h.good⟩
  by_cases hr : rb = c
  · have := h5 0 (by omega)
    rw [hr, hc] at this
    cases this
  · rw [World.cell?_of_block (Below.heap_setCell _ _ _ _ (by show rb ≠ c; exact hr))]
    exact h5 j hj

set_option maxRecDepth 100000 in
set_option maxHeartbeats 2000000 in
theorem parse_any (s : ByteArray) (w : World) (hs : s.size ≤ 2147483647) (hc : Ctx w) : Calls Tryd.prog 8 #[.string s] w (ParseRes s w) := by
  have hmf : ∀ (fn : Fn) (first cap : Array Value) (w : World), (Instr.makeFunc fn first cap).run Tryd.prog w = .ok (.func fn first cap) w := fun _ _ _ _ => rfl
  obtain ⟨R, hR⟩ : ∃ R, runesOf s = R := ⟨_, rfl⟩
  have hRl : R.length ≤ 2147483647 := by rw [← hR]; exact Nat.le_trans (runesOf_len s) hs
  have hRg : ∀ r ∈ R, GR r := by rw [← hR]; exact runesOf_good s
  have e1 : ∀ (w : World) o, (w.alloc o).heap.size = w.heap.size + 1 := fun w o => by show (w.heap.push _).size = _; rw [Array.size_push]
  obtain ⟨cap, hcv, hcap1, hcap2⟩ := run_runes s ((w.alloc (.cells #[.nilIface] 33)).alloc (.cells #[.nilIface] 35)) hs
  rw [hR] at hcv hcap1
  obtain ⟨rows, hrows⟩ : ∃ rows, (rv R).toArray ++ Array.replicate (cap - R.length) (.int .i32 0) = rows := ⟨_, rfl⟩
  rw [hrows] at hcv
  have hrow : ∀ j, (hj : j < R.length) → rows[j]? = some (.int .i32 ((R[j]'hj : Nat) : Int)) := by
    intro j hj
    rw [← hrows, Array.getElem?_append_left (by simp [rv]; exact hj)]
    simp [rv, List.getElem?_eq_getElem hj]
  rw [show ((w.alloc (.cells #[.nilIface] 33)).alloc (.cells #[.nilIface] 35)).heap.size = w.heap.size + 1 + 1 from by rw [e1, e1]] at hcv
  obtain ⟨n, hn⟩ : ∃ n, R.length = n := ⟨_, rfl⟩
  rw [hn] at hcv
  have HR := Lib.hid hR
  have HC := Lib.hid hc
  clear hR hc hrows
  go_enter_defers Tryd.func8, Tryd.ntmps8
  go_wp2_with fail
  have hb0 : Below w.heap.size w ((((w.alloc (.cells #[.nilIface] 33)).alloc (.cells #[.nilIface] 35)).alloc (.cells rows 21)).alloc (.cells #[.slice (some ⟨w.heap.size + 1 + 1, 0, none⟩) n cap, .int .i64 0] 45)).drew :=
    (((((Below.refl _ _).alloc (Nat.le_refl _) _).alloc (by rw [e1]; omega) _).alloc (by rw [e1, e1]; omega) _).alloc (by rw [e1, e1, e1]; omega) _).drew
  have hblk : ∀ (k : Nat), ((((w.alloc (.cells #[.nilIface] 33)).alloc (.cells #[.nilIface] 35)).alloc (.cells rows 21)).alloc (.cells #[.slice (some ⟨w.heap.size + 1 + 1, 0, none⟩) n cap, .int .i64 0] 45)).drew.heap[w.heap.size + k]? = (if k = 0 then some (.cells #[.nilIface] 33 (0, 0)) else if k = 1 then some (.cells #[.nilIface] 35 (0, 0)) else if k = 2 then some (.cells rows 21 (0, 0)) else if k = 3 then some (.cells #[.slice (some ⟨w.heap.size + 1 + 1, 0, none⟩) n cap, .int .i64 0] 45 (0, 0)) else none) := by
    intro k
    show ((((w.heap.push _).push _).push _).push _)[w.heap.size + k]? = _
    simp only [Array.getElem?_push, Array.size_push]
    rcases k with _ | _ | _ | _ | k
    · rw [if_neg (by omega), if_neg (by omega), if_neg (by omega), if_pos (by omega)]; rfl
    · rw [if_neg (by omega), if_neg (by omega), if_pos (by omega)]; rfl
    · rw [if_neg (by omega), if_pos (by omega)]; rfl
    · rw [if_pos (by omega)]; rfl
    · rw [if_neg (by omega), if_neg (by omega), if_neg (by omega), if_neg (by omega), Array.getElem?_eq_none (by omega)]
      simp
  have hsz : ((((w.alloc (.cells #[.nilIface] 33)).alloc (.cells #[.nilIface] 35)).alloc (.cells rows 21)).alloc (.cells #[.slice (some ⟨w.heap.size + 1 + 1, 0, none⟩) n cap, .int .i64 0] 45)).drew.heap.size = w.heap.size + 1 + 1 + 1 + 1 := by
    show ((((w.alloc _).alloc _).alloc _).alloc _).heap.size = _
    rw [e1, e1, e1, e1]
  generalize ((((w.alloc (.cells #[.nilIface] 33)).alloc (.cells #[.nilIface] 35)).alloc (.cells rows 21)).alloc (.cells #[.slice (some ⟨w.heap.size + 1 + 1, 0, none⟩) n cap, .int .i64 0] 45)).drew = W at hb0 hblk hsz ⊢
  have A0 : Hid (At W (w.heap.size + 1 + 1 + 1) R 0) := by
    refine ⟨⟨w.heap.size + 1 + 1, cap, ?_, by omega, hcap1, hcap2, fun j hj => ?_⟩, Nat.zero_le _, hRl, hRg⟩
    · have := hblk 3
      rw [hn]; exact this
    · have := hblk 2
      have h2 : W.heap[w.heap.size + 1 + 1]? = some (.cells rows 21 (0, 0)) := this
      show (W.cell? ⟨w.heap.size + 1 + 1, j, none⟩) = _
      simp [World.cell?, h2, hrow j hj]
  have V0 : Hid (Env W (w.heap.size + 1 + 1 + 1)) := ⟨w, HC.out, hb0, by omega⟩
  have C2 : Hid (W.heap[w.heap.size]? = some (.cells #[.nilIface] 33 (0, 0))) := hblk 0
  have C3 : Hid (W.heap[w.heap.size + 1]? = some (.cells #[.nilIface] 35 (0, 0))) := hblk 1
  have HB0 := Lib.hid hb0
  have HSz := Lib.hid hsz
  have HRn := Lib.hid hn
  clear hb0 hblk hsz hcv hrow hn hcap1 hcap2
  refine (skip_any _ R 0 _ A0.out V0.out).mono ?_
  rintro e w1 ⟨rfl, ⟨q1, hq1, ha1⟩, hf1⟩
  have Q1 := Lib.hid hq1
  have A1 := Lib.hid ha1
  have F1 := Lib.hid hf1
  have V1 := Lib.hid (V0.out.frm hf1 (by simp))
  clear hq1 ha1 hf1
  have hl1 : (R.drop q1).length < R.length + 1 := by rw [List.length_drop]; omega
  go_wp2_with fail
  refine (posChoice_any _ R (R.length + 1) q1 _ hl1 A1.out V1.out).mono ?_
  rintro e w2 (⟨x2, v2, ho, rfl, hr2, ⟨q2, hq2, ha2⟩, hf2⟩ | ⟨ho, ⟨b2, rfl⟩, hf2⟩)
  case inr =>
    have HO : Hid (parse cls R = none) := by
      show parse cls R = none
      unfold parse
      rw [Q1.out, List.drop_zero] at ho
      rw [ho]; rfl
    have hF2 := F1.out.step hf2
    have c2 : w2.heap[w.heap.size]? = some (.cells #[.nilIface] 33 (0, 0)) := (hF2.block _ (block_lt C2.out) (by simp; omega)).trans C2.out
    have c3 : w2.heap[w.heap.size + 1]? = some (.cells #[.nilIface] 35 (0, 0)) := (hF2.block _ (block_lt C3.out) (by simp)).trans C3.out
    have hb2' := ((Frm.ofBelow HB0.out []).trans hF2 (fun x hx => by right; simp at hx; omega)).below
    clear ho hf2 hF2
    have HCc : Hid (w2.heap[w.heap.size]? = some (.cells #[.nilIface] 33 (0, 0))) := c2
    have HCd : Hid (w2.heap[w.heap.size + 1]? = some (.cells #[.nilIface] 35 (0, 0))) := c3
    have HBw : Hid (Below w.heap.size w w2) := hb2'
    unfold errV
    go_wp2_with fail
    refine leaves_cons (f := 10) (args := #[.pointer (some ⟨w.heap.size, 0, none⟩), .pointer (some ⟨w.heap.size + 1, 0, none⟩)]) (by simp) (by simp [go_sem]) ?_
    refine (catchP_fault ⟨w.heap.size, 0, none⟩ ⟨w.heap.size + 1, 0, none⟩ _ .nilIface .nilIface _ (by show w.heap.size ≠ w.heap.size + 1; omega) (block_cell HCc.out 0) (block_free HCc.out 0) (block_cell HCd.out 0) (block_free HCd.out 0)).mono ?_
    rintro e u' w'' ⟨rfl, rfl, rfl⟩
    have k1 : ((w2.setCell ⟨w.heap.size, 0, none⟩ .nilIface).setCell ⟨w.heap.size + 1, 0, none⟩ (errV b2)).cell? ⟨w.heap.size, 0, none⟩ = some .nilIface := by
      rw [World.cell?_of_block (Below.heap_setCell _ _ _ _ (by show w.heap.size ≠ w.heap.size + 1; omega))]
      exact block_cell (block_set HCc.out .nilIface) 0
    have k2 : ((w2.setCell ⟨w.heap.size, 0, none⟩ .nilIface).setCell ⟨w.heap.size + 1, 0, none⟩ (errV b2)).cell? ⟨w.heap.size + 1, 0, none⟩ = some (errV b2) := by
      have h1 : (w2.setCell ⟨w.heap.size, 0, none⟩ .nilIface).heap[w.heap.size + 1]? = some (.cells #[.nilIface] 35 (0, 0)) := (Below.heap_setCell _ _ _ _ (by show w.heap.size + 1 ≠ w.heap.size; omega)).trans HCd.out
      exact block_cell (block_set h1 (errV b2)) 0
    have hF9 : Below w.heap.size w ((w2.setCell ⟨w.heap.size, 0, none⟩ .nilIface).setCell ⟨w.heap.size + 1, 0, none⟩ (errV b2)) := (((Frm.ofBelow HBw.out []).setCell ⟨w.heap.size, 0, none⟩ .nilIface (.inr (Nat.le_refl _))).setCell ⟨w.heap.size + 1, 0, none⟩ (errV b2) (.inr (Nat.le_succ _))).below
    unfold errV at k1 k2 hF9
    generalize (w2.setCell ⟨w.heap.size, 0, none⟩ .nilIface).setCell ⟨w.heap.size + 1, 0, none⟩ (.iface 96 (.pointer (some ⟨b2, 0, none⟩))) = w9 at *
    simp [Leaves, settle, results, Tryd.results8, go_sem, k1, k2]
    exact .inr ⟨by rw [HR.out]; exact HO.out, b2, rfl, hF9⟩
  case inl =>
    obtain ⟨t2, b2, rfl, hb2⟩ := PCAt.iface hr2
    have hF2 := F1.out.step hf2
    have c2 : w2.heap[w.heap.size]? = some (.cells #[.nilIface] 33 (0, 0)) := (hF2.block _ (block_lt C2.out) (by simp; omega)).trans C2.out
    have c3 : w2.heap[w.heap.size + 1]? = some (.cells #[.nilIface] 35 (0, 0)) := (hF2.block _ (block_lt C3.out) (by simp)).trans C3.out
    have y2 : w2.cell? ⟨w.heap.size, 0, none⟩ = some .nilIface := block_cell c2 0
    have z2 : w2.frozen? ⟨w.heap.size, 0, none⟩ = false := block_free c2 0
    have hS := block_set (i := 0) c2 (.iface t2 (.pointer (some ⟨b2, 0, none⟩)))
    have hF3 : Frm w2 (w2.setCell ⟨w.heap.size, 0, none⟩ (.iface t2 (.pointer (some ⟨b2, 0, none⟩)))) [w.heap.size] := (Frm.refl _ _).setCell _ _ (.inl (by simp))
    have hR3 : PCAt (w2.setCell ⟨w.heap.size, 0, none⟩ (.iface t2 (.pointer (some ⟨b2, 0, none⟩)))) w.heap.size x2.1 (.iface t2 (.pointer (some ⟨b2, 0, none⟩))) := PCAt.frm hF3 (PCAt.le (by omega) hr2)
    have hB3 : Below w.heap.size w (w2.setCell ⟨w.heap.size, 0, none⟩ (.iface t2 (.pointer (some ⟨b2, 0, none⟩)))) := ((((Frm.ofBelow HB0.out []).trans hF2 (fun x hx => by right; simp at hx; omega))).trans hF3 (fun x hx => by right; simp at hx; omega)).below
    have hA3 := ha2.set y2 (by omega) (.iface t2 (.pointer (some ⟨b2, 0, none⟩)))
    have hC3 : (w2.setCell ⟨w.heap.size, 0, none⟩ (.iface t2 (.pointer (some ⟨b2, 0, none⟩)))).heap[w.heap.size + 1]? = some (.cells #[.nilIface] 35 (0, 0)) := (Below.heap_setCell _ _ _ _ (by show w.heap.size + 1 ≠ w.heap.size; omega)).trans c3
    have hS' : (w2.setCell ⟨w.heap.size, 0, none⟩ (.iface t2 (.pointer (some ⟨b2, 0, none⟩)))).heap[w.heap.size]? = some (.cells #[.iface t2 (.pointer (some ⟨b2, 0, none⟩))] 33 (0, 0)) := hS
    have E2 := Lib.hid ho
    have Q2 := Lib.hid hq2
    have HS := Lib.hid hS'
    have HR3 := Lib.hid hR3
    have HB3 := Lib.hid hB3
    have HA3 := Lib.hid hA3
    have HC3 := Lib.hid hC3
    clear ho hr2 hq2 ha2 hf2 hF2 c2 c3 hS hS' hF3 hR3 hB3 hA3 hC3
    go_wp2_with fail
    generalize w2.setCell ⟨w.heap.size, 0, none⟩ (.iface t2 (.pointer (some ⟨b2, 0, none⟩))) = w3 at HS HR3 HB3 HA3 HC3 ⊢
    refine (eof_any _ R q2 _ HA3.out).mono ?_
    rintro e w4 ⟨rfl, nq, rfl⟩
    have HO0 : Hid (parse cls R = if (R.drop q2).isEmpty then some x2.1 else none) := by
      show parse cls R = _
      unfold parse
      have := E2.out
      rw [Q1.out, List.drop_zero] at this
      rw [this]
      simp only [Option.bind_some, ← Q2.out]
    by_cases hd : R.length ≤ q2
    · have hdd : decide (R.length ≤ q2) = true := decide_eq_true hd
      have HO : Hid (parse cls R = some x2.1) := by
        show parse cls R = _
        rw [HO0.out, List.drop_eq_nil_of_le hd]; rfl
      rw [hdd]
      have k1 : (w3.drewN nq).cell? ⟨w.heap.size, 0, none⟩ = some (.iface t2 (.pointer (some ⟨b2, 0, none⟩))) := block_cell HS.out 0
      have k2 : (w3.drewN nq).cell? ⟨w.heap.size + 1, 0, none⟩ = some .nilIface := block_cell HC3.out 0
      have hR9 : PCAt (w3.drewN nq) w.heap.size x2.1 (.iface t2 (.pointer (some ⟨b2, 0, none⟩))) := PCAt.frm ((Frm.refl _ _).drewN _) HR3.out
      have hB9 : Below w.heap.size w (w3.drewN nq) := ((Frm.ofBelow HB3.out []).drewN _).below
      go_wp2_with fail
      refine leaves_cons (f := 10) (args := #[.pointer (some ⟨w.heap.size, 0, none⟩), .pointer (some ⟨w.heap.size + 1, 0, none⟩)]) (by simp) (by simp [go_sem]) ?_
      refine (catchP_idle ⟨w.heap.size, 0, none⟩ ⟨w.heap.size + 1, 0, none⟩ _).mono ?_
      rintro e u' w'' ⟨rfl, rfl, rfl⟩
      simp [Leaves, settle, results, Tryd.results8, go_sem, k1, k2]
      exact .inl ⟨x2.1, _, by rw [HR.out]; exact HO.out, rfl, hR9, hB9⟩
    · have hdd : decide (R.length ≤ q2) = false := decide_eq_false hd
      have HO : Hid (parse cls R = none) := by
        show parse cls R = _
        rw [HO0.out]
        cases h : R.drop q2 with
        | nil => have := congrArg List.length h; rw [List.length_drop] at this; simp at this; omega
        | cons a b => rfl
      rw [hdd]
      go_wp2_with fail
      refine (errNew_any _ _).mono ?_
      rintro e w8 ⟨rfl, hb8⟩
      have hF8 : Frm w3 w8 [] := (((Frm.refl w3 []).drewN nq).step (Frm.ofBelow hb8 []))
      have c2 := (hF8.block _ (block_lt HS.out) (by simp)).trans HS.out
      have c3 := (hF8.block _ (block_lt HC3.out) (by simp)).trans HC3.out
      have hb9 : Below w.heap.size w w8 := ((Frm.ofBelow HB3.out []).step hF8).below
      clear hb8 hF8
      have HCc : Hid (w8.heap[w.heap.size]? = some (.cells #[(.iface t2 (.pointer (some ⟨b2, 0, none⟩)))] 33 (0, 0))) := c2
      have HCd : Hid (w8.heap[w.heap.size + 1]? = some (.cells #[.nilIface] 35 (0, 0))) := c3
      have HBw : Hid (Below w.heap.size w w8) := hb9
      unfold errV
      go_wp2_with fail
      refine leaves_cons (f := 10) (args := #[.pointer (some ⟨w.heap.size, 0, none⟩), .pointer (some ⟨w.heap.size + 1, 0, none⟩)]) (by simp) (by simp [go_sem]) ?_
      refine (catchP_fault ⟨w.heap.size, 0, none⟩ ⟨w.heap.size + 1, 0, none⟩ _ (.iface t2 (.pointer (some ⟨b2, 0, none⟩))) .nilIface _ (by show w.heap.size ≠ w.heap.size + 1; omega) (block_cell HCc.out 0) (block_free HCc.out 0) (block_cell HCd.out 0) (block_free HCd.out 0)).mono ?_
      rintro e u' w'' ⟨rfl, rfl, rfl⟩
      have k1 : ((w8.setCell ⟨w.heap.size, 0, none⟩ .nilIface).setCell ⟨w.heap.size + 1, 0, none⟩ (errV w3.heap.size)).cell? ⟨w.heap.size, 0, none⟩ = some .nilIface := by
        rw [World.cell?_of_block (Below.heap_setCell _ _ _ _ (by show w.heap.size ≠ w.heap.size + 1; omega))]
        exact block_cell (block_set HCc.out .nilIface) 0
      have k2 : ((w8.setCell ⟨w.heap.size, 0, none⟩ .nilIface).setCell ⟨w.heap.size + 1, 0, none⟩ (errV w3.heap.size)).cell? ⟨w.heap.size + 1, 0, none⟩ = some (errV w3.heap.size) := by
        have h1 : (w8.setCell ⟨w.heap.size, 0, none⟩ .nilIface).heap[w.heap.size + 1]? = some (.cells #[.nilIface] 35 (0, 0)) := (Below.heap_setCell _ _ _ _ (by show w.heap.size + 1 ≠ w.heap.size; omega)).trans HCd.out
        exact block_cell (block_set h1 (errV w3.heap.size)) 0
      have hF9 : Below w.heap.size w ((w8.setCell ⟨w.heap.size, 0, none⟩ .nilIface).setCell ⟨w.heap.size + 1, 0, none⟩ (errV w3.heap.size)) := (((Frm.ofBelow HBw.out []).setCell ⟨w.heap.size, 0, none⟩ .nilIface (.inr (Nat.le_refl _))).setCell ⟨w.heap.size + 1, 0, none⟩ (errV w3.heap.size) (.inr (Nat.le_succ _))).below
      unfold errV at k1 k2 hF9
      generalize (w8.setCell ⟨w.heap.size, 0, none⟩ .nilIface).setCell ⟨w.heap.size + 1, 0, none⟩ (.iface 96 (.pointer (some ⟨w3.heap.size, 0, none⟩))) = w9 at *
      simp [Leaves, settle, results, Tryd.results8, go_sem, k1, k2]
      exact .inr ⟨by rw [HR.out]; exact HO.out, _, rfl, hF9⟩

end Go.Proofs.YtfhnjgoipajiaaaDoor.pl
