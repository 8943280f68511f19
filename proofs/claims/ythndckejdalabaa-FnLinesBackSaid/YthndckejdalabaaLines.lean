/-
  Contracts of token.zzIndex, token.zzSplit (both at a line feed), File.init, File.ResolvePos. No statement of the seat is proved here.
-/
import Derived.Test.YthndckejdalabaaLinesP
namespace Go.Proofs.Ythndckejdalabaa.lines
open Go.RowKit Go.Proofs.Ythndckejdalabaa.gen

theorem byte_at (s : ByteArray) (k : Nat) (h : k < s.size) : s.data.toList[k]? = some s[k] := by
  have h2 : k < s.data.toList.length := by rw [Array.length_toList]; exact h
  rw [List.getElem?_eq_getElem h2]; rfl

theorem len_toList (s : ByteArray) : s.data.toList.length = s.size := by rw [Array.length_toList]; rfl

theorem ext_one (s : ByteArray) (k : Nat) (h : k < s.size) : (s.extract k (k + 1)).toList = [s[k]] := by
  rw [ByteArray.toList_eq, ByteArray.data_extract, Array.toList_extract, List.extract_eq_take_drop]
  have h2 : k < s.data.toList.length := by rw [Array.length_toList]; exact h
  rw [List.drop_eq_getElem_cons h2, show k + 1 - k = 1 from by omega]
  rfl

theorem ext_take (s : ByteArray) (k : Nat) : s.extract 0 k = ⟨(s.data.toList.take k).toArray⟩ := by
  have h : (s.extract 0 k).data.toList = s.data.toList.take k := by
    rw [ByteArray.data_extract, Array.toList_extract, List.extract_eq_take_drop, List.drop_zero, Nat.sub_zero]
  rw [← h]

theorem ext_drop (s : ByteArray) (k : Nat) : (s.extract k s.size).data.toList = s.data.toList.drop k := by
  rw [ByteArray.data_extract, Array.toList_extract, List.extract_eq_take_drop]
  rw [List.take_of_length_le]
  rw [List.length_drop, len_toList]; exact Nat.le_refl _

theorem index_yes (s : ByteArray) (w : World) (hs : s.size ≤ 2147483648) (h : brk s.data.toList < s.size) :
    Calls Try.prog 29 #[.string s, .string ⟨#[10]⟩] w fun e w' => e = .returned (.int .i64 (brk s.data.toList)) ∧ w = w' := by
  have HB := Lib.hid h
  clear h
  go_enter Try.func29, Try.ntmps29
  go_wp2
  go_loop [5] (fun i => ∃ k : Nat, k ≤ s.size ∧ i = .int .i64 k ∧ Hid (k ≤ brk s.data.toList)) (fun i => s.size - (intOf i).toNat)
  case atStart => exact ⟨0, by omega, rfl, Nat.zero_le _⟩
  case round =>
    obtain ⟨k, hk, rfl, HK⟩ := hrel
    have hlt : k < s.size := Nat.lt_of_le_of_lt HK.out HB.out
    have e1 := ext_one s k hlt
    by_cases hc : s[k] = 10
    · have HE : Hid (brk s.data.toList = k) := brk_at _ k HK.out (by rw [byte_at s k hlt, hc])
      have e2 : ((s.extract k (k + 1)).toList == [10]) = true := by rw [e1, hc]; rfl
      clear e1 hc
      go_wp2
      go_ret
      exact ⟨ret_int (by rw [HE.out]), rfl⟩
    · have HE : Hid (k + 1 ≤ brk s.data.toList) := brk_next _ k HK.out s[k] (byte_at s k hlt) hc
      have e2 : ((s.extract k (k + 1)).toList == [10]) = false := by
        rw [e1, beq_eq_false_iff_ne]; intro e; exact hc (List.cons.inj e).1
      clear e1 hc
      go_wp2
      go_round
      case rel => exact ⟨k + 1, by omega, by go_num, HE⟩
      case measure => simp [intOf]; omega

theorem index_no (s : ByteArray) (w : World) (hs : s.size ≤ 2147483648) (h : ¬ brk s.data.toList < s.size) :
    Calls Try.prog 29 #[.string s, .string ⟨#[10]⟩] w fun e w' => e = .returned (.int .i64 (-1)) ∧ w = w' := by
  have HB := Lib.hid h
  clear h
  go_enter Try.func29, Try.ntmps29
  go_wp2
  go_loop [5] (fun i => ∃ k : Nat, k ≤ s.size ∧ i = .int .i64 k) (fun i => s.size - (intOf i).toNat)
  case atStart => exact ⟨0, by omega, rfl⟩
  case round =>
    obtain ⟨k, hk, rfl⟩ := hrel
    by_cases hlt : k < s.size
    · have e1 := ext_one s k hlt
      have hc : s[k] ≠ 10 := by
        intro hc
        have h1 : s.size ≤ brk s.data.toList := Nat.le_of_not_lt HB.out
        have h2 := brk_at s.data.toList k (by omega) (by rw [byte_at s k hlt, hc])
        omega
      have e2 : ((s.extract k (k + 1)).toList == [10]) = false := by
        rw [e1, beq_eq_false_iff_ne]; intro e; exact hc (List.cons.inj e).1
      clear e1 hc
      go_wp2
      go_round
      case rel => exact ⟨k + 1, by omega, by go_num⟩
      case measure => simp [intOf]; omega
    · go_wp2
      go_ret
      exact ⟨rfl, rfl⟩

def sv (ps : List (List UInt8)) : List Value := ps.map fun p => .string ⟨p.toArray⟩
def strLen : Value → Nat
  | .string b => b.size
  | _ => 0
def Spl (s : ByteArray) (w : World) (e : Ending) (w' : World) : Prop := ∃ v, e = .returned v ∧ OwnC w' w.heap.size v (sv (parts s.data.toList)) ∧ Below w.heap.size w w'

def SplRel (s : ByteArray) (w : World) (t v : Value) (wr : World) : Prop := ∃ (tb : ByteArray) (done : List (List UInt8)), t = .string tb ∧ OwnC wr w.heap.size v (sv done) ∧ done ++ parts tb.data.toList = parts s.data.toList ∧ tb.size ≤ s.size ∧ Below w.heap.size w wr

theorem infoS : (Try.prog.info? 9).map (fun i => (i.zero, i.size, i.bytes)) = some (some (.string ByteArray.empty), 1, 16) := by kernel_rfl

theorem one_str (x : ByteArray) : ∀ u ∈ [Value.string x], u.oneCell' = true := by
  intro u hu; simp at hu; subst hu; rfl

theorem sv_snoc (done : List (List UInt8)) (p : List UInt8) : sv (done ++ [p]) = sv done ++ [.string ⟨p.toArray⟩] := by simp [sv]

set_option maxHeartbeats 1000000 in
theorem split_any (s : ByteArray) (w : World) (hs : s.size ≤ 2147483647) :
    Calls Try.prog 28 #[.string s, .string ⟨#[10]⟩] w (Spl s w) := by
  obtain ⟨i0, hi, hz0, hz1, hz2⟩ := info_parts infoS
  go_enter Try.func28, Try.ntmps28
  go_wp2
  go_loopw [0, 5] (fun t v wr => SplRel s w t v wr) (fun t _ _ => strLen t)
  case atStart => exact ⟨s, [], rfl, OwnC.nil _ _, rfl, Nat.le_refl _, Below.refl _ _⟩
  case round =>
    obtain ⟨tb, done, rfl, hown, hdone, htb, hbel⟩ := hrel
    have HD := Lib.hid hdone
    have hdl : done.length ≤ 2147483648 := by
      have h1 := congrArg List.length hdone
      rw [List.length_append] at h1
      have h2 := parts_le s.data.toList
      rw [len_toList] at h2
      omega
    have hsv : (sv done).length = done.length := by simp [sv]
    have HS := Lib.hid hsv
    clear hdone hsv
    by_cases hb : brk tb.data.toList < tb.size
    · have HB := Lib.hid hb
      have hb2 : 0 ≤ (brk tb.data.toList : Int) := by omega
      go_wp2_with fail
      refine (index_yes tb _ (by omega) HB.out).mono ?_
      rintro e w' ⟨rfl, rfl⟩
      go_wp2_with (at_builtin; refine wpList_append_ownC _ rfl (.tmp 46) (.tmp 50) 48 rfl w.heap.size 9 i0 (.string ByteArray.empty) 16 Try.underlying48 hi hz0 hz1 hz2 rfl _ done.length (sv done) rfl HS.out (hown.alloc _) ⟨wr.heap.size, 0, none⟩ 1 1 [.string (tb.extract 0 (brk tb.data.toList))] rfl rfl (by decide) (cell_one_at _ _ _ _ rfl) (one_str _) (by unfold maxLen; omega) (by omega) (by have := hbel.size; simp; omega) ?_)
      intro g' cap' w1 hown1 hgrow _
      have hown2 : OwnC w1 w.heap.size (.slice (some ⟨g', 0, none⟩) (done.length + 1) cap') (sv (done ++ [tb.data.toList.take (brk tb.data.toList)])) := by
        rw [sv_snoc, ← ext_take]; exact hown1
      have hbel2 : Below w.heap.size w w1 := (hbel.alloc hbel.size _).grown hgrow (by have := hbel.size; simp; omega) fun r hr => (hown.lt r hr).1
      have hd2 : (done ++ [tb.data.toList.take (brk tb.data.toList)]) ++ parts (tb.extract (brk tb.data.toList + 1) tb.size).data.toList = parts s.data.toList := by
        rw [ext_drop, List.append_assoc, List.singleton_append, ← parts_step tb.data.toList (by rw [len_toList]; exact HB.out)]
        exact HD.out
      have HD2 := Lib.hid hd2
      clear hown1 hown hgrow hbel hd2
      go_wp2
      go_roundw
      case rel => exact ⟨_, _, rfl, hown2, HD2.out, by simp; omega, hbel2⟩
      case measure => simp [strLen]; omega
    · have HB := Lib.hid hb
      clear hb
      go_wp2_with fail
      refine (index_no tb _ (by omega) HB.out).mono ?_
      rintro e w' ⟨rfl, rfl⟩
      go_wp2_with (at_builtin; refine wpList_append_ownC _ rfl (.tmp 42) (.tmp 44) 48 rfl w.heap.size 9 i0 (.string ByteArray.empty) 16 Try.underlying48 hi hz0 hz1 hz2 rfl _ done.length (sv done) rfl HS.out (hown.alloc _) ⟨wr.heap.size, 0, none⟩ 1 1 [.string tb] rfl rfl (by decide) (cell_one_at _ _ _ _ rfl) (one_str _) (by unfold maxLen; omega) (by omega) (by have := hbel.size; simp; omega) ?_)
      intro g' cap' w1 hown1 hgrow _
      have hown2 : OwnC w1 w.heap.size (.slice (some ⟨g', 0, none⟩) (done.length + 1) cap') (sv (parts s.data.toList)) := by
        rw [← HD.out, parts_end tb.data.toList (by have := brk_le tb.data.toList; have := HB.out; rw [len_toList] at *; omega), sv_snoc]
        exact hown1
      have hbel2 : Below w.heap.size w w1 := (hbel.alloc hbel.size _).grown hgrow (by have := hbel.size; simp; omega) fun r hr => (hown.lt r hr).1
      clear hown1 hown hgrow hbel
      go_wp2
      go_ret
      exact ⟨_, rfl, hown2, hbel2⟩

def lv (l : List Nat) : List Value := l.map fun (n : Nat) => .int .i64 (n : Int)

theorem infoP : (Try.prog.info? 36).map (fun i => (i.zero, i.size, i.bytes)) = some (some (.int .i64 0), 1, 8) := by kernel_rfl

def FileAt (w : World) (fb : Nat) (fp s : ByteArray) (v : Value) : Prop := w.heap[fb]? = some (.cells #[.string fp, .string s, v] 42 (0, 0))

def Ini (fb : Nat) (fp s : ByteArray) (w : World) (e : Ending) (w' : World) : Prop :=
  e = .returned (.tuple #[]) ∧ ∃ g cap, FileAt w' fb fp s (.slice (some ⟨g, 0, none⟩) (LL 0 s.data.toList).length cap) ∧ OwnC w' (fb + 1) (.slice (some ⟨g, 0, none⟩) (LL 0 s.data.toList).length cap) (lv (LL 0 s.data.toList)) ∧ Frm w w' [fb]

theorem lv_snoc (l : List Nat) (k x : Nat) (h : l[k]? = some x) : lv (l.take (k + 1)) = lv (l.take k) ++ [.int .i64 (x : Int)] := by
  obtain ⟨h1, h2⟩ := List.getElem?_eq_some_iff.1 h
  rw [List.take_succ_eq_append_getElem h1, h2]
  simp [lv]

theorem ll_bound (off : Nat) (l : List UInt8) (k x : Nat) (h : (LL off l)[k]? = some x) : x ≤ off + l.length + 1 := by
  induction l generalizing off k with
  | nil =>
    match k with
    | 0 => simp [LL] at h; omega
    | 1 => simp [LL, lns] at h; simp; omega
    | k + 2 => simp [LL, lns] at h
  | cons c r ih =>
    cases k with
    | zero => simp [LL] at h; omega
    | succ k =>
      have := ih (off + 1) _ (ll_back off c r k x h)
      simp; omega

def IniRel (s : ByteArray) (w : World) (gp : Nat) (vp v i : Value) (wr : World) : Prop :=
  ∃ k g cap : Nat, g ≠ gp ∧ k ≤ (parts s.data.toList).length ∧ i = .int .i64 k ∧ v = .slice (some ⟨g, 0, none⟩) (k + 1) cap ∧ OwnC wr w.heap.size v (lv ((LL 0 s.data.toList).take (k + 1))) ∧ OwnC wr w.heap.size vp (sv (parts s.data.toList)) ∧ Below w.heap.size w wr

set_option maxHeartbeats 1000000 in
theorem init_new (fb : Nat) (fp s : ByteArray) (w : World) (hs : s.size ≤ 2147483647) (hf : FileAt w fb fp s (.slice none 0 0)) :
    Calls Try.prog 27 #[.pointer (some ⟨fb, 0, none⟩)] w (Ini fb fp s w) := by
  obtain ⟨i0, hi, hz0, hz1, hz2⟩ := info_parts infoP
  have hlt := block_lt hf
  have c1 : w.cell? ⟨fb, 1, none⟩ = some (.string s) := block_cell hf 1
  have c2 : w.cell? ⟨fb, 2, none⟩ = some (.slice none 0 0) := block_cell hf 2
  have hq2 := fun (wx : World) (a : Option Addr) (n c n' c' : Nat) => run_neq_slice_nil_any (P := Try.prog) wx 35 36 a n c n' c' Try.underlying35
  have HF := Lib.hid hf
  clear hf
  go_enter Try.func27, Try.ntmps27
  go_wp2_with fail
  refine (split_any s _ hs).mono ?_
  rintro e w1 ⟨v, rfl, hown, hbel⟩
  have hpl : 0 < (parts s.data.toList).length := by
    cases h0 : parts s.data.toList with
    | nil => exact absurd h0 (parts_ne _)
    | cons a b => simp
  have hpm : (parts s.data.toList).length ≤ s.size + 1 := by
    have := parts_le s.data.toList
    rwa [len_toList] at this
  obtain ⟨gp, cp, rfl⟩ := hown.shape (by simp [sv]) hpl
  have hown0 : OwnC w1 w.heap.size (.slice (some ⟨w.heap.size, 0, none⟩) 1 1) (lv ((LL 0 s.data.toList).take 1)) := (OwnC.one w (.int .i64 0) _ w.heap.size (Nat.le_refl _)).below hbel
  have hg0 : w.heap.size ≠ gp := by have := hown.inBlock.1; simp at this; omega
  have hown1 := hown.le (base' := w.heap.size) (by simp)
  have hbel1 : Below w.heap.size w w1 := ((Below.refl _ _).alloc (Nat.le_refl _) _).trans (hbel.mono (by simp))
  clear hown hbel
  go_wp2
  go_loopw [2, 17] (fun v i wr => IniRel s w gp (.slice (some ⟨gp, 0, none⟩) (parts s.data.toList).length cp) v i wr) (fun _ i _ => (parts s.data.toList).length - (intOf i).toNat)
  case atStart => exact ⟨0, _, _, hg0, by omega, rfl, rfl, hown0, hown1, hbel1⟩
  case round =>
    clear hown0 hown1 hbel1 hg0
    obtain ⟨k, g, cap, hgg, hk, rfl, rfl, hown, hownp, hbel⟩ := hrel
    by_cases hlt2 : k < (parts s.data.toList).length
    · obtain ⟨p, hp⟩ : ∃ p, (parts s.data.toList)[k]? = some p := ⟨_, List.getElem?_eq_getElem hlt2⟩
      obtain ⟨x, hx⟩ : ∃ x, (LL 0 s.data.toList)[k]? = some x := ⟨_, List.getElem?_eq_getElem (by rw [ll_len]; omega)⟩
      have hxb := ll_bound 0 _ k x hx
      have hnx := ll_step 0 _ k p x hp hx
      have hnb := ll_bound 0 _ (k + 1) _ hnx
      rw [len_toList] at hxb hnb
      have hcp := hownp.at_ k (.string ⟨p.toArray⟩) (by simp [sv, hp])
      have hcx := hown.at_ k (.int .i64 (x : Int)) (by simp [lv, hx])
      have hpz : (⟨p.toArray⟩ : ByteArray).size = p.length := by show p.toArray.size = _; simp
      have HP := Lib.hid hp
      have HX := Lib.hid hx
      have HN := Lib.hid hnx
      have hll : (lv ((LL 0 s.data.toList).take (k + 1))).length = k + 1 := by
        simp only [lv, List.length_map, List.length_take, ll_len]; omega
      have HL := Lib.hid hll
      clear hp hx hnx hll
      go_wp2_with (at_builtin; refine wpList_append_ownC _ rfl (.tmp 22) (.tmp 31) 35 rfl w.heap.size 36 i0 (.int .i64 0) 8 Try.underlying35 hi hz0 hz1 hz2 rfl _ (k + 1) (lv ((LL 0 s.data.toList).take (k + 1))) rfl HL.out (hown.alloc _) ⟨wr.heap.size, 0, none⟩ 1 1 [.int .i64 ((x : Int) + (p.length : Int) + 1)] rfl rfl (by decide) (cell_one_at _ _ _ _ rfl) (one_int _ _) (by unfold maxLen; omega) (by omega) (by have := hbel.size; simp; omega) ?_)
      intro g' cap' w2 hown3 hgrow hnew
      have hown2 : OwnC w2 w.heap.size (.slice (some ⟨g', 0, none⟩) (k + 1 + 1) cap') (lv ((LL 0 s.data.toList).take (k + 1 + 1))) := by
        rw [lv_snoc _ _ _ HN.out]
        simpa using hown3
      have hgg2 : g' ≠ gp := by
        have h1 := hownp.inBlock.2
        rcases hnew with h2 | h2
        · simp [Value.ownBlock] at h2; omega
        · have h3 := (World.size_alloc wr (.cells #[.int .i64 ((x : Int) + (p.length : Int) + 1)] 36))
          omega
      have hbel2 : Below w.heap.size w w2 := (hbel.alloc hbel.size _).grown hgrow (by have := hbel.size; simp; omega) fun r hr => (hown.lt r hr).1
      have hownp2 := (hownp.alloc (.cells #[.int .i64 ((x : Int) + (p.length : Int) + 1)] 36)).kept hgrow (by simp [Value.ownBlock]; omega)
      clear hown3 hown hgrow hbel hownp hcp hcx hnew hgg
      go_wp2
      go_roundw
      case rel => exact ⟨k + 1, g', cap', hgg2, by omega, by go_num, rfl, hown2, hownp2, hbel2⟩
      case measure => simp [intOf]; omega
    · have hk2 : k = (parts s.data.toList).length := by omega
      subst hk2
      rw [List.take_of_length_le (by rw [ll_len]; exact Nat.le_refl _)] at hown
      have c3 := (hbel.cell (p := ⟨fb, 2, none⟩) hlt).trans c2
      have f3 : wr.frozen? ⟨fb, 2, none⟩ = false := (hbel.frozen (p := ⟨fb, 2, none⟩) hlt).trans (block_free HF.out 2)
      have hfw : FileAt wr fb fp s (.slice none 0 0) := (hbel.block fb hlt).trans HF.out
      have HW := Lib.hid hfw
      clear hownp hfw
      go_wp2
      go_end0
      refine ⟨rfl, g, cap, ?_, ?_, ?_⟩
      · rw [ll_len]; exact block_set HW.out _
      · rw [ll_len]
        exact (hown.frm (S := [fb]) ((Frm.refl _ _).setCell _ _ (.inl (by simp))) (by simp; exact hlt)).le (by omega)
      · exact (Frm.ofBelow hbel _).setCell _ _ (.inl (by simp))

def Res (fb : Nat) (fp s : ByteArray) (p : Nat) (w : World) (e : Ending) (w' : World) : Prop :=
  ∃ line st v, e = .returned (.tuple #[.int .i64 (line : Nat), .int .i64 ((p : Int) - (st : Nat))]) ∧ (LL 0 s.data.toList)[line]? = some st ∧ st ≤ p ∧ (∀ nx, (LL 0 s.data.toList)[line + 1]? = some nx → p < nx) ∧ line < (parts s.data.toList).length ∧
    FileAt w' fb fp s v ∧ OwnC w' (fb + 1) v (lv (LL 0 s.data.toList)) ∧ Frm w w' [fb]

theorem init_old (fb : Nat) (fp s : ByteArray) (g n cap : Nat) (w : World) (hf : FileAt w fb fp s (.slice (some ⟨g, 0, none⟩) n cap)) :
    Calls Try.prog 27 #[.pointer (some ⟨fb, 0, none⟩)] w fun e w' => e = .returned (.tuple #[]) ∧ w = w' := by
  have c2 : w.cell? ⟨fb, 2, none⟩ = some (.slice (some ⟨g, 0, none⟩) n cap) := block_cell hf 2
  have hq2 := fun (wx : World) (a : Option Addr) (n c n' c' : Nat) => run_neq_slice_nil_any (P := Try.prog) wx 35 36 a n c n' c' Try.underlying35
  clear hf
  go_enter Try.func27, Try.ntmps27
  go_wp2
  refine bodyPost_ret (results_none rfl _ _ _) rfl ?_
  exact ⟨rfl, rfl⟩

/-- 'init', whether or not the lines are there already. -/
theorem init_any (fb : Nat) (fp s : ByteArray) (v : Value) (w : World) (hs : s.size ≤ 2147483647) (hf : FileAt w fb fp s v) (hv : v = .slice none 0 0 ∨ OwnC w (fb + 1) v (lv (LL 0 s.data.toList))) :
    Calls Try.prog 27 #[.pointer (some ⟨fb, 0, none⟩)] w (Ini fb fp s w) := by
  rcases hv with rfl | hown
  · exact init_new fb fp s w hs hf
  · obtain ⟨g, cap, rfl⟩ := hown.shape rfl (by simp [lv, LL])
    have hl : (lv (LL 0 s.data.toList)).length = (LL 0 s.data.toList).length := by simp [lv]
    rw [hl] at hown hf
    exact (init_old fb fp s g _ cap w hf).mono fun e w' ⟨he, hw⟩ => ⟨he, g, cap, hw ▸ hf, hw ▸ hown, hw ▸ Frm.refl _ _⟩

set_option maxHeartbeats 1000000 in
theorem resolve_any (fb : Nat) (fp s : ByteArray) (v : Value) (p : Nat) (w : World) (hs : s.size ≤ 2147483647) (hp : p ≤ s.size) (hf : FileAt w fb fp s v) (hv : v = .slice none 0 0 ∨ OwnC w (fb + 1) v (lv (LL 0 s.data.toList))) :
    Calls Try.prog 21 #[.pointer (some ⟨fb, 0, none⟩), .int .i64 p] w (Res fb fp s p w) := by
  go_enter Try.func21, Try.ntmps21
  go_wp2_with (go_at_call 26; go_in)
  refine (init_any fb fp s v _ hs hf hv).mono ?_
  rintro e w1 ⟨rfl, g, cap, hf1, hown, hfrm⟩
  have c2 := block_cell hf1 2
  have hll := ll_len 0 s.data.toList
  have hpl : 0 < (parts s.data.toList).length := by
    cases h0 : parts s.data.toList with
    | nil => exact absurd h0 (parts_ne _)
    | cons a b => simp
  have hpm : (parts s.data.toList).length ≤ s.size + 1 := by
    have := parts_le s.data.toList
    rwa [len_toList] at this
  have h0 : Hid ((LL 0 s.data.toList)[0]? = some 0) := rfl
  have HL := Lib.hid hll
  have HF := Lib.hid hf1
  clear hf hv hf1
  go_wp2
  go_loop [4] (fun i => ∃ k : Nat, k ≤ (LL 0 s.data.toList).length ∧ i = .int .i64 ((k : Int) - 1) ∧ Hid (∀ j x, k ≤ j → (LL 0 s.data.toList)[j]? = some x → p < x)) (fun i => (intOf i + 1).toNat)
  case atStart =>
    exact ⟨_, Nat.le_refl _, by rw [HL.out]; exact congrArg (Value.int IntKind.i64) (by omega), fun j x hj hx => by rw [List.getElem?_eq_none hj] at hx; cases hx⟩
  case round =>
    obtain ⟨k, hk, rfl, HK⟩ := hrel
    cases k with
    | zero => exact absurd (HK.out 0 0 (Nat.le_refl _) h0.out) (Nat.not_lt_zero _)
    | succ k =>
      have e : ((k + 1 : Nat) : Int) - 1 = (k : Int) := by omega
      rw [e]
      clear e
      obtain ⟨x, hx⟩ : ∃ x, (LL 0 s.data.toList)[k]? = some x := ⟨_, List.getElem?_eq_getElem (by omega)⟩
      have hcx := hown.at_ k (.int .i64 (x : Int)) (by simp [lv, hx])
      have hxb := ll_bound 0 _ k x hx
      rw [len_toList] at hxb
      have HX := Lib.hid hx
      clear hx
      by_cases hle : x ≤ p
      · have hle2 : (x : Int) ≤ (p : Int) := by omega
        go_wp2
        go_ret2
        refine ⟨k, x, _, rfl, HX.out, hle, fun nx hnx => HK.out (k + 1) nx (Nat.le_refl _) hnx, ?_, HF.out, hown, hfrm⟩
        have h3 := HL.out
        refine Nat.lt_of_not_le fun hge => ?_
        have h4 : k = (parts s.data.toList).length := by omega
        have h5 := ll_last 0 s.data.toList
        rw [← h4, HX.out, len_toList] at h5
        have := Option.some.inj h5
        omega
      · have hle2 : ¬ (x : Int) ≤ (p : Int) := by omega
        have HN : Hid (∀ j y, k ≤ j → (LL 0 s.data.toList)[j]? = some y → p < y) := by
          intro j y hj hy
          rcases Nat.eq_or_lt_of_le hj with h6 | h6
          · subst h6
            rw [HX.out] at hy
            have := Option.some.inj hy
            omega
          · exact HK.out j y h6 hy
        go_wp2
        go_round
        case rel => exact ⟨k, by omega, rfl, HN⟩
        case measure => simp [intOf]

end Go.Proofs.Ythndckejdalabaa.lines
