/-
  Lemmas and contracts of this claim, texts Lines, Shelf, PosA, Pos, Fault, FaultL, AsF, AsE, Place, EndP. No statement of the seat is proved here.
-/
import Derived.Test.YtngofbhlhcalpaaGreatDoorZ00
import Derived.Shelf.Strings.Builder1
import Derived.Shelf.Strings.Builder2
import Derived.Shelf.Strings.BuilderF
import Derived.Shelf.Strings.BuilderK
import Derived.Shelf.Utf8.AppendRunePlain
import Derived.Shelf.Strconv.Itoa0
import Derived.Shelf.Strconv.Itoa1
import Derived.Shelf.LaysM
import Derived.Shelf.Strconv.Itoa2
import Derived.Shelf.Strconv.Itoa3
import Derived.Shelf.Bytes.Len
import Derived.Shelf.Bytes.TryGrow
import Derived.Shelf.Bytes.GrowSliceCatch
import Derived.Shelf.Bytes.GrowSlice
import Derived.Shelf.Bytes.String
import Derived.Shelf.Strconv.Clone
import Derived.Shelf.Strconv.SyntaxError
import Derived.Shelf.LaysC
import Derived.Shelf.Strconv.ToError
import Derived.Shelf.Strconv.Lower
import Derived.Shelf.Strconv.RangeError
import Derived.Shelf.Strconv.ToErrorRange
import Derived.Shelf.Bytes.GrowRow0Kept
import Derived.Shelf.Bytes.GrowRowKept
import Derived.Shelf.Bytes.GrowNilKept
import Derived.Shelf.Bytes.GrowKept
import Derived.Shelf.Bytes.WriteByteKept
import Derived.Shelf.Bytes.WriteStringKept
import Derived.Shelf.Bytes.ResetKept
import Derived.Shelf.Bytes.BufferK
import Derived.Shelf.Bytes.GrowRow0Own
import Derived.Shelf.Bytes.GrowRowOwn
import Derived.Shelf.Bytes.GrowNilOwn
import Derived.Shelf.Bytes.GrowOwn
import Derived.Ground.MzProg
import Derived.Shelf.Wr.WriteRuneAscii
import Derived.Shelf.Wr.WriteRune
import Derived.Shelf.Strings.Prefix
import Derived.Shelf.Unicode.Latin
import Derived.Shelf.Unicode.Decode
import Derived.Shelf.Bits.Mul64
import Derived.Shelf.Strings.Repeat
import Derived.Shelf.Unicode.DecodeSlow
import Derived.Shelf.Unicode.DecodeAny
import Derived.Shelf.Unicode.Is16White
import Derived.Shelf.Unicode.IsSpaceAny
import Derived.Shelf.Unicode.Is16WhiteD
import Derived.Shelf.Unicode.IsSpaceAnyD
import Derived.Shelf.Unicode.Is16Any
import Derived.Shelf.Unicode.Is32Any
import Derived.Shelf.Unicode.ExclAny
import Derived.Test.YtngofbhlhcalpaaGreatDoorChecked
import Derived.Lib.ItoaLen
import Derived.Lib.BufferOld
import Derived.Deep.DeepCutAuto
import Derived.Deep.CutBlock
import Derived.Deep.LoopGhost
import Derived.StillTailTactics
import Derived.Deep.RegionWith
import Derived.LaidEql
import Derived.Stop.Asserts
import Derived.RowKitTokens
namespace Go.Proofs.YtngofbhlhcalpaaGreatDoor.lines
open Go.RowKit Go.Proofs.YtngofbhlhcalpaaGreatDoor.gen

theorem byte_at (s : ByteArray) (k : Nat) (h : k < s.size) : s.data.toList[k]? = some s[k] := by
  have h2 : k < s.data.toList.length := by rw [Array.length_toList]; exact h
  rw [List.getElem?_eq_getElem h2]; rfl

theorem len_toList (s : ByteArray) : s.data.toList.length = s.size := by rw [Array.length_toList]; rfl

theorem ext_one (s : ByteArray) (k : Nat) (h : k < s.size) : (s.extract k (k + 1)).toList = [s[k]] := by
  rw [ByteArray.toList_eq, ByteArray.data_extract, Array.toList_extract, List.extract_eq_take_drop]
  have h2 : k < s.data.toList.length := by rw [Array.length_toList]; exact h
  rw [List.drop_eq_getElem_cons h2, show k + 1 - k = 1 from by omega]
  rfl

theorem ext_take (s : ByteArray) (k : Nat) : s.extract 0 k = ⟨(s.data.toList.take k).toArray⟩ := by
  have h : (s.extract 0 k).data.toList = s.data.toList.take k := by
    rw [ByteArray.data_extract, Array.toList_extract, List.extract_eq_take_drop, List.drop_zero, Nat.sub_zero]
  rw [← h]

theorem ext_drop (s : ByteArray) (k : Nat) : (s.extract k s.size).data.toList = s.data.toList.drop k := by
  rw [ByteArray.data_extract, Array.toList_extract, List.extract_eq_take_drop]
  rw [List.take_of_length_le]
  rw [List.length_drop, len_toList]; exact Nat.le_refl _

theorem index_yes (s : ByteArray) (w : World) (hs : s.size ≤ 2147483648) (h : brk s.data.toList < s.size) :
    Calls Tryz.prog 147 #[.string s, .string ⟨#[10]⟩] w fun e w' => e = .returned (.int .i64 (brk s.data.toList)) ∧ w = w' := by
  have HB := Lib.hid h
  clear h
  go_enter Tryz.func147, Tryz.ntmps147
  go_wp2
  go_loop [5] (fun i => ∃ k : Nat, k ≤ s.size ∧ i = .int .i64 k ∧ Hid (k ≤ brk s.data.toList)) (fun i => s.size - (intOf i).toNat)
  case atStart => exact ⟨0, by omega, rfl, Nat.zero_le _⟩
  case round =>
    obtain ⟨k, hk, rfl, HK⟩ := hrel
    have hlt : k < s.size := Nat.lt_of_le_of_lt HK.out HB.out
    have e1 := ext_one s k hlt
    by_cases hc : s[k] = 10
    · have HE : Hid (brk s.data.toList = k) := brk_at _ k HK.out (by rw [byte_at s k hlt, hc])
      have e2 : ((s.extract k (k + 1)).toList == [10]) = true := by rw [e1, hc]; rfl
      clear e1 hc
      go_wp2
      go_ret
      exact ⟨ret_int (by rw [HE.out]), rfl⟩
    · have HE : Hid (k + 1 ≤ brk s.data.toList) := brk_next _ k HK.out s[k] (byte_at s k hlt) hc
      have e2 : ((s.extract k (k + 1)).toList == [10]) = false := by
        rw [e1, beq_eq_false_iff_ne]; intro e; exact hc (List.cons.inj e).1
      clear e1 hc
      go_wp2
      go_round
      case rel => exact ⟨k + 1, by omega, by go_num, HE⟩
      case measure => simp [intOf]; omega

theorem index_no (s : ByteArray) (w : World) (hs : s.size ≤ 2147483648) (h : ¬ brk s.data.toList < s.size) :
    Calls Tryz.prog 147 #[.string s, .string ⟨#[10]⟩] w fun e w' => e = .returned (.int .i64 (-1)) ∧ w = w' := by
  have HB := Lib.hid h
  clear h
  go_enter Tryz.func147, Tryz.ntmps147
  go_wp2
  go_loop [5] (fun i => ∃ k : Nat, k ≤ s.size ∧ i = .int .i64 k) (fun i => s.size - (intOf i).toNat)
  case atStart => exact ⟨0, by omega, rfl⟩
  case round =>
    obtain ⟨k, hk, rfl⟩ := hrel
    by_cases hlt : k < s.size
    · have e1 := ext_one s k hlt
      have hc : s[k] ≠ 10 := by
        intro hc
        have h1 : s.size ≤ brk s.data.toList := Nat.le_of_not_lt HB.out
        have h2 := brk_at s.data.toList k (by omega) (by rw [byte_at s k hlt, hc])
        omega
      have e2 : ((s.extract k (k + 1)).toList == [10]) = false := by
        rw [e1, beq_eq_false_iff_ne]; intro e; exact hc (List.cons.inj e).1
      clear e1 hc
      go_wp2
      go_round
      case rel => exact ⟨k + 1, by omega, by go_num⟩
      case measure => simp [intOf]; omega
    · go_wp2
      go_ret
      exact ⟨rfl, rfl⟩

def sv (ps : List (List UInt8)) : List Value := ps.map fun p => .string ⟨p.toArray⟩
def strLen : Value → Nat
  | .string b => b.size
  | _ => 0
def Spl (s : ByteArray) (w : World) (e : Ending) (w' : World) : Prop := ∃ v, e = .returned v ∧ OwnC w' w.heap.size v (sv (parts s.data.toList)) ∧ Below w.heap.size w w'

def SplRel (s : ByteArray) (w : World) (t v : Value) (wr : World) : Prop := ∃ (tb : ByteArray) (done : List (List UInt8)), t = .string tb ∧ OwnC wr w.heap.size v (sv done) ∧ done ++ parts tb.data.toList = parts s.data.toList ∧ tb.size ≤ s.size ∧ Below w.heap.size w wr

theorem infoS : (Tryz.prog.info? 9).map (fun i => (i.zero, i.size, i.bytes)) = some (some (.string ByteArray.empty), 1, 16) := by kernel_rfl

theorem one_str (x : ByteArray) : ∀ u ∈ [Value.string x], u.oneCell' = true := by
  intro u hu; simp at hu; subst hu; rfl

theorem sv_snoc (done : List (List UInt8)) (p : List UInt8) : sv (done ++ [p]) = sv done ++ [.string ⟨p.toArray⟩] := by simp [sv]

set_option maxRecDepth 100000 in
set_option maxHeartbeats 1000000 in
theorem split_any (s : ByteArray) (w : World) (hs : s.size ≤ 2147483647) :
    Calls Tryz.prog 140 #[.string s, .string ⟨#[10]⟩] w (Spl s w) := by
  obtain ⟨i0, hi, hz0, hz1, hz2⟩ := info_parts infoS
  go_enter Tryz.func140, Tryz.ntmps140
  go_wp2
  go_loopw [0, 5] (fun t v wr => SplRel s w t v wr) (fun t _ _ => strLen t)
  case atStart => exact ⟨s, [], rfl, OwnC.nil _ _, rfl, Nat.le_refl _, Below.refl _ _⟩
  case round =>
    obtain ⟨tb, done, rfl, hown, hdone, htb, hbel⟩ := hrel
    have HD := Lib.hid hdone
    have hdl : done.length ≤ 2147483648 := by
      have h1 := congrArg List.length hdone
      rw [List.length_append] at h1
      have h2 := parts_le s.data.toList
      rw [len_toList] at h2
      omega
    have hsv : (sv done).length = done.length := by simp [sv]
    have HS := Lib.hid hsv
    clear hdone hsv
    by_cases hb : brk tb.data.toList < tb.size
    · have HB := Lib.hid hb
      have hb2 : 0 ≤ (brk tb.data.toList : Int) := by omega
      go_wp2_with fail
      refine (index_yes tb _ (by omega) HB.out).mono ?_
      rintro e w' ⟨rfl, rfl⟩
      go_wp2_with (at_builtin; refine wpList_append_ownC _ rfl (.tmp 46) (.tmp 50) 208 rfl w.heap.size 9 i0 (.string ByteArray.empty) 16 Tryz.underlying208 hi hz0 hz1 hz2 rfl _ done.length (sv done) rfl HS.out (hown.alloc _) ⟨wr.heap.size, 0, none⟩ 1 1 [.string (tb.extract 0 (brk tb.data.toList))] rfl rfl (by decide) (cell_one_at _ _ _ _ rfl) (one_str _) (by unfold maxLen; omega) (by omega) (by have := hbel.size; simp; omega) ?_)
      intro g' cap' w1 hown1 hgrow _
      have hown2 : OwnC w1 w.heap.size (.slice (some ⟨g', 0, none⟩) (done.length + 1) cap') (sv (done ++ [tb.data.toList.take (brk tb.data.toList)])) := by
        rw [sv_snoc, ← ext_take]; exact hown1
      have hbel2 : Below w.heap.size w w1 := (hbel.alloc hbel.size _).grown hgrow (by have := hbel.size; simp; omega) fun r hr => (hown.lt r hr).1
      have hd2 : (done ++ [tb.data.toList.take (brk tb.data.toList)]) ++ parts (tb.extract (brk tb.data.toList + 1) tb.size).data.toList = parts s.data.toList := by
        rw [ext_drop, List.append_assoc, List.singleton_append, ← parts_step tb.data.toList (by rw [len_toList]; exact HB.out)]
        exact HD.out
      have HD2 := Lib.hid hd2
      clear hown1 hown hgrow hbel hd2
      go_wp2
      go_roundw
      case rel => exact ⟨_, _, rfl, hown2, HD2.out, by simp; omega, hbel2⟩
      case measure => simp [strLen]; omega
    · have HB := Lib.hid hb
      clear hb
      go_wp2_with fail
      refine (index_no tb _ (by omega) HB.out).mono ?_
      rintro e w' ⟨rfl, rfl⟩
      go_wp2_with (at_builtin; refine wpList_append_ownC _ rfl (.tmp 42) (.tmp 44) 208 rfl w.heap.size 9 i0 (.string ByteArray.empty) 16 Tryz.underlying208 hi hz0 hz1 hz2 rfl _ done.length (sv done) rfl HS.out (hown.alloc _) ⟨wr.heap.size, 0, none⟩ 1 1 [.string tb] rfl rfl (by decide) (cell_one_at _ _ _ _ rfl) (one_str _) (by unfold maxLen; omega) (by omega) (by have := hbel.size; simp; omega) ?_)
      intro g' cap' w1 hown1 hgrow _
      have hown2 : OwnC w1 w.heap.size (.slice (some ⟨g', 0, none⟩) (done.length + 1) cap') (sv (parts s.data.toList)) := by
        rw [← HD.out, parts_end tb.data.toList (by have := brk_le tb.data.toList; have := HB.out; rw [len_toList] at *; omega), sv_snoc]
        exact hown1
      have hbel2 : Below w.heap.size w w1 := (hbel.alloc hbel.size _).grown hgrow (by have := hbel.size; simp; omega) fun r hr => (hown.lt r hr).1
      clear hown1 hown hgrow hbel
      go_wp2
      go_ret
      exact ⟨_, rfl, hown2, hbel2⟩

def lv (l : List Nat) : List Value := l.map fun (n : Nat) => .int .i64 (n : Int)

theorem infoP : (Tryz.prog.info? 59).map (fun i => (i.zero, i.size, i.bytes)) = some (some (.int .i64 0), 1, 8) := by kernel_rfl

def FileAt (w : World) (fb : Nat) (fp s : ByteArray) (v : Value) : Prop := w.heap[fb]? = some (.cells #[.string fp, .string s, v] 71 (0, 0))

def Ini (fb : Nat) (fp s : ByteArray) (w : World) (e : Ending) (w' : World) : Prop :=
  e = .returned (.tuple #[]) ∧ ∃ g cap, FileAt w' fb fp s (.slice (some ⟨g, 0, none⟩) (LL 0 s.data.toList).length cap) ∧ OwnC w' (fb + 1) (.slice (some ⟨g, 0, none⟩) (LL 0 s.data.toList).length cap) (lv (LL 0 s.data.toList)) ∧ Frm w w' [fb]

theorem lv_snoc (l : List Nat) (k x : Nat) (h : l[k]? = some x) : lv (l.take (k + 1)) = lv (l.take k) ++ [.int .i64 (x : Int)] := by
  obtain ⟨h1, h2⟩ := List.getElem?_eq_some_iff.1 h
  rw [List.take_succ_eq_append_getElem h1, h2]
  simp [lv]

theorem ll_bound (off : Nat) (l : List UInt8) (k x : Nat) (h : (LL off l)[k]? = some x) : x ≤ off + l.length + 1 := by
  induction l generalizing off k with
  | nil =>
    match k with
    | 0 => simp [LL] at h; omega
    | 1 => simp [LL, lns] at h; simp; omega
    | k + 2 => simp [LL, lns] at h
  | cons c r ih =>
    cases k with
    | zero => simp [LL] at h; omega
    | succ k =>
      have := ih (off + 1) _ (ll_back off c r k x h)
      simp; omega

def IniRel (s : ByteArray) (w : World) (gp : Nat) (vp v i : Value) (wr : World) : Prop :=
  ∃ k g cap : Nat, g ≠ gp ∧ k ≤ (parts s.data.toList).length ∧ i = .int .i64 k ∧ v = .slice (some ⟨g, 0, none⟩) (k + 1) cap ∧ OwnC wr w.heap.size v (lv ((LL 0 s.data.toList).take (k + 1))) ∧ OwnC wr w.heap.size vp (sv (parts s.data.toList)) ∧ Below w.heap.size w wr

set_option maxRecDepth 100000 in
set_option maxHeartbeats 1000000 in
theorem init_new (fb : Nat) (fp s : ByteArray) (w : World) (hs : s.size ≤ 2147483647) (hf : FileAt w fb fp s (.slice none 0 0)) :
    Calls Tryz.prog 128 #[.pointer (some ⟨fb, 0, none⟩)] w (Ini fb fp s w) := by
  obtain ⟨i0, hi, hz0, hz1, hz2⟩ := info_parts infoP
  have hlt := block_lt hf
  have c1 : w.cell? ⟨fb, 1, none⟩ = some (.string s) := block_cell hf 1
  have c2 : w.cell? ⟨fb, 2, none⟩ = some (.slice none 0 0) := block_cell hf 2
  have hq2 := fun (wx : World) (a : Option Addr) (n c n' c' : Nat) => run_neq_slice_nil_any (P := Tryz.prog) wx 69 59 a n c n' c' Tryz.underlying69
  have HF := Lib.hid hf
  clear hf
  go_enter Tryz.func128, Tryz.ntmps128
  go_wp2_with fail
  refine (split_any s _ hs).mono ?_
  rintro e w1 ⟨v, rfl, hown, hbel⟩
  have hpl : 0 < (parts s.data.toList).length := by
    cases h0 : parts s.data.toList with
    | nil => exact absurd h0 (parts_ne _)
    | cons a b => simp
  have hpm : (parts s.data.toList).length ≤ s.size + 1 := by
    have := parts_le s.data.toList
    rwa [len_toList] at this
  obtain ⟨gp, cp, rfl⟩ := hown.shape (by simp [sv]) hpl
  have hown0 : OwnC w1 w.heap.size (.slice (some ⟨w.heap.size, 0, none⟩) 1 1) (lv ((LL 0 s.data.toList).take 1)) := (OwnC.one w (.int .i64 0) _ w.heap.size (Nat.le_refl _)).below hbel
  have hg0 : w.heap.size ≠ gp := by have := hown.inBlock.1; simp at this; omega
  have hown1 := hown.le (base' := w.heap.size) (by simp)
  have hbel1 : Below w.heap.size w w1 := ((Below.refl _ _).alloc (Nat.le_refl _) _).trans (hbel.mono (by simp))
  clear hown hbel
  go_wp2
  go_loopw [2, 17] (fun v i wr => IniRel s w gp (.slice (some ⟨gp, 0, none⟩) (parts s.data.toList).length cp) v i wr) (fun _ i _ => (parts s.data.toList).length - (intOf i).toNat)
  case atStart => exact ⟨0, _, _, hg0, by omega, rfl, rfl, hown0, hown1, hbel1⟩
  case round =>
    clear hown0 hown1 hbel1 hg0
    obtain ⟨k, g, cap, hgg, hk, rfl, rfl, hown, hownp, hbel⟩ := hrel
    by_cases hlt2 : k < (parts s.data.toList).length
    · obtain ⟨p, hp⟩ : ∃ p, (parts s.data.toList)[k]? = some p := ⟨_, List.getElem?_eq_getElem hlt2⟩
      obtain ⟨x, hx⟩ : ∃ x, (LL 0 s.data.toList)[k]? = some x := ⟨_, List.getElem?_eq_getElem (by rw [ll_len]; omega)⟩
      have hxb := ll_bound 0 _ k x hx
      have hnx := ll_step 0 _ k p x hp hx
      have hnb := ll_bound 0 _ (k + 1) _ hnx
      rw [len_toList] at hxb hnb
      have hcp := hownp.at_ k (.string ⟨p.toArray⟩) (by simp [sv, hp])
      have hcx := hown.at_ k (.int .i64 (x : Int)) (by simp [lv, hx])
      have hpz : (⟨p.toArray⟩ : ByteArray).size = p.length := by show p.toArray.size = _; simp
      have HP := Lib.hid hp
      have HX := Lib.hid hx
      have HN := Lib.hid hnx
      have hll : (lv ((LL 0 s.data.toList).take (k + 1))).length = k + 1 := by
        simp only [lv, List.length_map, List.length_take, ll_len]; omega
      have HL := Lib.hid hll
      clear hp hx hnx hll
      go_wp2_with (at_builtin; refine wpList_append_ownC _ rfl (.tmp 22) (.tmp 31) 69 rfl w.heap.size 59 i0 (.int .i64 0) 8 Tryz.underlying69 hi hz0 hz1 hz2 rfl _ (k + 1) (lv ((LL 0 s.data.toList).take (k + 1))) rfl HL.out (hown.alloc _) ⟨wr.heap.size, 0, none⟩ 1 1 [.int .i64 ((x : Int) + (p.length : Int) + 1)] rfl rfl (by decide) (cell_one_at _ _ _ _ rfl) (one_int _ _) (by unfold maxLen; omega) (by omega) (by have := hbel.size; simp; omega) ?_)
      intro g' cap' w2 hown3 hgrow hnew
      have hown2 : OwnC w2 w.heap.size (.slice (some ⟨g', 0, none⟩) (k + 1 + 1) cap') (lv ((LL 0 s.data.toList).take (k + 1 + 1))) := by
        rw [lv_snoc _ _ _ HN.out]
        simpa using hown3
      have hgg2 : g' ≠ gp := by
        have h1 := hownp.inBlock.2
        rcases hnew with h2 | h2
        · simp [Value.ownBlock] at h2; omega
        · have h3 := (World.size_alloc wr (.cells #[.int .i64 ((x : Int) + (p.length : Int) + 1)] 59))
          omega
      have hbel2 : Below w.heap.size w w2 := (hbel.alloc hbel.size _).grown hgrow (by have := hbel.size; simp; omega) fun r hr => (hown.lt r hr).1
      have hownp2 := (hownp.alloc (.cells #[.int .i64 ((x : Int) + (p.length : Int) + 1)] 59)).kept hgrow (by simp [Value.ownBlock]; omega)
      clear hown3 hown hgrow hbel hownp hcp hcx hnew hgg
      go_wp2
      go_roundw
      case rel => exact ⟨k + 1, g', cap', hgg2, by omega, by go_num, rfl, hown2, hownp2, hbel2⟩
      case measure => simp [intOf]; omega
    · have hk2 : k = (parts s.data.toList).length := by omega
      subst hk2
      rw [List.take_of_length_le (by rw [ll_len]; exact Nat.le_refl _)] at hown
      have c3 := (hbel.cell (p := ⟨fb, 2, none⟩) hlt).trans c2
      have f3 : wr.frozen? ⟨fb, 2, none⟩ = false := (hbel.frozen (p := ⟨fb, 2, none⟩) hlt).trans (block_free HF.out 2)
      have hfw : FileAt wr fb fp s (.slice none 0 0) := (hbel.block fb hlt).trans HF.out
      have HW := Lib.hid hfw
      clear hownp hfw
      go_wp2
      go_end0
      refine ⟨rfl, g, cap, ?_, ?_, ?_⟩
      · rw [ll_len]; exact block_set HW.out _
      · rw [ll_len]
        exact (hown.frm (S := [fb]) ((Frm.refl _ _).setCell _ _ (.inl (by simp))) (by simp; exact hlt)).le (by omega)
      · exact (Frm.ofBelow hbel _).setCell _ _ (.inl (by simp))

def Res (fb : Nat) (fp s : ByteArray) (p : Nat) (w : World) (e : Ending) (w' : World) : Prop :=
  ∃ line st v, e = .returned (.tuple #[.int .i64 (line : Nat), .int .i64 ((p : Int) - (st : Nat))]) ∧ (LL 0 s.data.toList)[line]? = some st ∧ st ≤ p ∧ (∀ nx, (LL 0 s.data.toList)[line + 1]? = some nx → p < nx) ∧ line < (parts s.data.toList).length ∧
    FileAt w' fb fp s v ∧ OwnC w' (fb + 1) v (lv (LL 0 s.data.toList)) ∧ Frm w w' [fb]

theorem init_old (fb : Nat) (fp s : ByteArray) (g n cap : Nat) (w : World) (hf : FileAt w fb fp s (.slice (some ⟨g, 0, none⟩) n cap)) :
    Calls Tryz.prog 128 #[.pointer (some ⟨fb, 0, none⟩)] w fun e w' => e = .returned (.tuple #[]) ∧ w = w' := by
  have c2 : w.cell? ⟨fb, 2, none⟩ = some (.slice (some ⟨g, 0, none⟩) n cap) := block_cell hf 2
  have hq2 := fun (wx : World) (a : Option Addr) (n c n' c' : Nat) => run_neq_slice_nil_any (P := Tryz.prog) wx 69 59 a n c n' c' Tryz.underlying69
  clear hf
  go_enter Tryz.func128, Tryz.ntmps128
  go_wp2
  refine bodyPost_ret (results_none rfl _ _ _) rfl ?_
  exact ⟨rfl, rfl⟩

/-- 'init', whether or not the lines are there already. -/
theorem init_any (fb : Nat) (fp s : ByteArray) (v : Value) (w : World) (hs : s.size ≤ 2147483647) (hf : FileAt w fb fp s v) (hv : v = .slice none 0 0 ∨ OwnC w (fb + 1) v (lv (LL 0 s.data.toList))) :
    Calls Tryz.prog 128 #[.pointer (some ⟨fb, 0, none⟩)] w (Ini fb fp s w) := by
  rcases hv with rfl | hown
  · exact init_new fb fp s w hs hf
  · obtain ⟨g, cap, rfl⟩ := hown.shape rfl (by simp [lv, LL])
    have hl : (lv (LL 0 s.data.toList)).length = (LL 0 s.data.toList).length := by simp [lv]
    rw [hl] at hown hf
    exact (init_old fb fp s g _ cap w hf).mono fun e w' ⟨he, hw⟩ => ⟨he, g, cap, hw ▸ hf, hw ▸ hown, hw ▸ Frm.refl _ _⟩

set_option maxRecDepth 100000 in
set_option maxHeartbeats 1000000 in
theorem resolve_any (fb : Nat) (fp s : ByteArray) (v : Value) (p : Nat) (w : World) (hs : s.size ≤ 2147483647) (hp : p ≤ s.size) (hf : FileAt w fb fp s v) (hv : v = .slice none 0 0 ∨ OwnC w (fb + 1) v (lv (LL 0 s.data.toList))) :
    Calls Tryz.prog 113 #[.pointer (some ⟨fb, 0, none⟩), .int .i64 p] w (Res fb fp s p w) := by
  go_enter Tryz.func113, Tryz.ntmps113
  go_wp2_with (go_at_call 114; go_in)
  refine (init_any fb fp s v _ hs hf hv).mono ?_
  rintro e w1 ⟨rfl, g, cap, hf1, hown, hfrm⟩
  have c2 := block_cell hf1 2
  have hll := ll_len 0 s.data.toList
  have hpl : 0 < (parts s.data.toList).length := by
    cases h0 : parts s.data.toList with
    | nil => exact absurd h0 (parts_ne _)
    | cons a b => simp
  have hpm : (parts s.data.toList).length ≤ s.size + 1 := by
    have := parts_le s.data.toList
    rwa [len_toList] at this
  have h0 : Hid ((LL 0 s.data.toList)[0]? = some 0) := rfl
  have HL := Lib.hid hll
  have HF := Lib.hid hf1
  clear hf hv hf1
  go_wp2
  go_loop [4] (fun i => ∃ k : Nat, k ≤ (LL 0 s.data.toList).length ∧ i = .int .i64 ((k : Int) - 1) ∧ Hid (∀ j x, k ≤ j → (LL 0 s.data.toList)[j]? = some x → p < x)) (fun i => (intOf i + 1).toNat)
  case atStart =>
    exact ⟨_, Nat.le_refl _, by rw [HL.out]; exact congrArg (Value.int IntKind.i64) (by omega), fun j x hj hx => by rw [List.getElem?_eq_none hj] at hx; cases hx⟩
  case round =>
    obtain ⟨k, hk, rfl, HK⟩ := hrel
    cases k with
    | zero => exact absurd (HK.out 0 0 (Nat.le_refl _) h0.out) (Nat.not_lt_zero _)
    | succ k =>
      have e : ((k + 1 : Nat) : Int) - 1 = (k : Int) := by omega
      rw [e]
      clear e
      obtain ⟨x, hx⟩ : ∃ x, (LL 0 s.data.toList)[k]? = some x := ⟨_, List.getElem?_eq_getElem (by omega)⟩
      have hcx := hown.at_ k (.int .i64 (x : Int)) (by simp [lv, hx])
      have hxb := ll_bound 0 _ k x hx
      rw [len_toList] at hxb
      have HX := Lib.hid hx
      clear hx
      by_cases hle : x ≤ p
      · have hle2 : (x : Int) ≤ (p : Int) := by omega
        go_wp2
        go_ret2
        refine ⟨k, x, _, rfl, HX.out, hle, fun nx hnx => HK.out (k + 1) nx (Nat.le_refl _) hnx, ?_, HF.out, hown, hfrm⟩
        have h3 := HL.out
        refine Nat.lt_of_not_le fun hge => ?_
        have h4 : k = (parts s.data.toList).length := by omega
        have h5 := ll_last 0 s.data.toList
        rw [← h4, HX.out, len_toList] at h5
        have := Option.some.inj h5
        omega
      · have hle2 : ¬ (x : Int) ≤ (p : Int) := by omega
        have HN : Hid (∀ j y, k ≤ j → (LL 0 s.data.toList)[j]? = some y → p < y) := by
          intro j y hj hy
          rcases Nat.eq_or_lt_of_le hj with h6 | h6
          · subst h6
            rw [HX.out] at hy
            have := Option.some.inj hy
            omega
          · exact HK.out j y h6 hy
        go_wp2
        go_round
        case rel => exact ⟨k, by omega, rfl, HN⟩
        case measure => simp [intOf]

end Go.Proofs.YtngofbhlhcalpaaGreatDoor.lines

namespace Go.Proofs
open Go.Shelf
def Tryz.laysM171_ren : Go.Shelf.Ren := ⟨fun | 171 => 129 | 243 => 141 | 246 => 148 | 283 => 104 | 284 => 105 | 285 => 106 | 286 => 107 | 129 => 118 | 317 => 117 | 318 => 119 | 319 => 120 | 320 => 121 | 337 => 136 | 338 => 137 | n => n, fun | 3 => 3 | 9 => 9 | 2 => 2 | 4 => 4 | 171 => 164 | 0 => 0 | 53 => 102 | 37 => 44 | 5 => 5 | 173 => 167 | 212 => 189 | 51 => 121 | 20 => 20 | 213 => 190 | 46 => 162 | 232 => 215 | 233 => 216 | n => n, fun | 17 => 5 | 18 => 8 | 19 => 9 | n => n⟩
theorem Tryz.laysM171 : Go.Proofs.LaysM.n171 Tryz.prog Tryz.laysM171_ren := {
  mixed := by kernel_rfl
  f129 := Tryz.func118.trans (congrArg some (by kernel_rfl))
  f171 := Tryz.func129.trans (congrArg some (by kernel_rfl))
  f243 := Tryz.func141.trans (congrArg some (by kernel_rfl))
  f246 := Tryz.func148.trans (congrArg some (by kernel_rfl))
  f283 := Tryz.func104.trans (congrArg some (by kernel_rfl))
  f284 := Tryz.func105.trans (congrArg some (by kernel_rfl))
  f285 := Tryz.func106.trans (congrArg some (by kernel_rfl))
  f286 := Tryz.func107.trans (congrArg some (by kernel_rfl))
  f317 := Tryz.func117.trans (congrArg some (by kernel_rfl))
  f318 := Tryz.func119.trans (congrArg some (by kernel_rfl))
  f319 := Tryz.func120.trans (congrArg some (by kernel_rfl))
  f320 := Tryz.func121.trans (congrArg some (by kernel_rfl))
  f337 := Tryz.func136.trans (congrArg some (by kernel_rfl))
  f338 := Tryz.func137.trans (congrArg some (by kernel_rfl))
  t0 := Tryz.underlying0
  a0 := Tryz.isAgg0
  z0 := Tryz.sizeOf0
  v0 := Tryz.zeroValue0
  t2 := Tryz.underlying2
  a2 := Tryz.isAgg2
  z2 := Tryz.sizeOf2
  v2 := Tryz.zeroValue2
  t3 := Tryz.underlying3
  a3 := Tryz.isAgg3
  z3 := Tryz.sizeOf3
  v3 := Tryz.zeroValue3
  t4 := Tryz.underlying4
  a4 := Tryz.isAgg4
  z4 := Tryz.sizeOf4
  v4 := Tryz.zeroValue4
  t5 := Tryz.underlying5
  a5 := Tryz.isAgg5
  z5 := Tryz.sizeOf5
  v5 := Tryz.zeroValue5
  t9 := Tryz.underlying9
  a9 := Tryz.isAgg9
  z9 := Tryz.sizeOf9
  v9 := Tryz.zeroValue9
  t20 := Tryz.underlying20
  a20 := Tryz.isAgg20
  z20 := Tryz.sizeOf20
  v20 := Tryz.zeroValue20
  t37 := Tryz.underlying44
  a37 := Tryz.isAgg44
  z37 := Tryz.sizeOf44
  v37 := Tryz.zeroValue44
  t46 := Tryz.underlying162
  a46 := Tryz.isAgg162
  z46 := Tryz.sizeOf162
  v46 := Tryz.zeroValue162
  t51 := Tryz.underlying121
  a51 := Tryz.isAgg121
  z51 := Tryz.sizeOf121
  v51 := Tryz.zeroValue121
  t53 := Tryz.underlying102
  a53 := Tryz.isAgg102
  z53 := Tryz.sizeOf102
  v53 := Tryz.zeroValue102
  t171 := Tryz.underlying164
  a171 := Tryz.isAgg164
  z171 := Tryz.sizeOf164
  v171 := Tryz.zeroValue164
  t173 := Tryz.underlying167
  a173 := Tryz.isAgg167
  z173 := Tryz.sizeOf167
  v173 := Tryz.zeroValue167
  t212 := Tryz.underlying189
  a212 := Tryz.isAgg189
  z212 := Tryz.sizeOf189
  v212 := Tryz.zeroValue189
  t213 := Tryz.underlying190
  a213 := Tryz.isAgg190
  z213 := Tryz.sizeOf190
  t232 := Tryz.underlying215
  a232 := Tryz.isAgg215
  z232 := Tryz.sizeOf215
  v232 := Tryz.zeroValue215
  t233 := Tryz.underlying216
  a233 := Tryz.isAgg216
  z233 := Tryz.sizeOf216
  v233 := Tryz.zeroValue216
  g17 := by kernel_rfl
  g18 := by kernel_rfl
  g19 := by kernel_rfl
  i0 := by kernel_rfl
  i2 := by kernel_rfl
  i3 := by kernel_rfl
  i4 := by kernel_rfl
  i5 := by kernel_rfl
  i9 := by kernel_rfl
  i20 := by kernel_rfl
  i37 := by kernel_rfl
  i46 := by kernel_rfl
  i51 := by kernel_rfl
  i53 := by kernel_rfl
  i171 := by kernel_rfl
  i173 := by kernel_rfl
  i212 := by kernel_rfl
  i232 := by kernel_rfl
  i233 := by kernel_rfl
  m17 := by kernel_rfl
  m18 := by kernel_rfl
  m19 := by kernel_rfl }
open Go.RowKit Go.Sort Go.Lib in
/-- strconv.Itoa: "Itoa is equivalent to FormatInt(int64(i), 10).": i's DECIMAL NUMERAL ('Lib.itoa': a '-' where i is negative, then the digits), FOR EVERY int. The world behind the call: the world before it, new blocks behind the heap (the library's 'var a [24]byte'), draws. (LAID: no walk: one application.) -/
theorem Tryz.strconv_Itoa (n : Int) (h0 : -9223372036854775808 ≤ n) (h1 : n ≤ 9223372036854775807) (w : World) (htab : Lib.TabIs Tryz.prog w "internal/strconv.uint64pow10" .u64 Lib.pow10Tab) :
    Calls Tryz.prog 129 #[.int .i64 n] w fun e w' => e = .returned (.string ⟨(Lib.itoa n).toArray⟩) ∧ ∃ k os, w' = grow (w.drewN k) os := Any.strconv_Itoa Tryz.laysM171 n h0 h1 w htab
def Tryz.laysM182_ren : Go.Shelf.Ren := ⟨fun | 182 => 48 | n => n, fun | 130 => 117 | 9 => 9 | 4 => 4 | 0 => 0 | 93 => 94 | 37 => 44 | 3 => 3 | 91 => 92 | 5 => 5 | n => n, fun | n => n⟩
theorem Tryz.laysM182 : Go.Proofs.LaysM.n182 Tryz.prog Tryz.laysM182_ren := {
  mixed := by kernel_rfl
  f182 := Tryz.func48.trans (congrArg some (by kernel_rfl))
  t0 := Tryz.underlying0
  a0 := Tryz.isAgg0
  z0 := Tryz.sizeOf0
  v0 := Tryz.zeroValue0
  t3 := Tryz.underlying3
  a3 := Tryz.isAgg3
  z3 := Tryz.sizeOf3
  v3 := Tryz.zeroValue3
  t4 := Tryz.underlying4
  a4 := Tryz.isAgg4
  z4 := Tryz.sizeOf4
  v4 := Tryz.zeroValue4
  t9 := Tryz.underlying9
  a9 := Tryz.isAgg9
  z9 := Tryz.sizeOf9
  v9 := Tryz.zeroValue9
  t37 := Tryz.underlying44
  a37 := Tryz.isAgg44
  z37 := Tryz.sizeOf44
  v37 := Tryz.zeroValue44
  t93 := Tryz.underlying94
  a93 := Tryz.isAgg94
  z93 := Tryz.sizeOf94
  v93 := Tryz.zeroValue94
  t130 := Tryz.underlying117
  a130 := Tryz.isAgg117
  z130 := Tryz.sizeOf117
  v130 := Tryz.zeroValue117
  t5 := Tryz.underlying5
  a5 := Tryz.isAgg5
  z5 := Tryz.sizeOf5
  v5 := Tryz.zeroValue5
  t91 := Tryz.underlying92
  a91 := Tryz.isAgg92
  z91 := Tryz.sizeOf92
  v91 := Tryz.zeroValue92
  i0 := by kernel_rfl
  i3 := by kernel_rfl
  i4 := by kernel_rfl
  i5 := by kernel_rfl
  i9 := by kernel_rfl
  i37 := by kernel_rfl
  i91 := by kernel_rfl
  i93 := by kernel_rfl
  i130 := by kernel_rfl }
open Go.RowKit in
/-- (*bytes.Buffer).String: "String returns the contents of the unread portion of the buffer as a string.": THE BYTES THAT WERE WRITTEN. The world is as it was but for the count of draws (the statement has two reads: its order is drawn). (LAID: no walk: one application.) -/
theorem Tryz.Buffer_String (B b : Nat) (l : List UInt8) (w : World) (h : Lib.IsBuffer 94 5 B b (Lib.byteCells l) w) :
    Calls Tryz.prog 48 #[.pointer (some ⟨b, 0, none⟩)] w fun e w' => e = .returned (.string ⟨l.toArray⟩) ∧ ∃ n, w' = w.drewN n := Any.Buffer_String Tryz.laysM182 B b l w h
def Tryz.laysC245_ren : Go.Shelf.Ren := ⟨fun | 245 => 111 | 279 => 124 | 280 => 125 | 281 => 126 | 282 => 127 | 316 => 138 | 171 => 129 | 205 => 139 | 243 => 141 | 246 => 148 | 283 => 104 | 284 => 105 | 285 => 106 | 286 => 107 | 129 => 118 | 317 => 117 | 318 => 119 | 319 => 120 | 320 => 121 | 337 => 136 | 338 => 137 | n => n, fun | 9 => 9 | 3 => 3 | 75 => 52 | 167 => 194 | 4 => 4 | 168 => 196 | 210 => 206 | 37 => 44 | 0 => 0 | 127 => 214 | 145 => 219 | 143 => 217 | 2 => 2 | 171 => 164 | 53 => 102 | 5 => 5 | 173 => 167 | 212 => 189 | 51 => 121 | 20 => 20 | 213 => 190 | 46 => 162 | 232 => 215 | 233 => 216 | 80 => 103 | n => n, fun | 15 => 6 | 16 => 7 | 17 => 5 | 18 => 8 | 19 => 9 | n => n⟩
theorem Tryz.laysC245 : Go.Proofs.LaysC.n245 Tryz.prog Tryz.laysC245_ren := {
  mixed := by kernel_rfl
  f129 := Tryz.func118.trans (congrArg some (by kernel_rfl))
  f171 := Tryz.func129.trans (congrArg some (by kernel_rfl))
  f205 := Tryz.func139.trans (congrArg some (by kernel_rfl))
  f243 := Tryz.func141.trans (congrArg some (by kernel_rfl))
  f245 := Tryz.func111.trans (congrArg some (by kernel_rfl))
  f246 := Tryz.func148.trans (congrArg some (by kernel_rfl))
  f279 := Tryz.func124.trans (congrArg some (by kernel_rfl))
  f280 := Tryz.func125.trans (congrArg some (by kernel_rfl))
  f281 := Tryz.func126.trans (congrArg some (by kernel_rfl))
  f282 := Tryz.func127.trans (congrArg some (by kernel_rfl))
  f283 := Tryz.func104.trans (congrArg some (by kernel_rfl))
  f284 := Tryz.func105.trans (congrArg some (by kernel_rfl))
  f285 := Tryz.func106.trans (congrArg some (by kernel_rfl))
  f286 := Tryz.func107.trans (congrArg some (by kernel_rfl))
  f316 := Tryz.func138.trans (congrArg some (by kernel_rfl))
  f317 := Tryz.func117.trans (congrArg some (by kernel_rfl))
  f318 := Tryz.func119.trans (congrArg some (by kernel_rfl))
  f319 := Tryz.func120.trans (congrArg some (by kernel_rfl))
  f320 := Tryz.func121.trans (congrArg some (by kernel_rfl))
  f337 := Tryz.func136.trans (congrArg some (by kernel_rfl))
  f338 := Tryz.func137.trans (congrArg some (by kernel_rfl))
  t0 := Tryz.underlying0
  a0 := Tryz.isAgg0
  z0 := Tryz.sizeOf0
  v0 := Tryz.zeroValue0
  t2 := Tryz.underlying2
  a2 := Tryz.isAgg2
  z2 := Tryz.sizeOf2
  v2 := Tryz.zeroValue2
  t3 := Tryz.underlying3
  a3 := Tryz.isAgg3
  z3 := Tryz.sizeOf3
  v3 := Tryz.zeroValue3
  t4 := Tryz.underlying4
  a4 := Tryz.isAgg4
  z4 := Tryz.sizeOf4
  v4 := Tryz.zeroValue4
  t5 := Tryz.underlying5
  a5 := Tryz.isAgg5
  z5 := Tryz.sizeOf5
  v5 := Tryz.zeroValue5
  t9 := Tryz.underlying9
  a9 := Tryz.isAgg9
  z9 := Tryz.sizeOf9
  v9 := Tryz.zeroValue9
  t20 := Tryz.underlying20
  a20 := Tryz.isAgg20
  z20 := Tryz.sizeOf20
  v20 := Tryz.zeroValue20
  t37 := Tryz.underlying44
  a37 := Tryz.isAgg44
  z37 := Tryz.sizeOf44
  v37 := Tryz.zeroValue44
  t46 := Tryz.underlying162
  a46 := Tryz.isAgg162
  z46 := Tryz.sizeOf162
  v46 := Tryz.zeroValue162
  t51 := Tryz.underlying121
  a51 := Tryz.isAgg121
  z51 := Tryz.sizeOf121
  v51 := Tryz.zeroValue121
  t53 := Tryz.underlying102
  a53 := Tryz.isAgg102
  z53 := Tryz.sizeOf102
  v53 := Tryz.zeroValue102
  t75 := Tryz.underlying52
  a75 := Tryz.isAgg52
  z75 := Tryz.sizeOf52
  v75 := Tryz.zeroValue52
  t127 := Tryz.underlying214
  a127 := Tryz.isAgg214
  z127 := Tryz.sizeOf214
  v127 := Tryz.zeroValue214
  t143 := Tryz.underlying217
  a143 := Tryz.isAgg217
  z143 := Tryz.sizeOf217
  v143 := Tryz.zeroValue217
  t145 := Tryz.underlying219
  a145 := Tryz.isAgg219
  z145 := Tryz.sizeOf219
  v145 := Tryz.zeroValue219
  t167 := Tryz.underlying194
  a167 := Tryz.isAgg194
  z167 := Tryz.sizeOf194
  v167 := Tryz.zeroValue194
  t168 := Tryz.underlying196
  a168 := Tryz.isAgg196
  z168 := Tryz.sizeOf196
  v168 := Tryz.zeroValue196
  t171 := Tryz.underlying164
  a171 := Tryz.isAgg164
  z171 := Tryz.sizeOf164
  v171 := Tryz.zeroValue164
  t173 := Tryz.underlying167
  a173 := Tryz.isAgg167
  z173 := Tryz.sizeOf167
  v173 := Tryz.zeroValue167
  t210 := Tryz.underlying206
  a210 := Tryz.isAgg206
  z210 := Tryz.sizeOf206
  v210 := Tryz.zeroValue206
  t212 := Tryz.underlying189
  a212 := Tryz.isAgg189
  z212 := Tryz.sizeOf189
  v212 := Tryz.zeroValue189
  t213 := Tryz.underlying190
  a213 := Tryz.isAgg190
  z213 := Tryz.sizeOf190
  t232 := Tryz.underlying215
  a232 := Tryz.isAgg215
  z232 := Tryz.sizeOf215
  v232 := Tryz.zeroValue215
  t233 := Tryz.underlying216
  a233 := Tryz.isAgg216
  z233 := Tryz.sizeOf216
  v233 := Tryz.zeroValue216
  g15 := by kernel_rfl
  g16 := by kernel_rfl
  g17 := by kernel_rfl
  g18 := by kernel_rfl
  g19 := by kernel_rfl
  t80 := Tryz.underlying103
  a80 := Tryz.isAgg103
  z80 := Tryz.sizeOf103
  v80 := Tryz.zeroValue103
  i0 := by kernel_rfl
  i2 := by kernel_rfl
  i3 := by kernel_rfl
  i4 := by kernel_rfl
  i5 := by kernel_rfl
  i9 := by kernel_rfl
  i20 := by kernel_rfl
  i37 := by kernel_rfl
  i46 := by kernel_rfl
  i51 := by kernel_rfl
  i53 := by kernel_rfl
  i75 := by kernel_rfl
  i80 := by kernel_rfl
  i127 := by kernel_rfl
  i143 := by kernel_rfl
  i145 := by kernel_rfl
  i167 := by kernel_rfl
  i168 := by kernel_rfl
  i171 := by kernel_rfl
  i173 := by kernel_rfl
  i210 := by kernel_rfl
  i212 := by kernel_rfl
  i232 := by kernel_rfl
  i233 := by kernel_rfl
  m15 := by kernel_rfl
  m16 := by kernel_rfl
  m17 := by kernel_rfl
  m18 := by kernel_rfl
  m19 := by kernel_rfl
  c0 := by kernel_rfl
  c2 := by kernel_rfl
  c3 := by kernel_rfl
  c4 := by kernel_rfl
  c5 := by kernel_rfl
  c9 := by kernel_rfl
  c20 := by kernel_rfl
  c37 := by kernel_rfl
  c46 := by kernel_rfl
  c51 := by kernel_rfl
  c53 := by kernel_rfl
  c75 := by kernel_rfl
  c80 := by kernel_rfl
  c127 := by kernel_rfl
  c143 := by kernel_rfl
  c145 := by kernel_rfl
  c167 := by kernel_rfl
  c168 := by kernel_rfl
  c171 := by kernel_rfl
  c173 := by kernel_rfl
  c210 := by kernel_rfl
  c212 := by kernel_rfl
  c213 := by kernel_rfl
  c232 := by kernel_rfl
  c233 := by kernel_rfl }
open Go.RowKit in
/-- strconv.toError, at the inner package's ErrSyntax: 'syntaxError(fn, s)' as an error: A *NumError IN A NEW BLOCK. (LAID: no walk: one application.) -/
theorem Tryz.strconv_toError_syntax (fn s : ByteArray) (base bits : Int) (ev : Value) (w : World) (hlim : s.size ≤ 281474976710656) (hv : w.cell? ⟨6, 0, none⟩ = some ev) (hev : ev = .nilIface ∨ ∃ te pe, ev = .iface te pe) :
    Calls Tryz.prog 111 #[.string fn, .string s, .int .i64 base, .int .i64 bits, .iface 194 (.int .i64 2)] w fun e w' => ∃ N, e = .returned (.iface 196 (.pointer (some ⟨N, 0, none⟩))) ∧ w.heap.size ≤ N ∧ w'.heap[N]? = some (.cells #[.string fn, .string s, ev] 206 (0, 0)) ∧ Below w.heap.size w w' := Any.strconv_toError_syntax Tryz.laysC245 fn s base bits ev w hlim hv hev
def Tryz.lays321_ren : Go.Shelf.Ren := ⟨fun | 321 => 122 | n => n, fun | 5 => 5 | n => n, fun | n => n⟩
theorem Tryz.lays321 : Go.Proofs.Lays.n321 Tryz.prog Tryz.lays321_ren := {
  mixed := by kernel_rfl
  f321 := Tryz.func122.trans (congrArg some (by kernel_rfl))
  t5 := Tryz.underlying5
  a5 := Tryz.isAgg5
  z5 := Tryz.sizeOf5
  v5 := Tryz.zeroValue5 }
open Go.RowKit in
/-- internal/strconv.lower: 'c | ('x' - 'X')': the bit 32 set. The world is as it was. (LAID: no walk: one application.) -/
theorem Tryz.internal_strconv_lower (c : Int) (w : World) :
    Calls Tryz.prog 122 #[.int .u8 c] w fun e w' => e = .returned (.int .u8 (bits .or .u8 c 32)) ∧ w' = w := Any.internal_strconv_lower Tryz.lays321 c w
def Tryz.laysM179_ren : Go.Shelf.Ren := ⟨fun | 179 => 46 | 251 => 57 | 252 => 58 | 181 => 87 | 184 => 88 | 290 => 89 | 324 => 103 | n => n, fun | 130 => 117 | 5 => 5 | 75 => 52 | 0 => 0 | 93 => 94 | 91 => 92 | 3 => 3 | 131 => 118 | 4 => 4 | 37 => 44 | 20 => 20 | 80 => 103 | 9 => 9 | n => n, fun | 14 => 1 | n => n⟩
theorem Tryz.laysM179 : Go.Proofs.LaysM.n179 Tryz.prog Tryz.laysM179_ren := {
  mixed := by kernel_rfl
  f179 := Tryz.func46.trans (congrArg some (by kernel_rfl))
  f181 := Tryz.func87.trans (congrArg some (by kernel_rfl))
  f184 := Tryz.func88.trans (congrArg some (by kernel_rfl))
  f251 := Tryz.func57.trans (congrArg some (by kernel_rfl))
  f252 := Tryz.func58.trans (congrArg some (by kernel_rfl))
  f290 := Tryz.func89.trans (congrArg some (by kernel_rfl))
  f324 := Tryz.func103.trans (congrArg some (by kernel_rfl))
  t0 := Tryz.underlying0
  a0 := Tryz.isAgg0
  z0 := Tryz.sizeOf0
  v0 := Tryz.zeroValue0
  t3 := Tryz.underlying3
  a3 := Tryz.isAgg3
  z3 := Tryz.sizeOf3
  v3 := Tryz.zeroValue3
  t4 := Tryz.underlying4
  a4 := Tryz.isAgg4
  z4 := Tryz.sizeOf4
  v4 := Tryz.zeroValue4
  t5 := Tryz.underlying5
  a5 := Tryz.isAgg5
  z5 := Tryz.sizeOf5
  v5 := Tryz.zeroValue5
  t20 := Tryz.underlying20
  a20 := Tryz.isAgg20
  z20 := Tryz.sizeOf20
  v20 := Tryz.zeroValue20
  t37 := Tryz.underlying44
  a37 := Tryz.isAgg44
  z37 := Tryz.sizeOf44
  v37 := Tryz.zeroValue44
  t75 := Tryz.underlying52
  a75 := Tryz.isAgg52
  z75 := Tryz.sizeOf52
  v75 := Tryz.zeroValue52
  t91 := Tryz.underlying92
  a91 := Tryz.isAgg92
  z91 := Tryz.sizeOf92
  v91 := Tryz.zeroValue92
  t93 := Tryz.underlying94
  a93 := Tryz.isAgg94
  z93 := Tryz.sizeOf94
  v93 := Tryz.zeroValue94
  t130 := Tryz.underlying117
  a130 := Tryz.isAgg117
  z130 := Tryz.sizeOf117
  v130 := Tryz.zeroValue117
  t131 := Tryz.underlying118
  a131 := Tryz.isAgg118
  z131 := Tryz.sizeOf118
  v131 := Tryz.zeroValue118
  g14 := by kernel_rfl
  t9 := Tryz.underlying9
  a9 := Tryz.isAgg9
  z9 := Tryz.sizeOf9
  v9 := Tryz.zeroValue9
  t80 := Tryz.underlying103
  a80 := Tryz.isAgg103
  z80 := Tryz.sizeOf103
  v80 := Tryz.zeroValue103
  i0 := by kernel_rfl
  i3 := by kernel_rfl
  i4 := by kernel_rfl
  i5 := by kernel_rfl
  i9 := by kernel_rfl
  i20 := by kernel_rfl
  i37 := by kernel_rfl
  i75 := by kernel_rfl
  i80 := by kernel_rfl
  i91 := by kernel_rfl
  i93 := by kernel_rfl
  i130 := by kernel_rfl
  i131 := by kernel_rfl
  m14 := by kernel_rfl }
def Tryz.laysM178_ren : Go.Shelf.Ren := ⟨fun | 178 => 42 | 251 => 57 | 252 => 58 | 181 => 87 | 184 => 88 | 290 => 89 | 324 => 103 | n => n, fun | 130 => 117 | 9 => 9 | 3 => 3 | 75 => 52 | 0 => 0 | 93 => 94 | 91 => 92 | 131 => 118 | 4 => 4 | 37 => 44 | 20 => 20 | 80 => 103 | 5 => 5 | n => n, fun | 14 => 1 | n => n⟩
theorem Tryz.laysM178 : Go.Proofs.LaysM.n178 Tryz.prog Tryz.laysM178_ren := {
  mixed := by kernel_rfl
  f178 := Tryz.func42.trans (congrArg some (by kernel_rfl))
  f181 := Tryz.func87.trans (congrArg some (by kernel_rfl))
  f184 := Tryz.func88.trans (congrArg some (by kernel_rfl))
  f251 := Tryz.func57.trans (congrArg some (by kernel_rfl))
  f252 := Tryz.func58.trans (congrArg some (by kernel_rfl))
  f290 := Tryz.func89.trans (congrArg some (by kernel_rfl))
  f324 := Tryz.func103.trans (congrArg some (by kernel_rfl))
  t0 := Tryz.underlying0
  a0 := Tryz.isAgg0
  z0 := Tryz.sizeOf0
  v0 := Tryz.zeroValue0
  t3 := Tryz.underlying3
  a3 := Tryz.isAgg3
  z3 := Tryz.sizeOf3
  v3 := Tryz.zeroValue3
  t4 := Tryz.underlying4
  a4 := Tryz.isAgg4
  z4 := Tryz.sizeOf4
  v4 := Tryz.zeroValue4
  t9 := Tryz.underlying9
  a9 := Tryz.isAgg9
  z9 := Tryz.sizeOf9
  v9 := Tryz.zeroValue9
  t20 := Tryz.underlying20
  a20 := Tryz.isAgg20
  z20 := Tryz.sizeOf20
  v20 := Tryz.zeroValue20
  t37 := Tryz.underlying44
  a37 := Tryz.isAgg44
  z37 := Tryz.sizeOf44
  v37 := Tryz.zeroValue44
  t75 := Tryz.underlying52
  a75 := Tryz.isAgg52
  z75 := Tryz.sizeOf52
  v75 := Tryz.zeroValue52
  t91 := Tryz.underlying92
  a91 := Tryz.isAgg92
  z91 := Tryz.sizeOf92
  v91 := Tryz.zeroValue92
  t93 := Tryz.underlying94
  a93 := Tryz.isAgg94
  z93 := Tryz.sizeOf94
  v93 := Tryz.zeroValue94
  t130 := Tryz.underlying117
  a130 := Tryz.isAgg117
  z130 := Tryz.sizeOf117
  v130 := Tryz.zeroValue117
  t131 := Tryz.underlying118
  a131 := Tryz.isAgg118
  z131 := Tryz.sizeOf118
  v131 := Tryz.zeroValue118
  g14 := by kernel_rfl
  t5 := Tryz.underlying5
  a5 := Tryz.isAgg5
  z5 := Tryz.sizeOf5
  v5 := Tryz.zeroValue5
  t80 := Tryz.underlying103
  a80 := Tryz.isAgg103
  z80 := Tryz.sizeOf103
  v80 := Tryz.zeroValue103
  i0 := by kernel_rfl
  i3 := by kernel_rfl
  i4 := by kernel_rfl
  i5 := by kernel_rfl
  i9 := by kernel_rfl
  i20 := by kernel_rfl
  i37 := by kernel_rfl
  i75 := by kernel_rfl
  i80 := by kernel_rfl
  i91 := by kernel_rfl
  i93 := by kernel_rfl
  i130 := by kernel_rfl
  i131 := by kernel_rfl
  m14 := by kernel_rfl }
open Go.RowKit in
theorem Tryz.Buffer_WriteByte_k (B b : Nat) (bs : List Value) (c : Int) (w : World) (h : Lib.IsBuffer 94 5 B b bs w) (hBw : B ≤ w.heap.size) (h1 : ∀ v ∈ bs, v.oneCell' = true) (hlim : bs.length + 1 ≤ 140737488355328) :
    Calls Tryz.prog 46 #[.pointer (some ⟨b, 0, none⟩), .int .u8 c] w fun e w' => e = .returned .nilIface ∧ Lib.IsBuffer 94 5 B b (bs ++ [.int .u8 c]) w' ∧ Below B w w' ∧ Lib.OthersKept 5 (some b) w w' := Any.Buffer_WriteByte_k Tryz.laysM179 B b bs c w h hBw h1 hlim
open Go.RowKit in
theorem Tryz.Buffer_WriteString_k (B b : Nat) (bs : List Value) (s : ByteArray) (w : World) (h : Lib.IsBuffer 94 5 B b bs w) (hBw : B ≤ w.heap.size) (h1 : ∀ v ∈ bs, v.oneCell' = true) (hlim : bs.length + s.size ≤ 140737488355328) :
    Calls Tryz.prog 42 #[.pointer (some ⟨b, 0, none⟩), .string s] w fun e w' => e = .returned (.tuple #[.int .i64 s.size, .nilIface]) ∧ Lib.IsBuffer 94 5 B b (bs ++ Lib.byteCells s.data.toList) w' ∧ Below B w w' ∧ Lib.OthersKept 5 (some b) w w' := Any.Buffer_WriteString_k Tryz.laysM178 B b bs s w h hBw h1 hlim
def Tryz.laysWr5_ren : Go.Shelf.Ren := ⟨fun | 5 => 43 | 7 => 46 | 8 => 57 | 9 => 58 | 10 => 59 | 11 => 87 | 12 => 88 | 13 => 89 | 14 => 90 | 15 => 103 | n => n, fun | 34 => 117 | 21 => 21 | 3 => 3 | 28 => 52 | 35 => 121 | 4 => 4 | 5 => 5 | 0 => 0 | 26 => 94 | 24 => 92 | 37 => 118 | 22 => 44 | 43 => 162 | 20 => 20 | 31 => 103 | 9 => 9 | n => n, fun | 0 => 1 | n => n⟩
theorem Tryz.laysWr5 : Go.Proofs.LaysWr.n5 Tryz.prog Tryz.laysWr5_ren := {
  mixed := by kernel_rfl
  f5 := Tryz.func43.trans (congrArg some (by kernel_rfl))
  f7 := Tryz.func46.trans (congrArg some (by kernel_rfl))
  f8 := Tryz.func57.trans (congrArg some (by kernel_rfl))
  f9 := Tryz.func58.trans (congrArg some (by kernel_rfl))
  f10 := Tryz.func59.trans (congrArg some (by kernel_rfl))
  f11 := Tryz.func87.trans (congrArg some (by kernel_rfl))
  f12 := Tryz.func88.trans (congrArg some (by kernel_rfl))
  f13 := Tryz.func89.trans (congrArg some (by kernel_rfl))
  f14 := Tryz.func90.trans (congrArg some (by kernel_rfl))
  f15 := Tryz.func103.trans (congrArg some (by kernel_rfl))
  t0 := Tryz.underlying0
  a0 := Tryz.isAgg0
  z0 := Tryz.sizeOf0
  v0 := Tryz.zeroValue0
  i0 := by kernel_rfl
  t3 := Tryz.underlying3
  a3 := Tryz.isAgg3
  z3 := Tryz.sizeOf3
  v3 := Tryz.zeroValue3
  i3 := by kernel_rfl
  t4 := Tryz.underlying4
  a4 := Tryz.isAgg4
  z4 := Tryz.sizeOf4
  v4 := Tryz.zeroValue4
  i4 := by kernel_rfl
  t5 := Tryz.underlying5
  a5 := Tryz.isAgg5
  z5 := Tryz.sizeOf5
  v5 := Tryz.zeroValue5
  i5 := by kernel_rfl
  t9 := Tryz.underlying9
  a9 := Tryz.isAgg9
  z9 := Tryz.sizeOf9
  v9 := Tryz.zeroValue9
  i9 := by kernel_rfl
  t20 := Tryz.underlying20
  a20 := Tryz.isAgg20
  z20 := Tryz.sizeOf20
  v20 := Tryz.zeroValue20
  i20 := by kernel_rfl
  t21 := Tryz.underlying21
  a21 := Tryz.isAgg21
  z21 := Tryz.sizeOf21
  v21 := Tryz.zeroValue21
  i21 := by kernel_rfl
  t22 := Tryz.underlying44
  a22 := Tryz.isAgg44
  z22 := Tryz.sizeOf44
  v22 := Tryz.zeroValue44
  i22 := by kernel_rfl
  t24 := Tryz.underlying92
  a24 := Tryz.isAgg92
  z24 := Tryz.sizeOf92
  v24 := Tryz.zeroValue92
  i24 := by kernel_rfl
  t26 := Tryz.underlying94
  a26 := Tryz.isAgg94
  z26 := Tryz.sizeOf94
  v26 := Tryz.zeroValue94
  i26 := by kernel_rfl
  t28 := Tryz.underlying52
  a28 := Tryz.isAgg52
  z28 := Tryz.sizeOf52
  v28 := Tryz.zeroValue52
  i28 := by kernel_rfl
  t31 := Tryz.underlying103
  a31 := Tryz.isAgg103
  z31 := Tryz.sizeOf103
  v31 := Tryz.zeroValue103
  i31 := by kernel_rfl
  t34 := Tryz.underlying117
  a34 := Tryz.isAgg117
  z34 := Tryz.sizeOf117
  v34 := Tryz.zeroValue117
  i34 := by kernel_rfl
  t35 := Tryz.underlying121
  a35 := Tryz.isAgg121
  z35 := Tryz.sizeOf121
  v35 := Tryz.zeroValue121
  i35 := by kernel_rfl
  t37 := Tryz.underlying118
  a37 := Tryz.isAgg118
  z37 := Tryz.sizeOf118
  v37 := Tryz.zeroValue118
  i37 := by kernel_rfl
  t43 := Tryz.underlying162
  a43 := Tryz.isAgg162
  z43 := Tryz.sizeOf162
  v43 := Tryz.zeroValue162
  i43 := by kernel_rfl
  g0 := by kernel_rfl
  m0 := by kernel_rfl }
open Go.RowKit in
/-- (*bytes.Buffer).WriteRune, AT A RUNE OF ASCII: (1, nil); THE BUFFER HOLDS ONE BYTE MORE: r. The frames: as WriteByte's '_k'. (LAID: no walk: one application.) -/
theorem Tryz.Buffer_WriteRune_ascii (B b : Nat) (bs : List Value) (r : Int) (h0 : 0 ≤ r) (h128 : r < 128) (w : World) (h : Lib.IsBuffer 94 5 B b bs w) (hBw : B ≤ w.heap.size) (h1 : ∀ v ∈ bs, v.oneCell' = true) (hlim : bs.length + 1 ≤ 140737488355328) :
    Calls Tryz.prog 43 #[.pointer (some ⟨b, 0, none⟩), .int .i32 r] w fun e w' => e = .returned (.tuple #[.int .i64 1, .nilIface]) ∧ Lib.IsBuffer 94 5 B b (bs ++ [.int .u8 r]) w' ∧ Below B w w' ∧ Lib.OthersKept 5 (some b) w w' := Any.Buffer_WriteRune_ascii Tryz.laysWr5 B b bs r h0 h128 w h hBw h1 hlim
def Tryz.lays199_ren : Go.Shelf.Ren := ⟨fun | 199 => 63 | 261 => 93 | 311 => 108 | 312 => 109 | n => n, fun | 21 => 21 | 4 => 4 | 51 => 121 | 141 => 153 | 0 => 0 | 196 => 176 | 193 => 173 | 3 => 3 | 198 => 179 | 49 => 177 | 194 => 174 | 201 => 182 | 226 => 192 | 46 => 162 | 227 => 193 | n => n, fun | 6 => 2 | n => n⟩
theorem Tryz.lays199 : Go.Proofs.Lays.n199 Tryz.prog Tryz.lays199_ren := {
  mixed := by kernel_rfl
  f199 := Tryz.func63.trans (congrArg some (by kernel_rfl))
  f261 := Tryz.func93.trans (congrArg some (by kernel_rfl))
  f311 := Tryz.func108.trans (congrArg some (by kernel_rfl))
  f312 := Tryz.func109.trans (congrArg some (by kernel_rfl))
  t0 := Tryz.underlying0
  a0 := Tryz.isAgg0
  z0 := Tryz.sizeOf0
  v0 := Tryz.zeroValue0
  t3 := Tryz.underlying3
  a3 := Tryz.isAgg3
  z3 := Tryz.sizeOf3
  v3 := Tryz.zeroValue3
  t4 := Tryz.underlying4
  a4 := Tryz.isAgg4
  z4 := Tryz.sizeOf4
  v4 := Tryz.zeroValue4
  t21 := Tryz.underlying21
  a21 := Tryz.isAgg21
  z21 := Tryz.sizeOf21
  v21 := Tryz.zeroValue21
  t46 := Tryz.underlying162
  a46 := Tryz.isAgg162
  z46 := Tryz.sizeOf162
  v46 := Tryz.zeroValue162
  t49 := Tryz.underlying177
  a49 := Tryz.isAgg177
  z49 := Tryz.sizeOf177
  v49 := Tryz.zeroValue177
  t51 := Tryz.underlying121
  a51 := Tryz.isAgg121
  z51 := Tryz.sizeOf121
  v51 := Tryz.zeroValue121
  t141 := Tryz.underlying153
  a141 := Tryz.isAgg153
  z141 := Tryz.sizeOf153
  v141 := Tryz.zeroValue153
  t193 := Tryz.underlying173
  a193 := Tryz.isAgg173
  z193 := Tryz.sizeOf173
  v193 := Tryz.zeroValue173
  t194 := Tryz.underlying174
  a194 := Tryz.isAgg174
  z194 := Tryz.sizeOf174
  v194 := Tryz.zeroValue174
  t196 := Tryz.underlying176
  a196 := Tryz.isAgg176
  z196 := Tryz.sizeOf176
  v196 := Tryz.zeroValue176
  t198 := Tryz.underlying179
  a198 := Tryz.isAgg179
  z198 := Tryz.sizeOf179
  v198 := Tryz.zeroValue179
  t201 := Tryz.underlying182
  a201 := Tryz.isAgg182
  z201 := Tryz.sizeOf182
  v201 := Tryz.zeroValue182
  t226 := Tryz.underlying192
  a226 := Tryz.isAgg192
  z226 := Tryz.sizeOf192
  v226 := Tryz.zeroValue192
  t227 := Tryz.underlying193
  a227 := Tryz.isAgg193
  z227 := Tryz.sizeOf193
  v227 := Tryz.zeroValue193
  g6 := by kernel_rfl }
def Tryz.lays197_ren : Go.Shelf.Ren := ⟨fun | 197 => 62 | 260 => 92 | n => n, fun | 9 => 9 | 21 => 21 | 3 => 3 | 4 => 4 | 5 => 5 | 105 => 123 | 119 => 169 | 0 => 0 | 46 => 162 | 139 => 172 | 138 => 171 | n => n, fun | 3 => 3 | 4 => 4 | n => n⟩
theorem Tryz.lays197 : Go.Proofs.Lays.n197 Tryz.prog Tryz.lays197_ren := {
  mixed := by kernel_rfl
  f197 := Tryz.func62.trans (congrArg some (by kernel_rfl))
  f260 := Tryz.func92.trans (congrArg some (by kernel_rfl))
  t0 := Tryz.underlying0
  a0 := Tryz.isAgg0
  z0 := Tryz.sizeOf0
  v0 := Tryz.zeroValue0
  t3 := Tryz.underlying3
  a3 := Tryz.isAgg3
  z3 := Tryz.sizeOf3
  v3 := Tryz.zeroValue3
  t4 := Tryz.underlying4
  a4 := Tryz.isAgg4
  z4 := Tryz.sizeOf4
  v4 := Tryz.zeroValue4
  t5 := Tryz.underlying5
  a5 := Tryz.isAgg5
  z5 := Tryz.sizeOf5
  v5 := Tryz.zeroValue5
  t9 := Tryz.underlying9
  a9 := Tryz.isAgg9
  z9 := Tryz.sizeOf9
  v9 := Tryz.zeroValue9
  t21 := Tryz.underlying21
  a21 := Tryz.isAgg21
  z21 := Tryz.sizeOf21
  v21 := Tryz.zeroValue21
  t46 := Tryz.underlying162
  a46 := Tryz.isAgg162
  z46 := Tryz.sizeOf162
  v46 := Tryz.zeroValue162
  t105 := Tryz.underlying123
  a105 := Tryz.isAgg123
  z105 := Tryz.sizeOf123
  v105 := Tryz.zeroValue123
  t119 := Tryz.underlying169
  a119 := Tryz.isAgg169
  z119 := Tryz.sizeOf169
  t138 := Tryz.underlying171
  a138 := Tryz.isAgg171
  z138 := Tryz.sizeOf171
  v138 := Tryz.zeroValue171
  t139 := Tryz.underlying172
  a139 := Tryz.isAgg172
  z139 := Tryz.sizeOf172
  v139 := Tryz.zeroValue172
  g3 := by kernel_rfl
  g4 := by kernel_rfl }
def Tryz.lays105_ren : Go.Shelf.Ren := ⟨fun | 105 => 116 | 212 => 130 | 99 => 131 | 165 => 132 | 166 => 133 | 170 => 134 | 169 => 135 | 263 => 142 | 264 => 143 | 206 => 144 | 240 => 145 | 241 => 146 | 276 => 149 | 277 => 150 | n => n, fun | 9 => 9 | 3 => 3 | 4 => 4 | 20 => 20 | 0 => 0 | 46 => 162 | 109 => 199 | 5 => 5 | 72 => 203 | 76 => 95 | 51 => 121 | 146 => 210 | 53 => 102 | 148 => 212 | 70 => 201 | 37 => 44 | 75 => 52 | 127 => 214 | 164 => 105 | 80 => 103 | n => n, fun | n => n⟩
theorem Tryz.lays105 : Go.Proofs.Lays.n105 Tryz.prog Tryz.lays105_ren := {
  mixed := by kernel_rfl
  f99 := Tryz.func131.trans (congrArg some (by kernel_rfl))
  f105 := Tryz.func116.trans (congrArg some (by kernel_rfl))
  f165 := Tryz.func132.trans (congrArg some (by kernel_rfl))
  f166 := Tryz.func133.trans (congrArg some (by kernel_rfl))
  f169 := Tryz.func135.trans (congrArg some (by kernel_rfl))
  f170 := Tryz.func134.trans (congrArg some (by kernel_rfl))
  f206 := Tryz.func144.trans (congrArg some (by kernel_rfl))
  f212 := Tryz.func130.trans (congrArg some (by kernel_rfl))
  f240 := Tryz.func145.trans (congrArg some (by kernel_rfl))
  f241 := Tryz.func146.trans (congrArg some (by kernel_rfl))
  f263 := Tryz.func142.trans (congrArg some (by kernel_rfl))
  f264 := Tryz.func143.trans (congrArg some (by kernel_rfl))
  f276 := Tryz.func149.trans (congrArg some (by kernel_rfl))
  f277 := Tryz.func150.trans (congrArg some (by kernel_rfl))
  t0 := Tryz.underlying0
  a0 := Tryz.isAgg0
  z0 := Tryz.sizeOf0
  v0 := Tryz.zeroValue0
  t3 := Tryz.underlying3
  a3 := Tryz.isAgg3
  z3 := Tryz.sizeOf3
  v3 := Tryz.zeroValue3
  t4 := Tryz.underlying4
  a4 := Tryz.isAgg4
  z4 := Tryz.sizeOf4
  v4 := Tryz.zeroValue4
  t5 := Tryz.underlying5
  a5 := Tryz.isAgg5
  z5 := Tryz.sizeOf5
  v5 := Tryz.zeroValue5
  t9 := Tryz.underlying9
  a9 := Tryz.isAgg9
  z9 := Tryz.sizeOf9
  v9 := Tryz.zeroValue9
  t20 := Tryz.underlying20
  a20 := Tryz.isAgg20
  z20 := Tryz.sizeOf20
  v20 := Tryz.zeroValue20
  t37 := Tryz.underlying44
  a37 := Tryz.isAgg44
  z37 := Tryz.sizeOf44
  v37 := Tryz.zeroValue44
  t46 := Tryz.underlying162
  a46 := Tryz.isAgg162
  z46 := Tryz.sizeOf162
  v46 := Tryz.zeroValue162
  t51 := Tryz.underlying121
  a51 := Tryz.isAgg121
  z51 := Tryz.sizeOf121
  v51 := Tryz.zeroValue121
  t53 := Tryz.underlying102
  a53 := Tryz.isAgg102
  z53 := Tryz.sizeOf102
  v53 := Tryz.zeroValue102
  t70 := Tryz.underlying201
  a70 := Tryz.isAgg201
  z70 := Tryz.sizeOf201
  v70 := Tryz.zeroValue201
  t72 := Tryz.underlying203
  a72 := Tryz.isAgg203
  z72 := Tryz.sizeOf203
  v72 := Tryz.zeroValue203
  t75 := Tryz.underlying52
  a75 := Tryz.isAgg52
  z75 := Tryz.sizeOf52
  v75 := Tryz.zeroValue52
  t76 := Tryz.underlying95
  a76 := Tryz.isAgg95
  z76 := Tryz.sizeOf95
  v76 := Tryz.zeroValue95
  t109 := Tryz.underlying199
  a109 := Tryz.isAgg199
  z109 := Tryz.sizeOf199
  v109 := Tryz.zeroValue199
  t127 := Tryz.underlying214
  a127 := Tryz.isAgg214
  z127 := Tryz.sizeOf214
  v127 := Tryz.zeroValue214
  t146 := Tryz.underlying210
  a146 := Tryz.isAgg210
  z146 := Tryz.sizeOf210
  v146 := Tryz.zeroValue210
  t148 := Tryz.underlying212
  a148 := Tryz.isAgg212
  z148 := Tryz.sizeOf212
  v148 := Tryz.zeroValue212
  t164 := Tryz.underlying105
  a164 := Tryz.isAgg105
  z164 := Tryz.sizeOf105
  v164 := Tryz.zeroValue105 }
theorem Tryz.Builder_Extra_105 : Builder.Extra Tryz.prog Tryz.lays105_ren := {
  sizeBuilder := by kernel_rfl
  liesBuilder := by kernel_rfl
  t5 := Tryz.underlying5
  a5 := Tryz.isAgg5
  z5 := Tryz.sizeOf5
  v5 := Tryz.zeroValue5
  infoByte := by kernel_rfl
  cellsByte := by kernel_rfl
  sizeByte := by kernel_rfl
  neB5 := by decide }
open Go.RowKit Go.Lib in
/-- **strings.Repeat: count ≥ 0, the result within one allocation: count copies of s.** (LAID: no walk: one application.) -/
theorem Tryz.strings_Repeat (s : ByteArray) (c : Nat) (w : World) (hc : c ≤ 9223372036854775807) (hlen : s.size * c ≤ 140737488355328) :
    Calls Tryz.prog 116 #[.string s, .int .i64 c] w fun e w' => e = .returned (.string ⟨(Lib.repeatL s.data.toList c).toArray⟩) ∧ Below w.heap.size w w' := Any.strings_Repeat Tryz.lays105 Tryz.Builder_Extra_105 s c w hc hlen
def Tryz.lays260_ren : Go.Shelf.Ren := ⟨fun | 260 => 92 | n => n, fun | 9 => 9 | 21 => 21 | 3 => 3 | 4 => 4 | 5 => 5 | 119 => 169 | 0 => 0 | 46 => 162 | 139 => 172 | 138 => 171 | n => n, fun | 3 => 3 | 4 => 4 | n => n⟩
theorem Tryz.lays260 : Go.Proofs.Lays.n260 Tryz.prog Tryz.lays260_ren := {
  mixed := by kernel_rfl
  f260 := Tryz.func92.trans (congrArg some (by kernel_rfl))
  t0 := Tryz.underlying0
  a0 := Tryz.isAgg0
  z0 := Tryz.sizeOf0
  v0 := Tryz.zeroValue0
  t3 := Tryz.underlying3
  a3 := Tryz.isAgg3
  z3 := Tryz.sizeOf3
  v3 := Tryz.zeroValue3
  t4 := Tryz.underlying4
  a4 := Tryz.isAgg4
  z4 := Tryz.sizeOf4
  v4 := Tryz.zeroValue4
  t5 := Tryz.underlying5
  a5 := Tryz.isAgg5
  z5 := Tryz.sizeOf5
  v5 := Tryz.zeroValue5
  t9 := Tryz.underlying9
  a9 := Tryz.isAgg9
  z9 := Tryz.sizeOf9
  v9 := Tryz.zeroValue9
  t21 := Tryz.underlying21
  a21 := Tryz.isAgg21
  z21 := Tryz.sizeOf21
  v21 := Tryz.zeroValue21
  t46 := Tryz.underlying162
  a46 := Tryz.isAgg162
  z46 := Tryz.sizeOf162
  v46 := Tryz.zeroValue162
  t119 := Tryz.underlying169
  a119 := Tryz.isAgg169
  z119 := Tryz.sizeOf169
  t138 := Tryz.underlying171
  a138 := Tryz.isAgg171
  z138 := Tryz.sizeOf171
  v138 := Tryz.zeroValue171
  t139 := Tryz.underlying172
  a139 := Tryz.isAgg172
  z139 := Tryz.sizeOf172
  v139 := Tryz.zeroValue172
  g3 := by kernel_rfl
  g4 := by kernel_rfl }
open Go.RowKit Go.Lib in
/-- **unicode/utf8.DecodeRuneInString AT EVERY STRING.** (LAID: no walk: one application.) -/
theorem Tryz.utf8_DecodeRuneInString (s : ByteArray) (w : World) (hT : Lib.Utf8Tabs 3 4 w) :
    Calls Tryz.prog 62 #[.string s] w fun e w' => e = .returned (.tuple #[.int .i32 (Lib.decodeGo s).1, .int .i64 (Lib.decodeGo s).2]) ∧ Below w.heap.size w w' := Any.utf8_DecodeRuneInString Tryz.lays197 s w hT
open Go.RowKit Go.Lib in
/-- **unicode.IsSpace AT EVERY int32.** (LAID: no walk: one application.) -/
theorem Tryz.unicode_IsSpace_any_d (r : Int) (w : World) (hlo : -2147483648 ≤ r) (hhi : r ≤ 2147483647) (hW : Lib.WhiteTab 2 w) :
    Calls Tryz.prog 63 #[.int .i32 r] w fun e w' => e = .returned (.bool (Lib.isSpaceZ r)) ∧ ∃ q, w' = w.drewN q := Any.unicode_IsSpace_any_d Tryz.lays199 r w hlo hhi hW
end Go.Proofs

namespace Go.Proofs.YtngofbhlhcalpaaGreatDoor.lexer
open Go.RowKit Go.Proofs.YtngofbhlhcalpaaGreatDoor.gen Go.Proofs.YtngofbhlhcalpaaGreatDoor.lines

def SomeStr (n : Nat) (w : World) (e : Ending) (w' : World) : Prop := ∃ t : ByteArray, e = .returned (.string t) ∧ t.size ≤ n ∧ Below w.heap.size w w'

theorem zzPad_any (n : Int) (w : World) (h0 : 0 ≤ n) (h1 : n ≤ 4294967296) (htab : Lib.TabIs Tryz.prog w "internal/strconv.uint64pow10" .u64 Lib.pow10Tab) :
    Calls Tryz.prog 115 #[.int .i64 n] w (SomeStr 32 w) := by
  go_enter Tryz.func115, Tryz.ntmps115
  go_wp2_with fail
  refine (Tryz.strconv_Itoa n (by omega) (by omega) _ htab).mono ?_
  rintro e w1 ⟨rfl, k, os, rfl⟩
  have hbel : Below w.heap.size w (Go.Sort.grow (w.drewN k) os) := by
    refine ⟨rfl, rfl, rfl, ?_, fun j hj => ?_⟩
    · show w.heap.size ≤ (w.heap ++ os).size
      rw [Array.size_append]; omega
    · show (w.heap ++ os)[j]? = _
      rw [Array.getElem?_append_left hj]
  have hlen : (⟨(Lib.itoa n).toArray⟩ : ByteArray).size ≤ 32 := by
    have := Lib.itoa_length_le n (by omega) (by omega)
    show (Lib.itoa n).toArray.size ≤ 32
    rw [List.size_toArray]; omega
  generalize Go.Sort.grow (w.drewN k) os = w1 at *
  generalize (⟨(Lib.itoa n).toArray⟩ : ByteArray) = t at *
  clear htab
  go_wp2_with fail
  go_loop [3] (fun v => ∃ t : ByteArray, v = .string t ∧ t.size ≤ 32) (fun v => 3 - strLen v)
  case atStart => exact ⟨t, rfl, hlen⟩
  case round =>
    obtain ⟨t2, rfl, ht2⟩ := hrel
    by_cases hlt : t2.size < 3
    · go_wp2_with fail
      go_round
      case rel =>
        refine ⟨_, rfl, ?_⟩
        show ([32] ++ t2.data.toList).length ≤ 32
        rw [List.length_append, len_list]
        show 1 + t2.size ≤ 32
        omega
      case measure =>
        show 3 - ([32] ++ t2.data.toList).length < 3 - t2.size
        rw [List.length_append, len_list]
        show 3 - (1 + t2.size) < _
        omega
    · go_wp2_with fail
      go_ret
      exact ⟨t2, rfl, ht2, hbel⟩

theorem TabIs_stays {P : Program} {n : String} {g : Nat} {k : IntKind} {zs : List Int} {w w' : World} (hg : P.globalNamed n = some g) (h : Lib.TabIs P w n k zs) (hb : Below w.heap.size w w') : Lib.TabIs P w' n k zs := by
  unfold Lib.TabIs World.var? at h ⊢
  rw [hg] at h ⊢
  simp only [Option.bind_some] at h ⊢
  have hlt : g < w.heap.size := by
    rcases Nat.lt_or_ge g w.heap.size with h' | h'
    · exact h'
    · rw [Array.getElem?_eq_none h'] at h; cases h
  rw [hb.block g hlt]
  exact h

/-- The library's tables, as their initialisers lay them. -/
structure Tabs (w : World) : Prop where
  utf : Lib.Utf8Tabs 3 4 w
  white : Lib.WhiteTab 2 w
  pow : Lib.TabIs Tryz.prog w "internal/strconv.uint64pow10" .u64 Lib.pow10Tab
  syn : ∃ ev, w.cell? ⟨6, 0, none⟩ = some ev ∧ (ev = .nilIface ∨ ∃ te pe, ev = .iface te pe)

theorem Tabs.below {w w' : World} (h : Tabs w) (hb : Below w.heap.size w w') : Tabs w' :=
  ⟨Utf8Tabs_below h.utf hb, WhiteTab_below h.white hb, TabIs_stays (P := Tryz.prog) (g := 5) (by kernel_rfl) h.pow hb, by
    obtain ⟨ev, h1, h2⟩ := h.syn
    refine ⟨ev, (hb.cell (p := ⟨6, 0, none⟩) ?_).trans h1, h2⟩
    rcases Nat.lt_or_ge 6 w.heap.size with h' | h'
    · exact h'
    · rw [World.cell?, Array.getElem?_eq_none h'] at h1; cases h1⟩

/-- The tables lie below the lexer and its file. -/
def Env (w : World) (lb fb : Nat) : Prop := ∃ W0, Tabs W0 ∧ Below W0.heap.size W0 w ∧ W0.heap.size ≤ lb ∧ W0.heap.size ≤ fb

theorem Env.tabs {w : World} {lb fb : Nat} (h : Env w lb fb) : Tabs w := by
  obtain ⟨W0, ht, hb, _, _⟩ := h
  exact ht.below hb

theorem Env.drewN {w : World} {lb fb : Nat} (h : Env w lb fb) (n : Nat) : Env (w.drewN n) lb fb := by
  obtain ⟨W0, ht, hb, h1, h2⟩ := h
  exact ⟨W0, ht, gen.below_drewN hb n, h1, h2⟩

theorem Env.frm {w w' : World} {lb fb : Nat} {S : List Nat} (h : Env w lb fb) (hf : Frm w w' S) (hS : ∀ x, x ∈ S → x = lb ∨ x = fb) : Env w' lb fb := by
  obtain ⟨W0, ht, hb, h1, h2⟩ := h
  refine ⟨W0, ht, hb.trans (hf.belowOf (fun x hx => ?_) hb.size), h1, h2⟩
  rcases hS x hx with rfl | rfl <;> assumption

def ResC (fb : Nat) (fp s : ByteArray) (p : Nat) (w : World) (e : Ending) (w' : World) : Prop :=
  ∃ (line st col : Nat) (v : Value), e = .returned (.tuple #[.int .i64 (line : Nat), .int .i64 (col : Nat)]) ∧ p = st + col ∧ (LL 0 s.data.toList)[line]? = some st ∧ (∀ nx, (LL 0 s.data.toList)[line + 1]? = some nx → p < nx) ∧ line < (parts s.data.toList).length ∧
    FileAt w' fb fp s v ∧ OwnC w' (fb + 1) v (lv (LL 0 s.data.toList)) ∧ Frm w w' [fb]

theorem resolve_col (fb : Nat) (fp s : ByteArray) (v : Value) (p : Nat) (w : World) (hs : s.size ≤ 2147483647) (hp : p ≤ s.size) (hf : FileAt w fb fp s v) (hv : v = .slice none 0 0 ∨ OwnC w (fb + 1) v (lv (LL 0 s.data.toList))) :
    Calls Tryz.prog 113 #[.pointer (some ⟨fb, 0, none⟩), .int .i64 p] w (ResC fb fp s p w) := by
  refine (resolve_any fb fp s v p w hs hp hf hv).mono ?_
  rintro e w' ⟨line, st, v', rfl, h1, h2, h3, h4, h5, h6, h7⟩
  refine ⟨line, st, p - st, v', ?_, by omega, h1, h3, h4, h5, h6, h7⟩
  rw [show ((p : Int) - (st : Int)) = ((p - st : Nat) : Int) from by omega]

theorem ll_mono (l : List UInt8) (i j a b : Nat) (h : i ≤ j) (hi : (LL 0 l)[i]? = some a) (hj : (LL 0 l)[j]? = some b) : a ≤ b := by
  induction j generalizing b with
  | zero =>
    obtain rfl : i = 0 := by omega
    rw [hi] at hj; cases hj; exact Nat.le_refl _
  | succ j ih =>
    rcases Nat.eq_or_lt_of_le h with h1 | h1
    · subst h1; rw [hi] at hj; cases hj; exact Nat.le_refl _
    · have hlt := (List.getElem?_eq_some_iff.1 hj).1
      rw [ll_len] at hlt
      obtain ⟨c, hc⟩ : ∃ c, (LL 0 l)[j]? = some c := ⟨_, List.getElem?_eq_getElem (by rw [ll_len]; omega)⟩
      obtain ⟨p, hp⟩ : ∃ p, (parts l)[j]? = some p := ⟨_, List.getElem?_eq_getElem (by omega)⟩
      have := ll_step 0 l j p c hp hc
      rw [hj] at this
      have h2 := Option.some.inj this
      have h3 := ih c (by omega) hc
      omega

theorem ll_next (l : List UInt8) (i a : Nat) (hi : (LL 0 l)[i]? = some a) (hl : i < (parts l).length) : ∃ b, (LL 0 l)[i + 1]? = some b ∧ a + 1 ≤ b ∧ b ≤ l.length + 1 := by
  obtain ⟨p, hp⟩ : ∃ p, (parts l)[i]? = some p := ⟨_, List.getElem?_eq_getElem hl⟩
  have := ll_step 0 l i p a hp hi
  have hb := ll_bound 0 l _ _ this
  exact ⟨_, this, by omega, by omega⟩

def PosRes (fb p : Nat) (w : World) (e : Ending) (w' : World) : Prop := ∃ pb, e = .returned (.pointer (some ⟨pb, 0, none⟩)) ∧ w'.cell? ⟨pb, 1, none⟩ = some (.int .i64 p) ∧ w.heap.size ≤ pb ∧ Frm w w' [fb]

theorem posDone (fb p k : Nat) (w w2 wc : World) (a v2 v3 v4 v5 v6 v7 : Value) (t : TypeId) (hF : Frm w w2 [fb]) (hb : Below w2.heap.size w2 wc) :
    PosRes fb p w (.returned (.pointer (some ⟨wc.heap.size, 0, none⟩))) ((wc.drewN k).alloc (.cells #[a, .int .i64 p, v2, v3, v4, v5, v6, v7] t)) := by
  refine ⟨wc.heap.size, rfl, ?_, Nat.le_trans hF.size hb.size, ((hF.step (Frm.ofBelow hb _)).drewN k).alloc _⟩
  have : ((wc.drewN k).alloc (.cells #[a, .int .i64 p, v2, v3, v4, v5, v6, v7] t)).heap[wc.heap.size]? = some (.cells #[a, .int .i64 p, v2, v3, v4, v5, v6, v7] t) := by
    show (wc.heap.push _)[wc.heap.size]? = _
    simp
  rw [block_cell this]; rfl

/-- The buffer of the text that a fault shows: some bytes, at most n of them. -/
def Buf (B b n : Nat) (w : World) : Prop := ∃ bs : List UInt8, Lib.IsBuffer 94 5 B b (Lib.byteCells bs) w ∧ bs.length ≤ n

/-- What the rest of Position reads: the file, two neighbouring lines. -/
structure Sees (w : World) (fb : Nat) (fp s : ByteArray) (g n cap : Nat) : Prop where
  file : FileAt w fb fp s (.slice (some ⟨g, 0, none⟩) n cap)
  own : OwnC w (fb + 1) (.slice (some ⟨g, 0, none⟩) n cap) (lv (LL 0 s.data.toList))
  len : n = (LL 0 s.data.toList).length

theorem Sees.below {w w' : World} {fb g n cap B : Nat} {fp s : ByteArray} (h : Sees w fb fp s g n cap) (hb : Below B w w') (hB : B = w.heap.size) : Sees w' fb fp s g n cap := by
  subst hB
  exact ⟨(hb.block fb (block_lt h.file)).trans h.file, h.own.below hb, h.len⟩

theorem Sees.c1 {w : World} {fb g n cap : Nat} {fp s : ByteArray} (h : Sees w fb fp s g n cap) : w.cell? ⟨fb, 1, none⟩ = some (.string s) := block_cell h.file 1
theorem Sees.c2 {w : World} {fb g n cap : Nat} {fp s : ByteArray} (h : Sees w fb fp s g n cap) : w.cell? ⟨fb, 2, none⟩ = some (.slice (some ⟨g, 0, none⟩) n cap) := block_cell h.file 2
theorem Sees.c0 {w : World} {fb g n cap : Nat} {fp s : ByteArray} (h : Sees w fb fp s g n cap) : w.cell? ⟨fb, 0, none⟩ = some (.string fp) := block_cell h.file 0

theorem Sees.line {w : World} {fb g n cap l : Nat} {fp s : ByteArray} (h : Sees w fb fp s g n cap) (hl : l < (parts s.data.toList).length) :
    ∃ a m : Nat, (LL 0 s.data.toList)[l]? = some a ∧ a ≤ m ∧ m ≤ s.size ∧ w.cell? ⟨g, l, none⟩ = some (.int .i64 (a : Int)) ∧ w.cell? ⟨g, l + 1, none⟩ = some (.int .i64 ((m : Int) + 1)) ∧ l + 1 < n := by
  obtain ⟨a, ha⟩ : ∃ a, (LL 0 s.data.toList)[l]? = some a := ⟨_, List.getElem?_eq_getElem (by rw [ll_len]; omega)⟩
  obtain ⟨b, hb, h1, h2⟩ := ll_next _ l a ha hl
  rw [len_list] at h2
  have h3 := h.own.at_ l (.int .i64 (a : Int)) (by simp [lv, ha])
  have h4 := h.own.at_ (l + 1) (.int .i64 (b : Int)) (by simp [lv, hb])
  refine ⟨a, b - 1, ha, by omega, by omega, h3, ?_, by rw [h.len, ll_len]; omega⟩
  rw [h4, show ((b - 1 : Nat) : Int) + 1 = (b : Int) from by omega]

theorem byteCells_one (l : List UInt8) : ∀ v ∈ Lib.byteCells l, v.oneCell' = true := by
  intro v hv
  simp only [Lib.byteCells, List.mem_map] at hv
  obtain ⟨b, _, rfl⟩ := hv
  rfl

theorem writeString_any (B b n : Nat) (t : ByteArray) (w : World) (h : Buf B b n w) (hB : B ≤ w.heap.size) (hl : n + t.size ≤ 140737488355328) :
    Calls Tryz.prog 42 #[.pointer (some ⟨b, 0, none⟩), .string t] w fun e w' => e = .returned (.tuple #[.int .i64 t.size, .nilIface]) ∧ Buf B b (n + t.size) w' ∧ Below B w w' := by
  obtain ⟨bs, h1, h2⟩ := h
  have hlen : (Lib.byteCells bs).length = bs.length := by simp [Lib.byteCells]
  refine (Tryz.Buffer_WriteString_k B b (Lib.byteCells bs) t w h1 hB (byteCells_one bs) (by rw [hlen]; omega)).mono ?_
  rintro e w' ⟨rfl, h3, h4, _⟩
  refine ⟨rfl, ⟨bs ++ t.data.toList, ?_, ?_⟩, h4⟩
  · rw [show Lib.byteCells (bs ++ t.data.toList) = Lib.byteCells bs ++ Lib.byteCells t.data.toList from by simp [Lib.byteCells]]
    exact h3
  · rw [List.length_append, len_list]; omega

theorem Buf.below {B b n : Nat} {w w' : World} (h : Buf B b n w) (hb : Below w.heap.size w w') : Buf B b n w' := by
  obtain ⟨bs, h1, h2⟩ := h
  exact ⟨bs, h1.old hb, h2⟩

theorem Buf.drewN {B b n : Nat} {w : World} (h : Buf B b n w) (k : Nat) : Buf B b n (w.drewN k) := h

theorem Buf.le {B b n m : Nat} {w : World} (h : Buf B b n w) (hm : n ≤ m) : Buf B b m w := by
  obtain ⟨bs, h1, h2⟩ := h
  exact ⟨bs, h1, by omega⟩

/-- The buffer at the head of what the call has laid. -/
def At (w2 : World) (n : Nat) (wx : World) : Prop := Buf w2.heap.size w2.heap.size n wx ∧ Below w2.heap.size w2 wx

theorem At.below {w2 wx wy : World} {n : Nat} (h : At w2 n wx) (hb : Below wx.heap.size wx wy) : At w2 n wy := ⟨h.1.below hb, h.2.trans (hb.mono h.2.size)⟩
theorem At.drewN {w2 wx : World} {n : Nat} (h : At w2 n wx) (k : Nat) : At w2 n (wx.drewN k) := ⟨h.1, gen.below_drewN h.2 k⟩
theorem At.le {w2 wx : World} {n m : Nat} (h : At w2 n wx) (hm : n ≤ m) : At w2 m wx := ⟨h.1.le hm, h.2⟩

theorem write_at (w2 wx : World) (n m : Nat) (t : ByteArray) (h : At w2 n wx) (hl : n + t.size ≤ m) (hm : m ≤ 140737488355328) :
    Calls Tryz.prog 42 #[.pointer (some ⟨w2.heap.size, 0, none⟩), .string t] wx fun e w' => e = .returned (.tuple #[.int .i64 t.size, .nilIface]) ∧ At w2 m w' := by
  refine (writeString_any _ _ n t wx h.1 h.2.size (by omega)).mono ?_
  rintro e w' ⟨rfl, h1, h2⟩
  exact ⟨rfl, h1.le hl, h.2.trans (h2.mono (Nat.le_refl _))⟩

theorem extract_le (s : ByteArray) (a m : Nat) : (s.extract a m).size ≤ s.size := by
  rw [ByteArray.size_extract]; omega

theorem repeat_any (s : ByteArray) (c : Nat) (w : World) (hs : s.size = 1) (hc : c ≤ 1048576) :
    Calls Tryz.prog 116 #[.string s, .int .i64 c] w (SomeStr c w) := by
  refine (Tryz.strings_Repeat s c w (by omega) (by rw [hs]; omega)).mono ?_
  rintro e w' ⟨rfl, hb⟩
  refine ⟨_, rfl, ?_, hb⟩
  show (Lib.repeatL s.data.toList c).length ≤ c
  have : ∀ n, (Lib.repeatL s.data.toList n).length = n := by
    intro n
    induction n with
    | zero => rfl
    | succ n ih => rw [Lib.repeatL, List.length_append, ih, len_list, hs]; omega
  rw [this]; exact Nat.le_refl _

theorem invalid_no (p : Int) (w : World) (h : 0 ≤ p) :
    Calls Tryz.prog 114 #[.int .i64 p] w fun e w' => e = .returned (.bool false) ∧ w = w' := by
  have hd : decide (p < 0) = false := by simp; omega
  go_enter Tryz.func114, Tryz.ntmps114
  go_wp2
  go_ret
  exact ⟨rfl, rfl⟩

end Go.Proofs.YtngofbhlhcalpaaGreatDoor.lexer

namespace Go.Proofs.YtngofbhlhcalpaaGreatDoor.lexer
open Go.RowKit Go.Proofs.YtngofbhlhcalpaaGreatDoor.gen Go.Proofs.YtngofbhlhcalpaaGreatDoor.lines

set_option maxRecDepth 100000 in
set_option maxHeartbeats 2000000 in
theorem position_any (lb fb : Nat) (fp s : ByteArray) (p q : Nat) (w : World) (hs : s.size ≤ 1048576) (hpq : p ≤ q) (hq : q ≤ s.size) (hf : FileAt w fb fp s (.slice none 0 0)) (hE : Env w lb fb) :
    Calls Tryz.prog 102 #[.pointer (some ⟨fb, 0, none⟩), .int .i64 p, .int .i64 q] w (PosRes fb p w) := by
  go_enter Tryz.func102, Tryz.ntmps102
  go_wp2_with fail
  refine (resolve_col fb fp s _ p _ (by omega) (by omega) hf (.inl rfl)).mono ?_
  rintro e w1 ⟨l1, st1, c1, v1, rfl, hp, hl1, hn1, hp1, hf1, ho1, hF1⟩
  have Hp := Lib.hid hp
  have Hl1 := Lib.hid hl1
  have Hn1 := Lib.hid hn1
  clear hp hl1 hn1
  go_wp2_with fail
  refine (resolve_col fb fp s _ q _ (by omega) (by omega) hf1 (.inr ho1)).mono ?_
  rintro e w2 ⟨l2, st2, c2, v2, rfl, hq2, hl2, hn2, hp2, hf2, ho2, hF2⟩
  obtain ⟨g, cap, rfl⟩ := ho2.shape rfl (by simp [lv, LL])
  have hll : (lv (LL 0 s.data.toList)).length = (LL 0 s.data.toList).length := by simp [lv]
  rw [hll] at hf2 ho2
  have hle : l1 ≤ l2 := by
    refine Nat.le_of_not_lt fun hlt => ?_
    obtain ⟨b, hb, _⟩ := ll_next _ l2 st2 hl2 hp2
    have h1 := ll_mono _ (l2 + 1) l1 b st1 (by omega) hb Hl1.out
    have h2 := hn2 b hb
    have h3 := Hp.out
    omega
  have HSee : Sees w2 fb fp s g (LL 0 s.data.toList).length cap := ⟨hf2, ho2, rfl⟩
  have hF := hF1.step hF2
  have hEnv2 := hE.frm hF (by simp)
  have hpm : (parts s.data.toList).length ≤ s.size + 1 := by
    have := parts_le s.data.toList
    rwa [len_list] at this
  have Hq2 := Lib.hid hq2
  have Hl2 := Lib.hid hl2
  have Hn2 := Lib.hid hn2
  have hcol1 : c1 ≤ p := by have := Hp.out; omega
  have hcol2 : c2 ≤ q := by have := Hq2.out; omega
  generalize (LL 0 s.data.toList).length = n at *
  clear hq2 hl2 hn2 hf hf1 ho1 hF1 hf2 ho2 hF2 hE hll
  have hp0 : 0 ≤ (p : Int) := by omega
  have hq0 : 0 ≤ (q : Int) := by omega
  have hB0 : Buf w2.heap.size w2.heap.size 0 (w2.alloc (.cells #[.slice none 0 0, .int .i64 0, .int .i8 0] 94)) := ⟨[], Lib.fresh_isBuffer _ _ w2, Nat.le_refl _⟩
  have hb0 : Below w2.heap.size w2 (w2.alloc (.cells #[.slice none 0 0, .int .i64 0, .int .i8 0] 94)) := (Below.refl _ _).alloc (Nat.le_refl _) _
  go_upto_block 0 with fail
  generalize w2.alloc (.cells #[.slice none 0 0, .int .i64 0, .int .i8 0] 94) = w3 at *
  have hS3 := HSee.below hb0 rfl
  go_cut [11] from 12 to 121 (fun b wx => b = .pointer (some ⟨w2.heap.size, 0, none⟩) ∧ At w2 4398046511104 wx)
  case first =>
    rcases Nat.eq_or_lt_of_le hle with heq | hlt
    · subst heq
      obtain ⟨a, m, hla, ham, hms, hca, hcm, hln⟩ := hS3.line hp1
      have c1' : w3.cell? ⟨fb, 1, none⟩ = some (.string s) := block_cell hS3.file 1
      have c2' : w3.cell? ⟨fb, 2, none⟩ = some (.slice (some ⟨g, 0, none⟩) n cap) := block_cell hS3.file 2
      have e1 : IntKind.i64.wrap ((l1 : Int) + 1) = (l1 : Int) + 1 := IntWalk.i64_in _ (by omega)
      have e2 : IntKind.i64.wrap ((m : Int) + 1 - 1) = (m : Int) := by rw [IntWalk.i64_in _ (by omega)]; omega
      have e3 : ((l1 : Int) + 1).toNat = l1 + 1 := by omega
      have i1 : (l1 : Int) < (n : Int) := by omega
      have i2 : (l1 : Int) + 1 < (n : Int) := by omega
      have i3 : (0 : Int) ≤ (l1 : Int) + 1 := by omega
      have Hla := Lib.hid hla
      clear hla
      obtain ⟨d, hmx⟩ : ∃ d : Nat, max ((c2 : Int) - (c1 : Int) - 1) 0 = (d : Int) := ⟨(max ((c2 : Int) - (c1 : Int) - 1) 0).toNat, by omega⟩
      have hdz : d ≤ s.size := by omega
      go_wp2_with (go_at_call 114; first | (refine (invalid_no _ _ hp0).mono ?_; rintro e w' ⟨rfl, rfl⟩) | (refine (invalid_no _ _ hq0).mono ?_; rintro e w' ⟨rfl, rfl⟩))
      go_quiet (fail)
      go_wp2_with fail
      have hE4 := (hEnv2.frm (Frm.ofBelow hb0 []) (by simp)).frm ((Frm.refl _ []).drewN nq) (by simp)
      have hBf := hB0
      refine (zzPad_any _ _ (by omega) (by omega) hE4.tabs.pow).mono ?_
      rintro e w4 ⟨t1, rfl, ht1, hb4⟩
      go_wp2_with fail
      have hA4 : At w2 0 w4 := At.below (n := 0) ⟨hB0.drewN nq, gen.below_drewN hb0 nq⟩ hb4
      have hext := extract_le s a m
      have hsz : 0 + (t1 ++ ⟨#[124, 32, 32]⟩ ++ s.extract a m ++ ⟨#[10]⟩ : ByteArray).size ≤ 1048676 := by
        simp only [ByteArray.size_append]
        show 0 + (t1.size + 3 + (s.extract a m).size + 1) ≤ _
        omega
      refine (write_at w2 _ 0 1048676 _ hA4 hsz (by omega)).mono ?_
      rintro e w5 ⟨rfl, hA5⟩
      clear hsz hext
      go_wp2_with fail
      refine (repeat_any _ c1 _ rfl (by omega)).mono ?_
      rintro e w6 ⟨t2, rfl, ht2, hb6⟩
      have hA6 := hA5.below hb6
      go_wp2_with fail
      refine (repeat_any _ d _ rfl (by omega)).mono ?_
      rintro e w7 ⟨t3, rfl, ht3, hb7⟩
      have hA7 := hA6.below hb7
      go_wp2_with fail
      have hsz2 : 1048676 + (⟨#[32, 32, 32, 124, 32, 32]⟩ ++ t2 ++ ⟨#[94]⟩ ++ t3 : ByteArray).size ≤ 4398046511104 := by
        simp only [ByteArray.size_append]
        show 1048676 + (6 + t2.size + 1 + t3.size) ≤ _
        omega
      refine (write_at w2 _ _ 4398046511104 _ hA7 hsz2 (by omega)).mono ?_
      rintro e w8 ⟨rfl, hA8⟩
      clear hsz2
      go_wp2_with fail
      go_meet
      exact ⟨rfl, hA8⟩
    · have hne : ((l1 : Int) == (l2 : Int)) = false := by simp; omega
      have hlt' : decide ((l1 : Int) < (l2 : Int)) = true := by simp; omega
      have hA3 : At w2 (l1 * 1048700) w3 := At.le (n := 0) ⟨hB0, hb0⟩ (by omega)
      go_wp2_with (go_at_call 114; first | (refine (invalid_no _ _ hp0).mono ?_; rintro e w' ⟨rfl, rfl⟩) | (refine (invalid_no _ _ hq0).mono ?_; rintro e w' ⟨rfl, rfl⟩))
      go_loopw [14, 15] (fun i t wr => ∃ k : Nat, k ≤ l2 + 1 ∧ i = .int .i64 k ∧ At w2 (k * 1048700) wr) (fun i _ _ => l2 + 1 - (intOf i).toNat)
      case atStart => exact ⟨l1, by omega, rfl, hA3⟩
      case round =>
        obtain ⟨k, hk, rfl, hAk⟩ := hrel
        by_cases hkl : k ≤ l2
        · have hgo : decide ((k : Int) ≤ (l2 : Int)) = true := by simp; omega
          have hkp : k < (parts s.data.toList).length := by omega
          rcases Nat.eq_zero_or_pos k with h0 | h0
          · have hpos : decide (0 < k) = false := by simp; omega
            clear h0
            have hSr := HSee.below hAk.2 rfl
            go_wp2_with fail
            obtain ⟨a, m, hla, ham, hms, hca, hcm, hln⟩ := hSr.line hkp
            have c1' := hSr.c1
            have c2' := hSr.c2
            have e1 : IntKind.i64.wrap ((k : Int) + 1) = (k : Int) + 1 := IntWalk.i64_in _ (by omega)
            have e2 : IntKind.i64.wrap ((m : Int) + 1 - 1) = (m : Int) := by rw [IntWalk.i64_in _ (by omega)]; omega
            have e3 : ((k : Int) + 1).toNat = k + 1 := by omega
            have i1 : (k : Int) < (n : Int) := by omega
            have i2 : (k : Int) + 1 < (n : Int) := by omega
            have i3 : (0 : Int) ≤ (k : Int) + 1 := by omega
            have Hla := Lib.hid hla
            clear hla
            go_quiet (fail)
            go_wp2_with fail
            have hE4 := hEnv2.frm (Frm.ofBelow (hAk.drewN nq).2 []) (by simp)
            refine (zzPad_any _ _ (by omega) (by omega) hE4.tabs.pow).mono ?_
            rintro e w5 ⟨t1, rfl, ht1, hb5⟩
            have hA5 := (hAk.drewN nq).below hb5
            go_wp2_with fail
            have hext := extract_le s a m
            have hsz : (t1 ++ ⟨#[124, 32, 32]⟩ ++ s.extract a m : ByteArray).size ≤ 1048650 := by
              simp only [ByteArray.size_append]
              show t1.size + 3 + (s.extract a m).size ≤ _
              omega
            refine (write_at w2 _ _ ((k + 1) * 1048700) _ hA5 (by omega) (by omega)).mono ?_
            rintro e w6 ⟨rfl, hA6⟩
            clear hsz hext
            go_wp2_with fail
            go_roundw
            case rel => exact ⟨k + 1, by omega, by go_num, hA6⟩
            case measure => simp [intOf]; omega
          · have hpos : decide (0 < k) = true := by simp; omega
            go_wp2_with fail
            refine (write_at w2 _ _ (k * 1048700 + 1) _ hAk (Nat.le_refl _) (by omega)).mono ?_
            rintro e w4 ⟨rfl, hA4⟩
            have hSr := HSee.below hA4.2 rfl
            clear hAk
            have hAk := hA4
            go_wp2_with fail
            obtain ⟨a, m, hla, ham, hms, hca, hcm, hln⟩ := hSr.line hkp
            have c1' := hSr.c1
            have c2' := hSr.c2
            have e1 : IntKind.i64.wrap ((k : Int) + 1) = (k : Int) + 1 := IntWalk.i64_in _ (by omega)
            have e2 : IntKind.i64.wrap ((m : Int) + 1 - 1) = (m : Int) := by rw [IntWalk.i64_in _ (by omega)]; omega
            have e3 : ((k : Int) + 1).toNat = k + 1 := by omega
            have i1 : (k : Int) < (n : Int) := by omega
            have i2 : (k : Int) + 1 < (n : Int) := by omega
            have i3 : (0 : Int) ≤ (k : Int) + 1 := by omega
            have Hla := Lib.hid hla
            clear hla
            go_quiet (fail)
            go_wp2_with fail
            have hE4 := hEnv2.frm (Frm.ofBelow (hAk.drewN nq).2 []) (by simp)
            refine (zzPad_any _ _ (by omega) (by omega) hE4.tabs.pow).mono ?_
            rintro e w5 ⟨t1, rfl, ht1, hb5⟩
            have hA5 := (hAk.drewN nq).below hb5
            go_wp2_with fail
            have hext := extract_le s a m
            have hsz : (t1 ++ ⟨#[124, 32, 32]⟩ ++ s.extract a m : ByteArray).size ≤ 1048650 := by
              simp only [ByteArray.size_append]
              show t1.size + 3 + (s.extract a m).size ≤ _
              omega
            refine (write_at w2 _ _ ((k + 1) * 1048700) _ hA5 (by omega) (by omega)).mono ?_
            rintro e w6 ⟨rfl, hA6⟩
            clear hsz hext
            go_wp2_with fail
            go_roundw
            case rel => exact ⟨k + 1, by omega, by go_num, hA6⟩
            case measure => simp [intOf]; omega
        · have hgo : decide ((k : Int) ≤ (l2 : Int)) = false := by simp; omega
          go_wp2_with fail
          go_meet
          exact ⟨rfl, hAk.le (by omega)⟩
  case rest =>
    obtain ⟨rfl, hA⟩ := hcut
    have hSr := HSee.below hA.2 rfl
    have c0' := hSr.c0
    obtain ⟨bs, hIs, hbs⟩ := hA.1
    have hbel := hA.2
    clear hA
    have hlt := hIs.lt
    go_wp2_with fail
    go_region_with (go_at_call 48; refine (Tryz.Buffer_String _ _ bs _ (by first | exact hIs | exact hIs.drewN _ | exact (hIs.drewN _).drew)).mono ?_; rintro e w6 ⟨rfl, nq, rfl⟩)
    all_goals go_wp2_with fail
    all_goals go_ret
    all_goals exact posDone fb p _ w w2 wc _ _ _ _ _ _ _ _ hF hbel

end Go.Proofs.YtngofbhlhcalpaaGreatDoor.lexer

namespace Go.Proofs.YtngofbhlhcalpaaGreatDoor.lexer
open Go.RowKit Go.Proofs.YtngofbhlhcalpaaGreatDoor.gen Go.Proofs.YtngofbhlhcalpaaGreatDoor.lines

/-- An error value: it holds the position p. -/
def ErrAt (eb p : Nat) (w : World) : Prop := ∃ pb, w.cell? ⟨eb, 1, none⟩ = some (.pointer (some ⟨pb, 0, none⟩)) ∧ w.cell? ⟨pb, 1, none⟩ = some (.int .i64 p)

def ErrRes (fb p : Nat) (w : World) (e : Ending) (w' : World) : Prop := ∃ eb, e = .returned (.pointer (some ⟨eb, 0, none⟩)) ∧ ErrAt eb p w' ∧ w.heap.size ≤ eb ∧ Frm w w' [fb]

def Fault (fb p : Nat) (w : World) (e : Ending) (w' : World) : Prop := ∃ eb, e = .panicked [⟨.iface 72 (.pointer (some ⟨eb, 0, none⟩)), false, false⟩] ∧ ErrAt eb p w' ∧ w.heap.size ≤ eb ∧ Frm w w' [fb]

theorem errDone (fb p pb : Nat) (w w6 : World) (a : Value) (t : TypeId) (hF : Frm w w6 [fb]) (hc : w6.cell? ⟨pb, 1, none⟩ = some (.int .i64 p)) :
    ErrRes fb p w (.returned (.pointer (some ⟨w6.heap.size, 0, none⟩))) (w6.alloc (.cells #[a, .pointer (some ⟨pb, 0, none⟩)] t)) := by
  have : (w6.alloc (.cells #[a, .pointer (some ⟨pb, 0, none⟩)] t)).heap[w6.heap.size]? = some (.cells #[a, .pointer (some ⟨pb, 0, none⟩)] t) := by
    show (w6.heap.push _)[w6.heap.size]? = _
    simp
  refine ⟨w6.heap.size, rfl, ⟨pb, by rw [block_cell this]; rfl, ?_⟩, hF.size, hF.alloc _⟩
  have hlt : pb < w6.heap.size := by
    rcases Nat.lt_or_ge pb w6.heap.size with h | h
    · exact h
    · rw [World.cell?, Array.getElem?_eq_none h] at hc; cases hc
  rw [World.cell?_of_block (Below.heap_alloc w6 _ pb hlt)]
  exact hc

set_option maxRecDepth 100000 in
set_option maxHeartbeats 4000000 in
theorem errorf_any (lb fb : Nat) (fp s : ByteArray) (x : LX) (msg : ByteArray) (w : World) (hs : s.size ≤ 1048576) (hp : x.p ≤ s.size) (h : St w lb fb fp s x) (hE : Env w lb fb) :
    Calls Tryz.prog 83 #[.pointer (some ⟨lb, 0, none⟩), .string msg] w (ErrRes fb x.p w) := by
  go_enter Tryz.func83, Tryz.ntmps83
  have c0 : w.cell? ⟨lb, 0, none⟩ = some (.pointer (some ⟨fb, 0, none⟩)) := h.rd.c0
  have c9 := h.rd.c9
  go_wp2_with fail
  have HS := Lib.hid h
  have HE := Lib.hid hE
  clear h hE
  go_region_with (go_at_call 102; refine (position_any lb fb fp s x.p x.p _ hs (Nat.le_refl _) hp (HS.out.drewN 1).file (HE.out.drewN 1)).mono ?_; rintro e w6 ⟨pb, rfl, hpc, _, hpf⟩)
  all_goals go_wp2_with fail
  all_goals go_ret
  all_goals exact errDone fb x.p pb w w6 _ _ (((Frm.refl w _).drewN 1).step hpf) hpc

set_option maxRecDepth 100000 in
theorem errorfAt_any (lb fb : Nat) (fp s : ByteArray) (x : LX) (p q : Nat) (msg : ByteArray) (w : World) (hs : s.size ≤ 1048576) (hp : p ≤ q) (hq : q ≤ s.size) (h : St w lb fb fp s x) (hE : Env w lb fb) :
    Calls Tryz.prog 100 #[.pointer (some ⟨lb, 0, none⟩), .int .i64 p, .int .i64 q, .string msg] w (ErrRes fb p w) := by
  go_enter Tryz.func100, Tryz.ntmps100
  have c0 : w.cell? ⟨lb, 0, none⟩ = some (.pointer (some ⟨fb, 0, none⟩)) := h.rd.c0
  have HS := Lib.hid h
  have HE := Lib.hid hE
  clear h hE
  go_wp2_with fail
  refine (position_any lb fb fp s p q _ hs hp hq HS.out.file HE.out).mono ?_
  rintro e w6 ⟨pb, rfl, hpc, _, hpf⟩
  go_wp2_with fail
  go_ret
  exact errDone fb p pb w w6 _ _ hpf hpc

set_option maxRecDepth 100000 in
theorem panicf_any (lb fb : Nat) (fp s : ByteArray) (x : LX) (msg : ByteArray) (w : World) (hs : s.size ≤ 1048576) (hp : x.p ≤ s.size) (h : St w lb fb fp s x) (hE : Env w lb fb) :
    Calls Tryz.prog 96 #[.pointer (some ⟨lb, 0, none⟩), .string msg] w (Fault fb x.p w) := by
  go_enter Tryz.func96, Tryz.ntmps96
  have HS := Lib.hid h
  have HE := Lib.hid hE
  clear h hE
  go_wp2_with fail
  refine (errorf_any lb fb fp s x msg _ hs hp HS.out HE.out).mono ?_
  rintro e w6 ⟨eb, rfl, he, hl, hf⟩
  go_wp2_with fail
  exact ⟨rfl, eb, rfl, he, hl, hf⟩

set_option maxRecDepth 100000 in
theorem panicfAt_any (lb fb : Nat) (fp s : ByteArray) (x : LX) (p q : Nat) (msg : ByteArray) (w : World) (hs : s.size ≤ 1048576) (hp : p ≤ q) (hq : q ≤ s.size) (h : St w lb fb fp s x) (hE : Env w lb fb) :
    Calls Tryz.prog 94 #[.pointer (some ⟨lb, 0, none⟩), .int .i64 p, .int .i64 q, .string msg] w (Fault fb p w) := by
  go_enter Tryz.func94, Tryz.ntmps94
  have HS := Lib.hid h
  have HE := Lib.hid hE
  clear h hE
  go_wp2_with fail
  refine (errorfAt_any lb fb fp s x p q msg _ hs hp hq HS.out HE.out).mono ?_
  rintro e w6 ⟨eb, rfl, he, hl, hf⟩
  go_wp2_with fail
  exact ⟨rfl, eb, rfl, he, hl, hf⟩

end Go.Proofs.YtngofbhlhcalpaaGreatDoor.lexer

namespace Go.Proofs.YtngofbhlhcalpaaGreatDoor.lexer
open Go.RowKit Go.Proofs.YtngofbhlhcalpaaGreatDoor.gen

/-- A fault at the place p: of the blocks that were there only the lexer and its file have changed. -/
def FaultL (lb fb p : Nat) (w : World) (e : Ending) (w' : World) : Prop := ∃ eb, e = .panicked [⟨.iface 72 (.pointer (some ⟨eb, 0, none⟩)), false, false⟩] ∧ ErrAt eb p w' ∧ w.heap.size ≤ eb ∧ Frm w w' [lb, fb]

theorem _root_.Go.Proofs.YtngofbhlhcalpaaGreatDoor.gen.Frm.mono {w w' : World} {S T : List Nat} (h : Frm w w' S) (hs : ∀ x, x ∈ S → x ∈ T) : Frm w w' T := ⟨h.os, h.tape, h.output, h.size, fun k hk hn => h.block k hk (fun hm => hn (hs k hm))⟩

theorem Fault.from {lb fb p : Nat} {w w1 w' : World} {e : Ending} (hF : Frm w w1 [lb]) (h : Fault fb p w1 e w') : FaultL lb fb p w e w' := by
  obtain ⟨eb, h1, h2, h3, h4⟩ := h
  exact ⟨eb, h1, h2, Nat.le_trans hF.size h3, (hF.mono (by simp)).step (h4.mono (by simp))⟩

end Go.Proofs.YtngofbhlhcalpaaGreatDoor.lexer

namespace Go.Proofs.YtngofbhlhcalpaaGreatDoor.asE
open Go.RowKit Go.Extern.Stop Go.Stop Go.Extern Go.Proofs.YtngofbhlhcalpaaGreatDoor.gen

theorem as_nil (t : Value) (w : World) :
    Calls Tryz.prog 39 #[.nilIface, t] w fun e w' => e = .returned (.bool false) ∧ w' = w := by
  go_enter Tryz.func39, Tryz.ntmps39
  go_wp2
  go_ret
  exact ⟨rfl, rfl⟩

theorem valueOf27_ (t : Addr) (w : World) : (ReflectliteValue.unpack (.iface 76 (.pointer (some t)))).run Tryz.prog w
    = .ok (.agg #[.pointer (some ⟨12, 76, none⟩), .pointer (some ⟨w.heap.size, 0, none⟩), .int .u64 150]) (w.alloc (.cells #[.pointer (some t)] 76)) := by kernel_rfl
theorem type27_ (a : Addr) (w : World) : (ReflectliteValue.methodAny (ReflectliteValue.valueError "reflectlite.Value.Type" 0) (fun t _ _ _ => ReflectliteType.toType t) #[.agg #[.pointer (some ⟨12, 76, none⟩), .pointer (some a), .int .u64 150]]).run Tryz.prog w
    = .ok (.iface 138 (.agg #[.pointer (some ⟨12, 76, none⟩)])) w := by kernel_rfl
theorem methodKind_ (h : Value) (w : World) : (Go.method 349 138 (.agg #[h]) "Kind").run Tryz.prog w = .ok (165, h) w := by kernel_rfl
theorem kind27_ (w : World) : ((ReflectliteType.abiMethod fun t => (fun a : Nat => Value.int IntKind.u8 (a : Int)) <$> Rtype.kind t) #[.pointer (some ⟨12, 76, none⟩)]).run Tryz.prog w = .ok (.int .u8 22) w := by kernel_rfl
theorem kind25_ (w : World) : ((ReflectliteType.abiMethod fun t => (fun a : Nat => Value.int IntKind.u8 (a : Int)) <$> Rtype.kind t) #[.pointer (some ⟨12, 72, none⟩)]).run Tryz.prog w = .ok (.int .u8 22) w := by kernel_rfl

theorem rlm (z : Sem Value) (f : TypeId → Addr → Nat → Nat → Sem Value) (v : Value) :
    ReflectliteValue.method z f #[v] = (do match ← ReflectliteValue.parts v with | none => z | some (t, a, fl) => f t a fl (fl % 32)) := rfl
theorem parts27_ (a : Addr) (w : World) : (ReflectliteValue.parts (.agg #[.pointer (some ⟨12, 76, none⟩), .pointer (some a), .int .u64 150])).run Tryz.prog w = .ok (some (76, a, 150)) w := by kernel_rfl
theorem isNil27_ (a p : Addr) (W : World) (ha : W.cell? a = some (.pointer (some p))) :
    (ReflectliteValue.method (ReflectliteValue.valueError "reflectlite.Value.IsNil" 0) ReflectliteValue.isNil #[.agg #[.pointer (some ⟨12, 76, none⟩), .pointer (some a), .int .u64 150]]).run Tryz.prog W = .ok (.bool false) W := by
  rw [rlm]
  simp only [Sem.run_bind, parts27_, Result.andThen]
  simp [ReflectliteValue.isNil, loadVar, isAgg, underlying, Tryz.underlying76, ha, Result.andThen]

theorem methodElem_ (h : Value) (w : World) : (Go.method 349 138 (.agg #[h]) "Elem").run Tryz.prog w = .ok (177, .agg #[h]) w := by kernel_rfl
theorem methodImplements_ (h : Value) (w : World) : (Go.method 349 138 (.agg #[h]) "Implements").run Tryz.prog w = .ok (178, .agg #[h]) w := by kernel_rfl
theorem methodAssignableTo_ (h : Value) (w : World) : (Go.method 349 138 (.agg #[h]) "AssignableTo").run Tryz.prog w = .ok (175, .agg #[h]) w := by kernel_rfl
theorem elem27_ (w : World) : (ReflectliteType.method ReflectliteType.elem #[.agg #[.pointer (some ⟨12, 76, none⟩)]]).run Tryz.prog w = .ok (.iface 138 (.agg #[.pointer (some ⟨12, 72, none⟩)])) w := by kernel_rfl
theorem implements25_ (w : World) : (ReflectliteType.relation "Implements" ReflectliteType.implements_ #[.agg #[.pointer (some ⟨12, 72, none⟩)], .iface 138 (.agg #[.pointer (some ⟨12, 52, none⟩)])]).run Tryz.prog w = .ok (.bool true) w := by kernel_rfl
theorem typeOf25_ (v : Value) (w : World) : (ReflectliteType.typeOf #[.iface 72 v]).run Tryz.prog w = .ok (.iface 138 (.agg #[.pointer (some ⟨12, 72, none⟩)])) w := by kernel_rfl
theorem assignable25_ (w : World) : (ReflectliteType.relation "AssignableTo" ReflectliteType.assignableTo #[.agg #[.pointer (some ⟨12, 72, none⟩)], .iface 138 (.agg #[.pointer (some ⟨12, 72, none⟩)])]).run Tryz.prog w = .ok (.bool true) w := by kernel_rfl
theorem valueOf25_ (e : Addr) (w : World) : (ReflectliteValue.unpack (.iface 72 (.pointer (some e)))).run Tryz.prog w
    = .ok (.agg #[.pointer (some ⟨12, 72, none⟩), .pointer (some ⟨w.heap.size, 0, none⟩), .int .u64 150]) (w.alloc (.cells #[.pointer (some e)] 72)) := by kernel_rfl

theorem elemOf27_ (w : World) : (Rtype.elem? 76).run Tryz.prog w = .ok (some 72) w := by kernel_rfl
theorem mk25_ (p : Addr) (w : World) : (ReflectliteValue.mk 72 p ReflectliteValue.flagAddr).run Tryz.prog w = .ok (.agg #[.pointer (some ⟨12, 72, none⟩), .pointer (some p), .int .u64 406]) w := by kernel_rfl
theorem elemV27_ (a p : Addr) (W : World) (ha : W.cell? a = some (.pointer (some p))) :
    (ReflectliteValue.method (ReflectliteValue.valueError "reflectlite.Value.Elem" 0) ReflectliteValue.elem #[.agg #[.pointer (some ⟨12, 76, none⟩), .pointer (some a), .int .u64 150]]).run Tryz.prog W
      = .ok (.agg #[.pointer (some ⟨12, 72, none⟩), .pointer (some p), .int .u64 406]) W := by
  rw [rlm]
  simp only [Sem.run_bind, parts27_, Result.andThen]
  simp [ReflectliteValue.elem, loadVar, isAgg, underlying, Tryz.underlying76, ha, Result.andThen, elemOf27_, mk25_]
theorem rls (v x : Value) : ReflectliteValue.set #[v, x] = (do
    let (some (dst, a, fl), some (src, b, _)) := (← ReflectliteValue.parts v, ← ReflectliteValue.parts x)
      | unsupported (.noEntry "extern/(internal/reflectlite.Value).Set.zeroValue")
    if fl / ReflectliteValue.flagAddr % 2 == 0 then unsupported (.noEntry "extern/(internal/reflectlite.Value).Set.unaddressable")
    let val ← loadVar src b
    if ← Rtype.directlyAssignable dst src then storeVar dst a val
    else if ← Rtype.implements dst src then
      if (← Rtype.kind src) == 20 then
        match val with
        | .nilIface => unsupported (.noEntry "extern/reflectlite: a nil value of one interface type handed on as a value of another")
        | _ => storeVar dst a val
      else storeVar dst a (.iface src val)
    else panicString ("reflectlite.Set: value of type " ++ (← Rtype.spelt src) ++ " is not assignable to type " ++ (← Rtype.spelt dst))
    pure (.tuple #[])) := rfl
theorem parts25a_ (a : Addr) (w : World) : (ReflectliteValue.parts (.agg #[.pointer (some ⟨12, 72, none⟩), .pointer (some a), .int .u64 406])).run Tryz.prog w = .ok (some (72, a, 406)) w := by kernel_rfl
theorem parts25_ (a : Addr) (w : World) : (ReflectliteValue.parts (.agg #[.pointer (some ⟨12, 72, none⟩), .pointer (some a), .int .u64 150])).run Tryz.prog w = .ok (some (72, a, 150)) w := by kernel_rfl
theorem direct25_ (w : World) : (Rtype.directlyAssignable 72 72).run Tryz.prog w = .ok true w := by kernel_rfl
theorem size25_ (w : World) : (sizeOf 72).run Tryz.prog w = .ok 1 w := by kernel_rfl
theorem set25_ (ta b e : Addr) (old : Value) (W : World) (hb : W.cell? b = some (.pointer (some e))) (ht : W.cell? ta = some old) (hf : W.frozen? ta = false) :
    (ReflectliteValue.set #[.agg #[.pointer (some ⟨12, 72, none⟩), .pointer (some ta), .int .u64 406], .agg #[.pointer (some ⟨12, 72, none⟩), .pointer (some b), .int .u64 150]]).run Tryz.prog W
      = .ok (.tuple #[]) (W.setCell ta (.pointer (some e))) := by
  rw [rls]
  simp only [Sem.run_bind, parts25a_, parts25_, Result.andThen]
  simp [ReflectliteValue.flagAddr, loadVar, isAgg, underlying, Tryz.underlying72, hb, Result.andThen, direct25_, storeVar, Value.cells, storeCells, Addr.add]
  rw [run_store Tryz.prog W ta _ _ (by rfl)]
  simp [ht, hf]

end Go.Proofs.YtngofbhlhcalpaaGreatDoor.asE

namespace Go.Proofs.YtngofbhlhcalpaaGreatDoor.asE
open Go.RowKit Go.Extern.Stop Go.Stop Go.Extern Go.Proofs.YtngofbhlhcalpaaGreatDoor.gen

set_option maxRecDepth 100000 in
set_option maxHeartbeats 4000000 in
theorem as_hit (e t : Addr) (old : Value) (w : World) (hg : w.cell? ⟨0, 0, none⟩ = some (.iface 138 (.agg #[.pointer (some ⟨12, 52, none⟩)]))) (ht0 : w.cell? t = some old) (hf0 : w.frozen? t = false) :
    Calls Tryz.prog 39 #[.iface 72 (.pointer (some e)), .iface 76 (.pointer (some t))] w fun ev w' => ev = .returned (.bool true) ∧ w' = ((((w.alloc (.cells #[.pointer (some t)] 76)).alloc (.cells #[.pointer (some ⟨12, 76, none⟩), .pointer (some ⟨w.heap.size, 0, none⟩), .int .u64 150] 108)).alloc (.cells #[.pointer (some ⟨12, 76, none⟩), .pointer (some ⟨w.heap.size, 0, none⟩), .int .u64 150] 108)).alloc (.cells #[.pointer (some e)] 72)).setCell t (.pointer (some e)) := by
  have h6 := @run_callFunc_extern Tryz.prog 53 _ (fun args => ReflectliteValue.unpack (args.getD 0 (.tuple #[]))) Tryz.func53 (by kernel_rfl) (by kernel_rfl) (by kernel_rfl) (by kernel_rfl)
  have h7 := @run_callFunc_extern Tryz.prog 54 _ (ReflectliteValue.methodAny (ReflectliteValue.valueError "reflectlite.Value.Type" 0) (fun t _ _ _ => ReflectliteType.toType t)) Tryz.func54 (by kernel_rfl) (by kernel_rfl) (by kernel_rfl) (by kernel_rfl)
  have h8 := @run_callFunc_extern Tryz.prog 55 _ (ReflectliteValue.method (ReflectliteValue.valueError "reflectlite.Value.IsNil" 0) ReflectliteValue.isNil) Tryz.func55 (by kernel_rfl) (by kernel_rfl) (by kernel_rfl) (by kernel_rfl)
  have h27 := @run_callFunc_extern Tryz.prog 165 _ (ReflectliteType.abiMethod fun t => do pure (.int .u8 (← Rtype.kind t))) Tryz.func165 (by kernel_rfl) (by kernel_rfl) (by kernel_rfl) (by kernel_rfl)
  have h37 := @run_callFunc_extern Tryz.prog 177 _ (ReflectliteType.method ReflectliteType.elem) Tryz.func177 (by kernel_rfl) (by kernel_rfl) (by kernel_rfl) (by kernel_rfl)
  have h38 := @run_callFunc_extern Tryz.prog 178 _ (ReflectliteType.relation "Implements" ReflectliteType.implements_) Tryz.func178 (by kernel_rfl) (by kernel_rfl) (by kernel_rfl) (by kernel_rfl)
  have h10 := @run_callFunc_extern Tryz.prog 84 _ ReflectliteType.typeOf Tryz.func84 (by kernel_rfl) (by kernel_rfl) (by kernel_rfl) (by kernel_rfl)
  have h35 := @run_callFunc_extern Tryz.prog 175 _ (ReflectliteType.relation "AssignableTo" ReflectliteType.assignableTo) Tryz.func175 (by kernel_rfl) (by kernel_rfl) (by kernel_rfl) (by kernel_rfl)
  have h11 := @run_callFunc_extern Tryz.prog 85 _ (ReflectliteValue.method (ReflectliteValue.valueError "reflectlite.Value.Elem" 0) ReflectliteValue.elem) Tryz.func85 (by kernel_rfl) (by kernel_rfl) (by kernel_rfl) (by kernel_rfl)
  have h12 := @run_callFunc_extern Tryz.prog 86 _ ReflectliteValue.set Tryz.func86 (by kernel_rfl) (by kernel_rfl) (by kernel_rfl) (by kernel_rfl)
  have tO := typeOf25_
  have mA := methodAssignableTo_
  have a25 := assignable25_
  have v25 := valueOf25_
  have f6 := valueOf27_
  have f7 := type27_
  have mK := methodKind_
  have mE := methodElem_
  have mI := methodImplements_
  have k27 := kind27_
  have k25 := kind25_
  have e27 := elem27_
  have i25 := implements25_
  have n8 := isNil27_ ⟨w.heap.size, 0, none⟩ t ((w.alloc (.cells #[.pointer (some t)] 76)).alloc (.cells #[.pointer (some ⟨12, 76, none⟩), .pointer (some ⟨w.heap.size, 0, none⟩), .int .u64 150] 108)) (by simp)
  have hlt : 0 < w.heap.size := by
    rcases Nat.eq_zero_or_pos w.heap.size with h0 | h
    · simp [World.cell?, h0] at hg
    · exact h
  have hg2 : ((w.alloc (.cells #[.pointer (some t)] 76)).alloc (.cells #[.pointer (some ⟨12, 76, none⟩), .pointer (some ⟨w.heap.size, 0, none⟩), .int .u64 150] 108)).cell? ⟨0, 0, none⟩ = some (.iface 138 (.agg #[.pointer (some ⟨12, 52, none⟩)])) := by
    rw [World.cell?_alloc_lt _ _ ⟨0, 0, none⟩ (by simp), World.cell?_alloc_lt _ _ ⟨0, 0, none⟩ hlt]; exact hg
  have htl : t.block < w.heap.size := by
    rcases Nat.lt_or_ge t.block w.heap.size with h | h
    · exact h
    · simp [World.cell?, Array.getElem?_eq_none h] at ht0
  have el := elemV27_ ⟨w.heap.size, 0, none⟩ t (((w.alloc (.cells #[.pointer (some t)] 76)).alloc (.cells #[.pointer (some ⟨12, 76, none⟩), .pointer (some ⟨w.heap.size, 0, none⟩), .int .u64 150] 108)).alloc (.cells #[.pointer (some ⟨12, 76, none⟩), .pointer (some ⟨w.heap.size, 0, none⟩), .int .u64 150] 108)) (by rw [World.cell?_alloc_lt _ _ ⟨w.heap.size, 0, none⟩ (by simp; omega)]; simp)
  have st := set25_ t ⟨w.heap.size + 1 + 1 + 1, 0, none⟩ e old ((((w.alloc (.cells #[.pointer (some t)] 76)).alloc (.cells #[.pointer (some ⟨12, 76, none⟩), .pointer (some ⟨w.heap.size, 0, none⟩), .int .u64 150] 108)).alloc (.cells #[.pointer (some ⟨12, 76, none⟩), .pointer (some ⟨w.heap.size, 0, none⟩), .int .u64 150] 108)).alloc (.cells #[.pointer (some e)] 72))
    (by rw [World.cell?_alloc_at _ _ _ _ (by simp)]; rfl)
    (by rw [World.cell?_alloc_lt _ _ t (by simp; omega), World.cell?_alloc_lt _ _ t (by simp; omega), World.cell?_alloc_lt _ _ t (by simp; omega), World.cell?_alloc_lt _ _ t htl]; exact ht0)
    (by rw [World.frozen?_alloc_old _ _ t (by simp; omega), World.frozen?_alloc_old _ _ t (by simp; omega), World.frozen?_alloc_old _ _ t (by simp; omega), World.frozen?_alloc_old _ _ t (Nat.ne_of_lt htl)]; exact hf0)
  go_enter Tryz.func39, Tryz.ntmps39
  go_wp2
  refine wp_loop_rounds 1 ?_
  rw [rounds_succ]
  go_wp2
  go_ret
  exact ⟨rfl, rfl⟩
end Go.Proofs.YtngofbhlhcalpaaGreatDoor.asE

namespace Go.Proofs.YtngofbhlhcalpaaGreatDoor.lexer
open Go.RowKit Go.Proofs.YtngofbhlhcalpaaGreatDoor.gen Go.Proofs.YtngofbhlhcalpaaGreatDoor.asE

/-- The variable that holds the type of errors. -/
def EType (w : World) : Prop := w.cell? ⟨0, 0, none⟩ = some (.iface 138 (.agg #[.pointer (some ⟨12, 52, none⟩)]))

theorem EType.below {w w' : World} (h : EType w) (hb : Below w.heap.size w w') : EType w' := by
  have hlt : 0 < w.heap.size := by
    rcases Nat.lt_or_ge 0 w.heap.size with h' | h'
    · exact h'
    · unfold EType at h; rw [World.cell?, Array.getElem?_eq_none h'] at h; cases h
  exact (hb.cell (p := ⟨0, 0, none⟩) hlt).trans h

theorem EType.frm {w w' : World} {S : List Nat} (h : EType w) (hf : Frm w w' S) (h0 : 0 ∉ S) : EType w' := by
  have hlt : 0 < w.heap.size := by
    rcases Nat.lt_or_ge 0 w.heap.size with h' | h'
    · exact h'
    · unfold EType at h; rw [World.cell?, Array.getElem?_eq_none h'] at h; cases h
  unfold EType at h ⊢
  rw [World.cell?_of_block (hf.block 0 hlt h0)]
  exact h

def AsRes (eb b : Nat) (w : World) (e : Ending) (w' : World) : Prop := e = .returned (.bool true) ∧ w'.cell? ⟨b, 0, none⟩ = some (.pointer (some ⟨eb, 0, none⟩)) ∧ Frm w w' [b]

theorem as_err (eb b : Nat) (old : Value) (w : World) (hE : EType w) (hb : w.heap[b]? = some (.cells #[old] 72 (0, 0))) :
    Calls Tryz.prog 39 #[.iface 72 (.pointer (some ⟨eb, 0, none⟩)), .iface 76 (.pointer (some ⟨b, 0, none⟩))] w (AsRes eb b w) := by
  refine (as_hit ⟨eb, 0, none⟩ ⟨b, 0, none⟩ old w hE (block_cell hb 0) (block_free hb 0)).mono ?_
  rintro e w' ⟨rfl, rfl⟩
  refine ⟨rfl, ?_, ?_⟩
  · have hlt := block_lt hb
    have h1 : ∀ o, (w.alloc o).heap[b]? = w.heap[b]? := fun o => Below.heap_alloc w o b hlt
    have hz : ∀ (W : World) (o : Obj), b < W.heap.size → W.heap[b]? = w.heap[b]? → (W.alloc o).heap[b]? = w.heap[b]? ∧ b < (W.alloc o).heap.size := fun W o h2 h3 =>
      ⟨(Below.heap_alloc W o b h2).trans h3, by show b < (W.heap.push o).size; rw [Array.size_push]; omega⟩
    obtain ⟨a1, a2⟩ := hz w (.cells #[.pointer (some ⟨b, 0, none⟩)] 76) hlt rfl
    obtain ⟨b1, b2⟩ := hz _ (.cells #[.pointer (some ⟨12, 76, none⟩), .pointer (some ⟨w.heap.size, 0, none⟩), .int .u64 150] 108) a2 a1
    obtain ⟨c1, c2⟩ := hz _ (.cells #[.pointer (some ⟨12, 76, none⟩), .pointer (some ⟨w.heap.size, 0, none⟩), .int .u64 150] 108) b2 b1
    obtain ⟨d1, d2⟩ := hz _ (.cells #[.pointer (some ⟨eb, 0, none⟩)] 72) c2 c1
    rw [hb] at d1
    exact block_cell (block_set d1 _) 0
  · refine Frm.setCell ?_ _ _ (.inl (by simp))
    exact ((((Frm.refl w [b]).alloc _).alloc _).alloc _).alloc _

def PlaceRes (p : Nat) (w : World) (e : Ending) (w' : World) : Prop := e = .returned (.int .i64 (p : Int)) ∧ Below w.heap.size w w'

set_option maxRecDepth 100000 in
theorem place_any (eb p : Nat) (w : World) (hE : EType w) (he : ErrAt eb p w) :
    Calls Tryz.prog 28 #[.iface 72 (.pointer (some ⟨eb, 0, none⟩))] w (PlaceRes p w) := by
  obtain ⟨pb, c1, c2⟩ := he
  have HE := Lib.hid hE
  have HC1 := Lib.hid c1
  have HC2 := Lib.hid c2
  have hpb := World.block_lt_of_cell? _ _ c2
  have heb := World.block_lt_of_cell? _ _ c1
  clear hE c1 c2
  go_enter Tryz.func28, Tryz.ntmps28
  go_wp2_with fail
  refine (as_err eb w.heap.size (.pointer none) _ (HE.out.below ((Below.refl _ w).alloc (Nat.le_refl _) _)) (heap_alloc_new w _)).mono ?_
  rintro e w2 ⟨rfl, c3, hF⟩
  have hF0 : Frm w w2 [] := ((Frm.refl w []).alloc _).trans hF (fun x hx => by right; simp at hx; omega)
  have c1 : w2.cell? ⟨eb, 1, none⟩ = some (.pointer (some ⟨pb, 0, none⟩)) := (World.cell?_of_block (hF0.block eb heb (by simp))).trans HC1.out
  have c2 : w2.cell? ⟨pb, 1, none⟩ = some (.int .i64 (p : Int)) := (World.cell?_of_block (hF0.block pb hpb (by simp))).trans HC2.out
  have HB := Lib.hid hF0.below
  clear hF hF0
  go_wp2_with fail
  go_ret
  exact ⟨rfl, HB.out⟩

end Go.Proofs.YtngofbhlhcalpaaGreatDoor.lexer

namespace Go.Proofs.YtngofbhlhcalpaaGreatDoor.lexer
open Go.RowKit Go.Proofs.YtngofbhlhcalpaaGreatDoor.gen
open Go.Proofs.YtngofbhlhcalpaaGreatDoor.upper (up isKw upb upb_lo upb_no)

def numN (l : List UInt8) : Nat := if isHexNum l then 2 + (numU (l.drop 2) true true false).1 else (numU l false true false).1
def numI (l : List UInt8) : Bool := if isHexNum l then true else (numU l false true false).2
def numB (l : List UInt8) : Int := if numI l then (if isHexNum l then 16 else 10) else 0
def numK (l : List UInt8) : ByteArray := if numI l then kInt else kFloat
theorem num_eq (l : List UInt8) : num l = if idpHead (l.drop (numN l)) then .bad (numN l) else .ok ⟨numK l, kNone, numB l, numN l, none⟩ := rfl
theorem num_ok {l : List UInt8} {t : Tk} (h : num l = .ok t) : idpHead (l.drop (numN l)) = false ∧ t = ⟨numK l, kNone, numB l, numN l, none⟩ := by
  rw [num_eq] at h
  cases hi : idpHead (l.drop (numN l)) with
  | true => rw [hi] at h; cases h
  | false => rw [hi] at h; injection h with h; exact ⟨rfl, h.symm⟩

theorem kind_ne {k : ByteArray} {c : UInt8} {l : List UInt8} (h : k.data.toList = c :: l) (hc : c ≠ 60) : k ≠ kEof := by
  intro e
  subst e
  injection h with h1 _
  exact hc h1.symm
theorem nn60 {c : UInt8} (h : nn c ≠ 60) : c ≠ 60 := fun e => h (by rw [e]; rfl)
theorem kIdent_ne : kIdent ≠ kEof := by decide
theorem kParam_ne : kParam ≠ kEof := by decide
theorem kInt_ne : kInt ≠ kEof := by decide
theorem kFloat_ne : kFloat ≠ kEof := by decide
theorem kString_ne : kString ≠ kEof := by decide
theorem kBytes_ne : kBytes ≠ kEof := by decide

def Good (t : Tk) : Prop := 0 < t.n ∧ t.kind ≠ kEof

theorem num_good (c : UInt8) (r : List UInt8) (t : Tk) (hd : dg (nn c) = true ∨ nn c = 46) (h : num (c :: r) = .ok t) : Good t := by
  obtain ⟨_, rfl⟩ := num_ok h
  refine ⟨?_, ?_⟩
  · show 0 < numN (c :: r)
    unfold numN
    split
    · omega
    · rcases hd with hd | hd
      · rw [numU_dig c r _ _ hd]; simp
      · rw [numU_dot c r hd]; simp
  · show numK (c :: r) ≠ kEof
    unfold numK
    split
    · exact kInt_ne
    · exact kFloat_ne

theorem qtok_fine (q : List UInt8) (raw uni ident : Bool) (kind : ByteArray) (l : List UInt8) (t : Tk) (hq : 0 < q.length) (hk : kind ≠ kEof) (h : qtok q raw uni ident kind l = .ok t) : Good t := by
  unfold qtok at h
  split at h
  · split at h
    · cases h
    · injection h with h
      subst h
      exact ⟨by simp only; omega, hk⟩
  · cases h
  · cases h
  · cases h

theorem Out.shift_ok {o : Out} {k : Nat} {t : Tk} (h : o.shift k = .ok t) : ∃ u, o = .ok u ∧ t = { u with n := u.n + k } := by
  cases o with
  | ok u => injection h with h; exact ⟨u, rfl, h.symm⟩
  | bad o => cases h

theorem delim_pos {c : UInt8} {l : List UInt8} : 0 < (delim (c :: l)).length := by
  unfold delim
  split
  · split <;> simp
  · simp
  · rename_i h; cases h

theorem pre_drop : ∀ (f : Nat) (b r : Bool) (l : List UInt8) (i : Nat) (x : Bool × Bool), pre f b r l = some (i, x) → ∃ c t, l.drop i = c :: t := by
  intro f
  induction f with
  | zero => intro b r l i x h; cases h
  | succ f ih =>
    intro b r l i x h
    cases l with
    | nil => cases h
    | cons c t =>
      unfold pre at h
      split at h
      · cases hp : pre f true r t with
        | none => rw [hp] at h; cases h
        | some y =>
          rw [hp] at h
          simp only [Option.map_some, Option.some.injEq, Prod.mk.injEq] at h
          obtain ⟨h1, h2⟩ := h
          subst h1
          obtain ⟨d, u, hu⟩ := ih true r t y.1 y.2 hp
          exact ⟨d, u, by rw [List.drop_succ_cons]; exact hu⟩
      · split at h
        · cases hp : pre f b true t with
          | none => rw [hp] at h; cases h
          | some y =>
            rw [hp] at h
            simp only [Option.map_some, Option.some.injEq, Prod.mk.injEq] at h
            obtain ⟨h1, h2⟩ := h
            subst h1
            obtain ⟨d, u, hu⟩ := ih b true t y.1 y.2 hp
            exact ⟨d, u, by rw [List.drop_succ_cons]; exact hu⟩
        · split at h
          · simp only [Option.some.injEq, Prod.mk.injEq] at h
            obtain ⟨h1, h2⟩ := h
            subst h1
            exact ⟨c, t, rfl⟩
          · cases h

theorem upb_ne {c : UInt8} (h : ids (nn c) = true) : upb c ≠ 60 := by
  intro e
  by_cases hlo : 97 ≤ c.toNat ∧ c.toNat ≤ 122
  · have := upb_lo c hlo
    rw [e] at this
    have h2 : ((60 : UInt8).toNat : Int) = 60 := rfl
    omega
  · rw [upb_no c hlo] at e
    subst e
    revert h
    decide

theorem word_good (c : UInt8) (r : List UInt8) (t : Tk) (hc : ids (nn c) = true) (h : word (c :: r) = .ok t) : Good t := by
  have hp : idp (nn c) = true := by unfold idp; rw [hc]; simp
  have hl : idLen (c :: r) = idLen r + 1 := by simp [idLen, hp]
  unfold word at h
  simp only at h
  split at h
  · injection h with h
    subst h
    refine ⟨by simp only [plain]; omega, ?_⟩
    refine kind_ne (c := upb c) (l := up (r.take (idLen r))) ?_ (upb_ne hc)
    rw [hl]
    simp [plain, up]
  · injection h with h
    subst h
    exact ⟨by simp only; omega, kIdent_ne⟩

theorem tok_good (last : ByteArray) (c : UInt8) (r : List UInt8) (t : Tk) (h : tok last (c :: r) = .ok t) : Good t := by
  rw [tok] at h
  split at h
  · rename_i hs
    injection h with h
    subst h
    refine ⟨by simp [plain], kind_ne (c := c) (l := []) rfl (nn60 fun e => ?_)⟩
    rw [e] at hs
    revert hs; decide
  · split at h
    · rename_i h46
      have h46 : nn c = 46 := by simpa using h46
      split at h
      · exact num_good c r t (.inr h46) h
      · injection h with h
        subst h
        exact ⟨by simp only; omega, kind_ne (c := 46) (l := []) rfl (by decide)⟩
    · split at h
      · split at h
        · rename_i d _
          injection h with h
          subst h
          refine ⟨by simp [plain], ?_⟩
          intro e
          have h2 : (plain ⟨#[c, d]⟩ 2).kind.size = kEof.size := by rw [e]
          revert h2
          show ¬ (2 = 5)
          decide
        · split at h
          · injection h with h
            subst h
            exact ⟨by simp only; omega, kParam_ne⟩
          · injection h with h
            subst h
            refine ⟨by simp [plain], ?_⟩
            intro e
            have h2 : (plain ⟨#[c]⟩ 1).kind.size = kEof.size := by rw [e]
            revert h2
            show ¬ (1 = 5)
            decide
      · split at h
        · exact qtok_fine _ _ _ _ _ _ _ (by simp) kIdent_ne h
        · split at h
          · rename_i hd
            exact num_good c r t (.inl hd) h
          · split at h
            · rename_i i b w hp
              obtain ⟨u, hu, rfl⟩ := Out.shift_ok h
              obtain ⟨d, v, hv⟩ := pre_drop _ _ _ _ _ _ hp
              have hg := qtok_fine _ _ _ _ _ _ _ (by rw [hv]; exact delim_pos) (by split; exact kBytes_ne; exact kString_ne) hu
              exact ⟨by have := hg.1; simp only; omega, hg.2⟩
            · split at h
              · rename_i hi
                exact word_good c r t hi h
              · cases h

theorem ftok_good (last : ByteArray) (c : UInt8) (r : List UInt8) (t : Tk) (h : ftok last (c :: r) = .ok t) : Good t := by
  unfold ftok at h
  split at h
  · rename_i hp
    have hp : idp (nn c) = true := hp
    injection h with h
    subst h
    exact ⟨by simp [idLen, hp], kIdent_ne⟩
  · exact tok_good last c r t h

theorem tok_nil (last : ByteArray) : tok last [] = .ok (plain kEof 0) := rfl
theorem ftok_nil (last : ByteArray) : ftok last [] = .ok (plain kEof 0) := rfl

end Go.Proofs.YtngofbhlhcalpaaGreatDoor.lexer
