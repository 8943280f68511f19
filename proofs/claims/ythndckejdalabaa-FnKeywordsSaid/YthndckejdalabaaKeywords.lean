/-
  PROVED: 'laws.FnKeywords' returns true for every text and every integer, and leaves its arguments as they were. Conditions: none.
-/
import Derived.Test.YthndckejdalabaaRows
import Derived.WalkKit
import Derived.ProofKit
import Derived.OpenShut
import Derived.ShutString
import Derived.ChangeOld
import Derived.Below
import Derived.Test.YthndckejdalabaaKeyC
namespace Go.Proofs.Ythndckejdalabaa.fnKeywords
open Go.ChangeShapes Go.WideShapes Go.ChangeAt Go.RowKit
open Go.ChangeMaps (open_string shut_string)
set_option linter.unusedVariables false      -- a walk need not use every 'w<i>' (that an integer argument fits its kind)

theorem own : ownKnob Try.prog.godebug = none := by kernel_rfl

open Go.Proofs.Ythndckejdalabaa.upper Go.Proofs.Ythndckejdalabaa.gen

theorem below_of {w a b : World} (h : Below w.heap.size w a) (h2 : Below a.heap.size a b) : Below w.heap.size w b := h.trans (h2.mono h.size)

theorem select_any (w : World) :
    Calls Try.prog 11 #[.string ⟨#[83, 69, 76, 69, 67, 84]⟩] w fun e w' => e = .returned (.bool true) ∧ Below w.heap.size w w' :=
  (implIsKeyword_any ⟨#[83, 69, 76, 69, 67, 84]⟩ w (by decide)).mono fun e w' ⟨he, hb⟩ => ⟨by rw [he]; exact ret_bool (by decide), hb⟩

theorem size_up (l : List UInt8) : (⟨(up l).toArray⟩ : ByteArray).size = l.length := by
  show (up l).toArray.size = _
  rw [List.size_toArray, up_len]

theorem size_mk (l : List UInt8) : (⟨l.toArray⟩ : ByteArray).size = l.length := by
  show l.toArray.size = _
  rw [List.size_toArray]

theorem walk_long (s : ByteArray) (n : Int) (w : World) (h : 16384 < s.size) (hm : s.size ≤ 9223372036854775807) :
    Calls Try.prog 5 #[.string s, .int .u64 n] w fun e w' => e = .returned (.bool true) ∧ w = w' := by
  by_cases h1 : 2147483647 < s.size
  · go_enter Try.func5, Try.ntmps5
    go_wp2
    go_ret
    exact ⟨rfl, rfl⟩
  · go_enter Try.func5, Try.ntmps5
    go_wp2
    go_ret
    exact ⟨rfl, rfl⟩

set_option maxHeartbeats 400000 in
theorem walk_main (s : ByteArray) (n : Int) (w : World) (h : s.size ≤ 16384) :
    Calls Try.prog 5 #[.string s, .int .u64 n] w fun e w' => e = .returned (.bool true) ∧ Below w.heap.size w w' := by
  have hln0 : s.data.toList.length = s.size := by rw [Array.length_toList]; rfl
  have hln := Lib.hid hln0
  clear hln0
  go_enter Try.func5, Try.ntmps5
  go_wp2_with fail
  refine (ascii_any _ _ (by omega)).mono ?_
  rintro e w' ⟨b, rfl, rfl⟩
  cases b with
  | true =>
    go_wp2_with fail
    refine (implIsKeyword_any _ _ (by omega)).mono ?_
    rintro e w1 ⟨rfl, hb1⟩
    go_wp2_with fail
    refine (lawsUpper_any _ _ (by omega)).mono ?_
    rintro e w2 ⟨rfl, hb2⟩
    go_wp2_with fail
    refine (specKeyword_any _ _ (by rw [size_up, hln.out]; omega)).mono ?_
    rintro e w3 ⟨rfl, rfl⟩
    go_wp2_with fail
    refine (turned_any _ _ _ (by omega)).mono ?_
    rintro e w4 ⟨t, rfl, hup, hlt, hb4⟩
    have Hup := Lib.hid hup
    have Hlt := Lib.hid hlt
    clear hup hlt
    go_wp2_with fail
    refine (implIsKeyword_any _ _ (by rw [size_mk, Hlt.out, hln.out]; omega)).mono ?_
    rintro e w5 ⟨rfl, hb5⟩
    simp only [Hup.out]
    go_wp2_with fail
    refine (implIsKeyword_any _ _ (by omega)).mono ?_
    rintro e w6 ⟨rfl, hb6⟩
    go_wp2_with fail
    refine (select_any _).mono ?_
    rintro e w7 ⟨rfl, hb7⟩
    go_wp2_with fail
    go_ret
    exact ⟨rfl, below_of (below_of (below_of (below_of (below_of hb1 hb2) hb4) hb5) hb6) hb7⟩
  | false =>
    go_wp2_with fail
    refine (turned_any _ _ _ (by omega)).mono ?_
    rintro e w4 ⟨t, rfl, hup, hlt, hb4⟩
    have Hup := Lib.hid hup
    have Hlt := Lib.hid hlt
    clear hup hlt
    go_wp2_with fail
    refine (implIsKeyword_any _ _ (by rw [size_mk, Hlt.out, hln.out]; omega)).mono ?_
    rintro e w5 ⟨rfl, hb5⟩
    simp only [Hup.out]
    go_wp2_with fail
    refine (implIsKeyword_any _ _ (by omega)).mono ?_
    rintro e w6 ⟨rfl, hb6⟩
    go_wp2_with fail
    refine (select_any _).mono ?_
    rintro e w7 ⟨rfl, hb7⟩
    go_wp2_with fail
    go_ret
    exact ⟨rfl, below_of (below_of (below_of hb4 hb5) hb6) hb7⟩

theorem walk (a0 : ByteArray) (a1 : Int) (w0 : a0.size ≤ maxLen) (w1 : (Lit.int .u64 a1).wf = true) (w : World) :
    Calls Try.prog 5 #[.string a0, .int .u64 a1] w fun e w' => e = .returned (.bool true) ∧ Below w.heap.size w w' := by
  unfold maxLen at w0
  by_cases h : 16384 < a0.size
  · exact (walk_long a0 a1 w h w0).mono fun e w' ⟨he, hw⟩ => ⟨he, hw ▸ Below.refl _ _⟩
  · exact walk_main a0 a1 w (by omega)

set_option maxRecDepth 100000 in
theorem lifted (os : Os) (started : os.Started) (H : Type) (enc : TypeId × Value → H) :
    ReturnsInHanded {} Try.checked os 5 .any (Rows.fnKeywordsSpec.pre6 enc Try.prog Try.f5 Rows.fnKeywordsRow.domain false) (Rows.fnKeywordsSpec.post enc Try.prog Try.f5 false true false false) := by
  refine returnsInHanded_of_change (C := Try.checked) own started (by kernel_rfl) Try.func5
    (ChangeSpec.witness6 (enc := enc) (C := Try.checked) false ⟨#[], #[.string ByteArray.empty, .int .u64 0], []⟩ 8 (by kernel_rfl) (by kernel_rfl) (by kernel_rfl) (by kernel_rfl)) ?_
  intro W base args ds gs before hval0 hW hcnd _
  have hval : ∀ (j : Nat) t v, Try.f5.params[j]? = some t → args[j]? = some v → Value.okWide Try.prog W .any base t v := hval0
  have hW' := hW
  obtain ⟨p, q, hA0, hV, rfl, hfz, hnd⟩ := hW
  have hA : DataW.TrodAll enc Try.prog W 0 (fun _ => true) true Try.f5.params.toList args.toList ds p := hA0
  rw [Try.params5] at hA hval
  obtain ⟨v0, vs0, d0, ds0, p0, q0, hargs, rfl, rfl, h0, r0⟩ := trodAll_cons hA
  obtain ⟨v1, vs1, d1, ds1, p1, q1, rfl, rfl, rfl, h1, r1⟩ := trodAll_cons r0
  obtain ⟨rfl, rfl, rfl⟩ := trodAll_nil r1
  obtain rfl : args = #[v0, v1] := by cases args; simp_all
  obtain ⟨rfl, rfl⟩ := trodVars_none hV
  obtain ⟨a0, rfl, rfl, rfl, w0⟩ := open_string Try.underlying9 (hval 0 9 v0 rfl rfl) h0
  obtain ⟨a1, rfl, rfl, rfl, w1⟩ := open_int Try.underlying27 (hval 1 27 v1 rfl rfl) h1
  clear hA0 hval0
  refine (walk a0 a1 w0 w1 W).mono fun e W' ⟨he, hg⟩ => ?_
  subst he
  exact ⟨_, rfl, _, _, _, [], _, [], hW', (trodAll_cons_mk (shut_bool Try.underlying4 _) trodAll_mk0), (trodAll_cons_mk (shut_string Try.underlying9 w0) (trodAll_cons_mk (shut_int Try.underlying27 w1) trodAll_mk0)), rfl, hg.frame _, fun h => by cases h⟩

theorem over : Rows.fnKeywordsRow.holds Try.pinned (OpenSpec.ofChange Rows.fnKeywordsSpec) :=
  OpenClaim.holds_of_wide 5 Try.f5 rfl rfl rfl rfl rfl rfl rfl ⟨rfl, rfl, rfl, rfl, rfl⟩ rfl rfl rfl rfl rfl (by kernel_rfl) Try.func5 (by kernel_rfl)
    (of_decide_eq_true (by kernel_rfl)) (by unfold Func.isWrapper; first | (rw [if_pos (by decide +kernel)]; kernel_rfl) | (rw [if_neg (by decide +kernel)]; exact ⟨rfl, rfl⟩))
    (fun os started H enc _ => lifted os started H enc)

theorem proved : Rows.FnKeywordsSaid :=
  over
#print axioms proved
end Go.Proofs.Ythndckejdalabaa.fnKeywords
