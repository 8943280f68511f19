/-
  PROVED: 'laws.FnLinesBack' returns true for every text and every integer, and leaves its arguments as they were. Conditions: none.
-/
import Derived.Test.YthndckejdalabaaRows
import Derived.WalkKit
import Derived.ProofKit
import Derived.OpenShut
import Derived.ShutString
import Derived.ChangeOld
import Derived.Below
import Derived.Test.YthndckejdalabaaLinesR
namespace Go.Proofs.Ythndckejdalabaa.fnLinesBack
open Go.ChangeShapes Go.WideShapes Go.ChangeAt Go.RowKit
open Go.ChangeMaps (open_string shut_string)
set_option linter.unusedVariables false      -- a walk need not use every 'w<i>' (that an integer argument fits its kind)

theorem own : ownKnob Try.prog.godebug = none := by kernel_rfl

open Go.Proofs.Ythndckejdalabaa.lines Go.Proofs.Ythndckejdalabaa.gen

theorem resolve_x (w : World) :
    Calls Try.prog 15 #[.string ⟨#[120]⟩, .int .i64 1] w fun e w' => e = .returned (.tuple #[.int .i64 0, .int .i64 1]) ∧ Below w.heap.size w w' := by
  refine (implResolve_any ⟨#[120]⟩ 1 w (by decide) (by decide)).mono ?_
  rintro e w' ⟨line, st, rfl, hst, hle, hbel⟩
  refine ⟨?_, hbel⟩
  have h2 : (LL 0 (⟨#[120]⟩ : ByteArray).data.toList) = [0, 2] := by decide
  rw [h2] at hst
  match line, hst with
  | 0, h => simp at h; subst h; rfl
  | 1, h => simp at h; omega

theorem walk_long (s : ByteArray) (p : Int) (w : World) (h : 16384 < s.size) (hm : s.size ≤ 9223372036854775807) :
    Calls Try.prog 6 #[.string s, .int .i64 p] w fun e w' => e = .returned (.bool true) ∧ w = w' := by
  by_cases h1 : 2147483647 < s.size
  · go_enter Try.func6, Try.ntmps6
    go_wp2
    go_ret
    exact ⟨rfl, rfl⟩
  · go_enter Try.func6, Try.ntmps6
    go_wp2
    go_ret
    exact ⟨rfl, rfl⟩

theorem walk_neg (s : ByteArray) (p : Int) (w : World) (h : s.size ≤ 16384) (h2 : p < 0) :
    Calls Try.prog 6 #[.string s, .int .i64 p] w fun e w' => e = .returned (.bool true) ∧ w = w' := by
  go_enter Try.func6, Try.ntmps6
  go_wp2
  go_ret
  exact ⟨rfl, rfl⟩

theorem walk_far (s : ByteArray) (p : Int) (w : World) (h : s.size ≤ 16384) (h2 : 0 ≤ p) (h3 : (s.size : Int) < p) :
    Calls Try.prog 6 #[.string s, .int .i64 p] w fun e w' => e = .returned (.bool true) ∧ w = w' := by
  go_enter Try.func6, Try.ntmps6
  go_wp2
  go_ret
  exact ⟨rfl, rfl⟩

theorem walk_main (s : ByteArray) (p : Nat) (w : World) (h : s.size ≤ 16384) (hp : p ≤ s.size) :
    Calls Try.prog 6 #[.string s, .int .i64 p] w fun e w' => e = .returned (.bool true) ∧ Below w.heap.size w w' := by
  go_enter Try.func6, Try.ntmps6
  go_wp2_with fail
  refine (implResolve_any s p _ (by omega) hp).mono ?_
  rintro e w1 ⟨line, st, rfl, hst, hle, hbel⟩
  have HST := Lib.hid hst
  have hlb : line ≤ s.size + 1 := by
    have h1 := (List.getElem?_eq_some_iff.1 hst).1
    rw [ll_len] at h1
    have h2 := parts_le s.data.toList
    rw [len_toList] at h2
    omega
  clear hst
  go_wp2_with fail
  go_loop [5, 7] (fun a b => ∃ k m : Nat, k ≤ s.size ∧ m ≤ line ∧ b = .int .i64 k ∧ a = .int .i64 m ∧ Hid ((LL k (s.data.toList.drop k))[m]? = some st)) (fun _ b => s.size - (intOf b).toNat)
  case atStart => exact ⟨0, line, by omega, Nat.le_refl _, rfl, rfl, by simpa using HST⟩
  case round =>
    obtain ⟨k, m, hk, hm, rfl, rfl, HM⟩ := hrel
    cases m with
    | zero =>
      have hks : k = st := by simpa [Hid, LL] using HM
      have HK := Lib.hid hks
      have he : (((k : Int) + ((p : Int) - (st : Int))) == (p : Int)) = true := by rw [beq_iff_eq]; omega
      clear hks
      go_wp2_with fail
      refine (resolve_x _).mono ?_
      rintro e w2 ⟨rfl, hbel2⟩
      go_wp2_with fail
      go_ret
      exact ⟨rfl, hbel.trans (hbel2.mono hbel.size)⟩
    | succ m =>
      have hlt : k < s.size := by
        refine Nat.lt_of_not_le fun hge => ?_
        have h1 := HM.out
        rw [List.drop_eq_nil_of_le (by rw [len_toList]; exact hge)] at h1
        cases m with
        | zero => simp [LL, lns] at h1; omega
        | succ m => simp [LL, lns] at h1
      have hd : s.data.toList.drop k = s[k] :: s.data.toList.drop (k + 1) := by
        have h2 : k < s.data.toList.length := by rw [len_toList]; exact hlt
        rw [List.drop_eq_getElem_cons h2]; rfl
      have hnext := HM.out
      rw [hd] at hnext
      have hnext2 := ll_back k s[k] _ m st hnext
      clear hd hnext
      by_cases hc : s[k] = 10
      · rw [if_pos hc] at hnext2
        have HN := Lib.hid hnext2
        have hb : ((s[k].toNat : Int) == 10) = true := by rw [hc]; rfl
        clear hc hnext2
        go_wp2_with fail
        go_round
        case rel => exact ⟨k + 1, m, by omega, by omega, by go_num, by go_num, HN⟩
        case measure => simp [intOf]; omega
      · rw [if_neg hc] at hnext2
        have HN := Lib.hid hnext2
        have hb : ((s[k].toNat : Int) == 10) = false := by
          rw [beq_eq_false_iff_ne]
          intro e
          exact hc (UInt8.toNat.inj (by show s[k].toNat = 10; omega))
        clear hc hnext2
        go_wp2_with fail
        go_round
        case rel => exact ⟨k + 1, m + 1, by omega, by omega, by go_num, by go_num, HN⟩
        case measure => simp [intOf]; omega

theorem walk (a0 : ByteArray) (a1 : Int) (w0 : a0.size ≤ maxLen) (w1 : (Lit.int .i64 a1).wf = true) (w : World) :
    Calls Try.prog 6 #[.string a0, .int .i64 a1] w fun e w' => e = .returned (.bool true) ∧ Below w.heap.size w w' := by
  unfold maxLen at w0
  have hb := bounds_i64 w1
  by_cases h : 16384 < a0.size
  · exact (walk_long a0 a1 w h w0).mono fun e w' ⟨he, hw⟩ => ⟨he, hw ▸ Below.refl _ _⟩
  · by_cases h2 : a1 < 0
    · exact (walk_neg a0 a1 w (by omega) h2).mono fun e w' ⟨he, hw⟩ => ⟨he, hw ▸ Below.refl _ _⟩
    · by_cases h3 : (a0.size : Int) < a1
      · exact (walk_far a0 a1 w (by omega) (by omega) h3).mono fun e w' ⟨he, hw⟩ => ⟨he, hw ▸ Below.refl _ _⟩
      · obtain ⟨p, rfl⟩ := Int.eq_ofNat_of_zero_le (show 0 ≤ a1 by omega)
        exact walk_main a0 p w (by omega) (by omega)

set_option maxRecDepth 100000 in
theorem lifted (os : Os) (started : os.Started) (H : Type) (enc : TypeId × Value → H) :
    ReturnsInHanded {} Try.checked os 6 .any (Rows.fnLinesBackSpec.pre6 enc Try.prog Try.f6 Rows.fnLinesBackRow.domain false) (Rows.fnLinesBackSpec.post enc Try.prog Try.f6 false true false false) := by
  refine returnsInHanded_of_change (C := Try.checked) own started (by kernel_rfl) Try.func6
    (ChangeSpec.witness6 (enc := enc) (C := Try.checked) false ⟨#[], #[.string ByteArray.empty, .int .i64 0], []⟩ 8 (by kernel_rfl) (by kernel_rfl) (by kernel_rfl) (by kernel_rfl)) ?_
  intro W base args ds gs before hval0 hW hcnd _
  have hval : ∀ (j : Nat) t v, Try.f6.params[j]? = some t → args[j]? = some v → Value.okWide Try.prog W .any base t v := hval0
  have hW' := hW
  obtain ⟨p, q, hA0, hV, rfl, hfz, hnd⟩ := hW
  have hA : DataW.TrodAll enc Try.prog W 0 (fun _ => true) true Try.f6.params.toList args.toList ds p := hA0
  rw [Try.params6] at hA hval
  obtain ⟨v0, vs0, d0, ds0, p0, q0, hargs, rfl, rfl, h0, r0⟩ := trodAll_cons hA
  obtain ⟨v1, vs1, d1, ds1, p1, q1, rfl, rfl, rfl, h1, r1⟩ := trodAll_cons r0
  obtain ⟨rfl, rfl, rfl⟩ := trodAll_nil r1
  obtain rfl : args = #[v0, v1] := by cases args; simp_all
  obtain ⟨rfl, rfl⟩ := trodVars_none hV
  obtain ⟨a0, rfl, rfl, rfl, w0⟩ := open_string Try.underlying9 (hval 0 9 v0 rfl rfl) h0
  obtain ⟨a1, rfl, rfl, rfl, w1⟩ := open_int Try.underlying3 (hval 1 3 v1 rfl rfl) h1
  clear hA0 hval0
  refine (walk a0 a1 w0 w1 W).mono fun e W' ⟨he, hg⟩ => ?_
  subst he
  exact ⟨_, rfl, _, _, _, [], _, [], hW', (trodAll_cons_mk (shut_bool Try.underlying4 _) trodAll_mk0), (trodAll_cons_mk (shut_string Try.underlying9 w0) (trodAll_cons_mk (shut_int Try.underlying3 w1) trodAll_mk0)), rfl, hg.frame _, fun h => by cases h⟩

theorem over : Rows.fnLinesBackRow.holds Try.pinned (OpenSpec.ofChange Rows.fnLinesBackSpec) :=
  OpenClaim.holds_of_wide 6 Try.f6 rfl rfl rfl rfl rfl rfl rfl ⟨rfl, rfl, rfl, rfl, rfl⟩ rfl rfl rfl rfl rfl (by kernel_rfl) Try.func6 (by kernel_rfl)
    (of_decide_eq_true (by kernel_rfl)) (by unfold Func.isWrapper; first | (rw [if_pos (by decide +kernel)]; kernel_rfl) | (rw [if_neg (by decide +kernel)]; exact ⟨rfl, rfl⟩))
    (fun os started H enc _ => lifted os started H enc)

theorem proved : Rows.FnLinesBackSaid :=
  over
#print axioms proved
end Go.Proofs.Ythndckejdalabaa.fnLinesBack
