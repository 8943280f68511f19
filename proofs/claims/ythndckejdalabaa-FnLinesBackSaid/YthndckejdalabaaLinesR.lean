/-
  Contract of impl.Resolve. No statement of the seat is proved here.
-/
import Derived.Test.YthndckejdalabaaLines
namespace Go.Proofs.Ythndckejdalabaa.lines
open Go.RowKit Go.Proofs.Ythndckejdalabaa.gen

def ResI (s : ByteArray) (p : Nat) (w : World) (e : Ending) (w' : World) : Prop :=
  ∃ line st : Nat, e = .returned (.tuple #[.int .i64 line, .int .i64 ((p : Int) - st)]) ∧ (LL 0 s.data.toList)[line]? = some st ∧ st ≤ p ∧ Below w.heap.size w w'

theorem implResolve_any (s : ByteArray) (p : Nat) (w : World) (hs : s.size ≤ 2147483647) (hp : p ≤ s.size) :
    Calls Try.prog 15 #[.string s, .int .i64 p] w (ResI s p w) := by
  go_enter Try.func15, Try.ntmps15
  go_wp2_with fail
  refine (resolve_any w.heap.size ByteArray.empty s (.slice none 0 0) p _ hs hp ?_ (.inl rfl)).mono ?_
  · exact heap_alloc_new w _
  rintro e w1 ⟨line, st, v, rfl, hst, hle, hnx, hlt, hf, hown, hfrm⟩
  have HST := Lib.hid hst
  have hbel : Below w.heap.size w w1 := ((Below.refl _ _).alloc (Nat.le_refl _) _).trans (hfrm.belowOf (by simp) (by simp))
  clear hst hnx hf hown hfrm
  go_wp2
  go_ret2
  exact ⟨line, st, rfl, HST.out, hle, hbel⟩

end Go.Proofs.Ythndckejdalabaa.lines
