/-
  Contract of impl.PrintPos. No statement of the seat is proved here.
-/
import Derived.Test.YtfhnjgoipajiaaaDoorPlW
namespace Go.Proofs.YtfhnjgoipajiaaaDoor.pl
open Go.RowKit Go.Proofs.YtfhnjgoipajiaaaDoor.gen

def Xb : List UInt8 := [120]

/-- What PrintPos gives. -/
def PrintRes (s : ByteArray) (w : World) (e : Ending) (w' : World) : Prop :=
  ((∃ x, parse cls (runesOf s) = some x ∧ e = .returned (.tuple #[.string (B (uPC x)), .string (B (gPC Xb x)), .bool true])) ∨
   (parse cls (runesOf s) = none ∧ e = .returned (.tuple #[.string ⟨#[]⟩, .string ⟨#[]⟩, .bool false]))) ∧ Below w.heap.size w w'

theorem PCAt.below {w w' : World} {pb : Nat} {e : PC} {v : Value} (h : PCAt w pb e v) (hb : Below w.heap.size w w') : PCAt w' pb e v := PCAt.frm (Frm.ofBelow hb [pb]) h

set_option maxRecDepth 100000 in
set_option maxHeartbeats 1000000 in
theorem printPos_any (s : ByteArray) (w : World) (hs : s.size ≤ 2147483647) (hz : ∀ x, parse cls (runesOf s) = some x → zPC x ≤ 1048576) (hc : Ctx w) : Calls Tryd.prog 6 #[.string s, .string (B Xb)] w (PrintRes s w) := by
  have HC := Lib.hid hc
  have HZ := Lib.hid hz
  clear hc hz
  go_enter Tryd.func6, Tryd.ntmps6
  go_wp2_with fail
  refine (parse_any s _ hs HC.out).mono ?_
  rintro e w1 (⟨x, v, ho, rfl, hR, hb⟩ | ⟨ho, b, rfl, hb⟩)
  case inr =>
    have HO := Lib.hid ho
    have HB := Lib.hid hb
    clear ho hb
    unfold errV
    go_wp2_with fail
    go_ret3
    exact ⟨.inr ⟨HO.out, rfl⟩, HB.out⟩
  case inl =>
    obtain ⟨t, b, rfl, _⟩ := PCAt.iface hR
    have hw := parse_good (runesOf_good s) ho
    have hbd := b_pc Xb rfl x hw
    have hzz := HZ.out x ho
    have hC1 := HC.out.below hb
    have hx1 : Xb.length = 1 := rfl
    have hu := pc_unp x _ w1 _ hR hC1 hw (by omega)
    have hg := pc_go Xb x _ w1 _ hR hC1 hw (by omega)
    obtain ⟨t1, q1, k1, hv1, hm1, hf1, hc1⟩ := hu
    obtain ⟨t2, q2, k2, hv2, hm2, hf2, hc2⟩ := hg
    injection hv1 with hv1 hq1
    injection hv2 with hv2 hq2
    injection hq1 with hq1
    injection hq1 with hq1
    injection hq2 with hq2
    injection hq2 with hq2
    subst hv1 hv2 hq1 hq2
    have HO := Lib.hid ho
    have HB := Lib.hid hb
    have HC1 := Lib.hid hc1
    have HC2 := Lib.hid hc2
    clear ho hb hR hw hbd hzz hC1 hc1 hc2 hx1
    go_wp2_with fail
    refine (HC1.out _ (Below.refl _ _)).mono ?_
    rintro e w2 ⟨rfl, hb2⟩
    go_wp2_with fail
    refine (HC2.out _ hb2).mono ?_
    rintro e w3 ⟨rfl, hb3⟩
    have HB3 := Lib.hid (HB.out.trans ((hb2.trans (hb3.mono hb2.size)).mono HB.out.size))
    clear hb2 hb3
    go_wp2_with fail
    go_ret3
    exact ⟨.inl ⟨x, HO.out, rfl⟩, HB3.out⟩

end Go.Proofs.YtfhnjgoipajiaaaDoor.pl
