/-
  An argument of bytes, opened. No statement of the seat is proved here.
-/
import Derived.Test.YtngofbhlhcalpaaDoorQSqm
import Derived.OpenShut
import Derived.Carry
namespace Go.Proofs.YtngofbhlhcalpaaDoor.quo
open Go.RowKit Go.Proofs.YtngofbhlhcalpaaDoor.gen Go.ChangeShapes Go.WideShapes

theorem laidOut : laidOutB Tryd.prog = true := by kernel_rfl

theorem u8_nn {z : Int} (h : (Lit.int .u8 z).wf = true) : nn (UInt8.ofNat z.toNat) = z := by
  have hb := bounds_u8 h
  unfold nn
  rw [UInt8.toNat_ofNat', Nat.mod_eq_of_lt (by omega)]
  omega

theorem bytes_in {H : Type} {enc : TypeId × Value → H} {W : World} {v : Value} {d : DataW H} {p : List MemPlace} (h : DataW.Trod enc Tryd.prog W 0 (fun _ => true) true 22 v d p) (hs : ∃ a len cap, v = .slice a len cap) :
    ∃ l, BytesAt W v l ∧ l.length ≤ 9223372036854775807 := by
  obtain ⟨a0, len0, cap0, rfl⟩ := hs
  obtain ⟨fuel, hf⟩ := h
  rcases open_ints Tryd.underlying22 Tryd.underlying5 (by kernel_rfl) hf with ⟨hcs, _⟩ | ⟨x, len, cap, zs, hcs, _, hl, hm, hz, _, hcell, hwz⟩
  · simp [Value.cells] at hcs
    obtain ⟨rfl, rfl, rfl⟩ := hcs
    exact ⟨[], .inl ⟨rfl, none, 0, rfl⟩, by simp⟩
  · simp [Value.cells] at hcs
    obtain ⟨rfl, rfl, rfl⟩ := hcs
    have hz : zs.length = cap0 := by simpa using hz
    unfold maxLen at hm
    have hln : ((zs.take len0).map fun z => UInt8.ofNat z.toNat).length = len0 := by rw [List.length_map, List.length_take]; omega
    refine ⟨(zs.take len0).map fun z => UInt8.ofNat z.toNat, ?_, by rw [hln]; omega⟩
    by_cases h0 : len0 = 0
    · subst h0
      exact .inl ⟨by simp, some x, cap0, rfl⟩
    · obtain ⟨b, off, rfl, hc⟩ := ints_at hcell (by omega)
      refine .inr ⟨b, off, cap0, by rw [hln], World.block_lt_of_cell? W _ (hc 0 (by omega)), fun j hj => ?_⟩
      have hj2 : j < len0 := by rw [hln] at hj; exact hj
      have hjz : j < zs.length := by omega
      rw [hc j hjz]
      have e : zs.getD j 0 = zs[j] := by simp [List.getD, hjz]
      rw [e]
      have e2 : ((zs.take len0).map fun z => UInt8.ofNat z.toNat)[j]'hj = UInt8.ofNat (zs[j]).toNat := by simp
      rw [e2, u8_nn (hwz _ (List.getElem_mem hjz))]

end Go.Proofs.YtngofbhlhcalpaaDoor.quo
