/-
  Contract of laws.FnBytesMean. No statement of the seat is proved here.
-/
import Derived.Test.YtngofbhlhcalpaaDoorQSqm
import Derived.Test.YtngofbhlhcalpaaDoorSpE
namespace Go.Proofs.YtngofbhlhcalpaaDoor.quo
open Go.RowKit Go.Proofs.YtngofbhlhcalpaaDoor.gen

/-- 'string(b)' of bytes that came in. -/
theorem bytes_text {w : World} {v : Value} {l : List UInt8} (h : BytesAt w v l) : (convert 22 9 v).run Tryd.prog w = .ok (.string ⟨l.toArray⟩) w := by
  rcases h with ⟨rfl, ao, cap, rfl⟩ | ⟨b, off, cap, rfl, _, h3⟩
  · cases ao with
    | none => exact Lib.run_convert_nil_bytes w _ _ _ cap Tryd.underlying22 Tryd.underlying5 Tryd.underlying9
    | some a => exact run_convert_bytes_back w _ _ _ a cap [] Tryd.underlying22 Tryd.underlying5 Tryd.underlying9 fun j hj => by simp at hj
  · refine run_convert_bytes_back w _ _ _ ⟨b, off, none⟩ cap l Tryd.underlying22 Tryd.underlying5 Tryd.underlying9 fun j hj => ?_
    have hadd : (⟨b, off, none⟩ : Addr).add j = ⟨b, off + j, none⟩ := by unfold Addr.add; split <;> simp_all
    rw [hadd]
    exact h3 j hj

set_option maxRecDepth 100000 in
set_option maxHeartbeats 1000000 in
theorem mean_any (v : Value) (l : List UInt8) (w : World) (hl : l.length ≤ 9223372036854775807) (h : BytesAt w v l) (ht : Tz w) : Calls Tryd.prog 3 #[v] w (BoolIs true w) := by
  obtain ⟨n, hn⟩ : ∃ n, n = l.length := ⟨_, rfl⟩
  obtain ⟨ao, cap, hv⟩ : ∃ ao cap, v = .slice ao n cap := by
    rcases h with ⟨h1, ao, cap, h2⟩ | ⟨b, off, cap, h1, _⟩
    · exact ⟨ao, cap, by rw [h2, hn, h1]; rfl⟩
    · exact ⟨_, cap, by rw [h1, hn]⟩
  subst hv
  have HN := Lib.hid hn
  have HV := Lib.hid h
  have HT := Lib.hid ht
  clear h ht
  by_cases hbig : 2147483647 < n
  · have d1 : (2147483647 : Int) < (n : Int) := by omega
    clear hn
    go_enter Tryd.func3, Tryd.ntmps3
    go_wp2_with fail
    go_ret
    exact ⟨rfl, Below.refl _ _⟩
  · have d1 : ¬ (2147483647 : Int) < (n : Int) := by omega
    have hl2 : l.length ≤ 2147483647 := by omega
    obtain ⟨s, hs⟩ : ∃ s : ByteArray, s = ⟨(lit (qOf l) l).toArray⟩ := ⟨_, rfl⟩
    have hL : IsLit s (qOf l) l := by
      subst hs
      refine ⟨rfl, ?_, by omega⟩
      have h1 := lit_len (qOf l) l
      show (lit (qOf l) l).toArray.size ≤ _
      rw [List.size_toArray]
      omega
    have hsz := hL.size
    have hpos : (0 : Int) < (s.size : Int) := by omega
    have HQ : Hid (Calls Tryd.prog 4 #[.slice ao n cap] w fun e w' => e = .returned (.string s) ∧ Below w.heap.size w w') := by
      rw [hs]; exact impl_quote_any _ l w hl2 HV.out HT.out
    have HL := Lib.hid hL
    have HC := Lib.hid (qOf_cases l)
    clear hn hs hL hsz hbig hl hl2
    go_enter Tryd.func3, Tryd.ntmps3
    go_wp2_with fail
    refine (HQ.out).mono ?_
    rintro e w1 ⟨rfl, hb⟩
    have HB := Lib.hid hb
    have hcv := bytes_text (HV.out.below hb)
    clear hb
    by_cases h1000 : 1000 < n
    · have d2 : (1000 : Int) < (n : Int) := by omega
      go_wp2_with fail
      go_ret
      exact ⟨by first | rfl | simp, HB.out⟩
    · have d2 : ¬ (1000 : Int) < (n : Int) := by omega
      go_wp2_with fail
      refine (literal_any s (qOf l) HC.out l HL.out _).mono ?_
      rintro e w2 ⟨rfl, hb2⟩
      have HB2 := Lib.hid (HB.out.trans (hb2.mono HB.out.size))
      clear hb2
      go_wp2_with fail
      go_ret
      exact ⟨by first | rfl | simp, HB2.out⟩

end Go.Proofs.YtngofbhlhcalpaaDoor.quo
