/-
  Contracts of the methods that write choices and integers of the language of positions. Printed by unq_gen.py. No statement of the seat is proved here.
-/
import Derived.Test.YtfhnjgoipajiaaaDoorPlO
import Derived.Laws.MakeOwn
namespace Go.Proofs.YtfhnjgoipajiaaaDoor.pl
open Go.RowKit Go.Proofs.YtfhnjgoipajiaaaDoor.gen

theorem infoStr : (Tryd.prog.info? 9).map (fun i => (i.zero, i.size, i.bytes)) = some (some (.string ⟨#[]⟩), 1, 16) := by kernel_rfl
theorem grow_below (w : World) (q : Nat) (os : Array Obj) : Below w.heap.size w (Go.Sort.grow (w.drewN q) os) :=
  ⟨rfl, rfl, rfl, by show _ ≤ (w.heap ++ os).size; rw [Array.size_append]; omega, fun k hk => by show (w.heap ++ os)[k]? = _; rw [Array.getElem?_append_left hk]⟩
def strs (l : List ByteArray) : List Value := l.map fun a => .string a
theorem strs_len (l : List ByteArray) : (strs l).length = l.length := by simp [strs]
theorem strs_app (a b : List ByteArray) : strs (a ++ b) = strs a ++ strs b := by simp [strs]

set_option maxRecDepth 100000 in
set_option maxHeartbeats 2000000 in
theorem NodeChoice_Unparse_c (b g n cap : Nat) (xs : List (Value × ByteArray)) (w : World) (hn : xs.length = n) (h0 : 0 < n) (hnb : n ≤ 1099511627777) (h : w.heap[b]? = some (.cells #[.slice (some ⟨g, 0, none⟩) n cap] 67 (0, 0)))
    (hx : ∀ (k : Nat) y, xs[k]? = some y → w.cell? ⟨g, k, none⟩ = some y.1 ∧ Inv w y.1 "Unparse" [] y.2) (hJ : (Lib.join (xs.map (·.2.data.toList)) [32, 63, 63, 32]).length ≤ 1099511627776) : Calls Tryd.prog 91 #[.pointer (some ⟨b, 0, none⟩)] w (Ret (((⟨#[40]⟩ : ByteArray) ++ (⟨(Lib.join (xs.map (·.2.data.toList)) [32, 63, 63, 32]).toArray⟩ : ByteArray)) ++ (⟨#[41]⟩ : ByteArray)) w) := by
  obtain ⟨i0, hi0', hz0, hz1, hz2⟩ := info_parts infoStr
  have c0 : w.cell? ⟨b, 0, none⟩ = some (.slice (some ⟨g, 0, none⟩) n cap) := block_cell h 0
  obtain ⟨w0, hmk, hown0, hg0⟩ := run_make_own (P := Tryd.prog) w w.heap.size 169 9 i0 (.string ⟨#[]⟩) 1 Tryd.underlying169 hi0' hz0 hz1 .i64 .i64 n (by rw [hz2]; omega) (by unfold maxLen; omega) (Nat.le_refl _)
  have hb0 : Below w.heap.size w w0 := (Frm.grown (S := []) hg0 (by intro k hk; cases hk)).below
  have c0' : w0.cell? ⟨b, 0, none⟩ = some (.slice (some ⟨g, 0, none⟩) n cap) := (hb0.cell (block_lt h)).trans c0
  obtain ⟨Ts, hTs⟩ : ∃ Ts, xs.map (·.2) = Ts := ⟨_, rfl⟩
  have hTl : Ts.length = n := by rw [← hTs, List.length_map, hn]
  have HTs := Lib.hid hTs
  have HTl := Lib.hid hTl
  have HX := Lib.hid hx
  have HN := Lib.hid hn
  have HB0 := Lib.hid hb0
  have HO0 := Lib.hid (OwnC.ofRow hown0).1
  clear h hx hn hown0 hg0 hb0 hTs hTl
  go_enter Tryd.func91, Tryd.ntmps91
  go_wp2_with fail
  go_loopg [3, 17] n (fun g' v i wr => ∃ k : Nat, g' = n - k ∧ i = .int .i64 k ∧ k ≤ n ∧ Hid (Below w.heap.size w wr) ∧ Hid (OwnC wr w.heap.size v (strs (Ts.take k))))
  case atStart => exact ⟨0, rfl, rfl, Nat.zero_le _, HB0, HO0⟩
  case round =>
    obtain ⟨k, hg, rfl, hkn, HB, HO⟩ := hrel
    by_cases hlt : k < n
    · have hlt2 : k < xs.length := by have := HN.out; omega
      obtain ⟨y, hy⟩ : ∃ y, xs[k]? = some y := ⟨_, List.getElem?_eq_getElem hlt2⟩
      obtain ⟨hcell, hinv⟩ := HX.out k y hy
      have htk : Ts.take (k + 1) = Ts.take k ++ [y.2] := by rw [List.take_add_one, ← HTs.out, List.getElem?_map, hy]; rfl
      obtain ⟨T, hT⟩ : ∃ T, y.2 = T := ⟨_, rfl⟩
      rw [hT] at hinv htk
      have hkl : (Ts.take k).length = k := by have := HTl.out; rw [List.length_take]; omega
      obtain ⟨t, q, kk, hv, hm, hf, hc⟩ := hinv.on HB.out
      rw [hv] at hcell
      have q0 : wr.cell? ⟨g, k, none⟩ = some (.iface t (.pointer (some q))) := (HB.out.cell (World.block_lt_of_cell? _ _ hcell)).trans hcell
      have hi0 : (0 : Int) ≤ (k : Int) := by omega
      have hi1 : (k : Int) < (n : Int) := by omega
      have hkw : IntKind.i64.wrap ((k : Int) + 1) = (k : Int) + 1 := IntWalk.i64_in _ (by omega)
      have HC := Lib.hid hc
      have HTk := Lib.hid htk
      clear hy hcell hinv hT hv hc htk
      go_wp2_with fail
      refine (HC.out _ (Below.refl _ _)).mono ?_
      rintro e w5 ⟨rfl, hb5⟩
      have hb5' : Below w.heap.size w w5 := HB.out.trans (hb5.mono HB.out.size)
      have hO5 : OwnC (w5.alloc (.cells #[.string T] 9)) w.heap.size u3 (strs (Ts.take k)) := (HO.out.frm (Frm.ofBelow hb5 []) (by simp)).alloc _
      have hb6 : Below w.heap.size w (w5.alloc (.cells #[.string T] 9)) := hb5'.alloc hb5'.size _
      have hz6 := hb6.size
      have hcl : ∀ j u, [Value.string T][j]? = some u → (w5.alloc (.cells #[.string T] 9)).cell? ((⟨w5.heap.size, 0, none⟩ : Addr).add j) = some u := World.news_of_block (cs := #[.string T]) (t := 9) (fr := (0, 0)) (heap_alloc_new w5 _)
      have HB6 := Lib.hid hb6
      clear hb5 hb5' hb6
      go_wp2_with (at_builtin; refine wpList_append_ownC _ rfl (.tmp 21) (.tmp 24) 169 rfl w.heap.size 9 i0 (.string ⟨#[]⟩) 16 Tryd.underlying169 hi0' hz0 hz1 hz2 rfl u3 k (strs (Ts.take k)) rfl (by rw [strs_len]; exact hkl) hO5 ⟨w5.heap.size, 0, none⟩ 1 1 [.string T] rfl rfl (by decide) hcl (by simp [Value.oneCell']) (by unfold maxLen; omega) (by omega) hz6 ?_)
      intro g2 cap2 w7 hO7 hg7 hor
      have HB7 : Hid (Below w.heap.size w w7) := by
        have h1 : Frm _ w7 u3.ownBlock.toList := Frm.grown hg7 fun b hb => .inl (by rw [hb]; simp)
        exact (((Frm.ofBelow HB6.out []).trans h1) (fun x hx => .inr (hO5.lt x (by simpa using hx)).1)).below
      have HO7 : Hid (OwnC w7 w.heap.size (.slice (some ⟨g2, 0, none⟩) (k + 1) cap2) (strs (Ts.take (k + 1)))) := by
        show OwnC _ _ _ _
        rw [HTk.out, strs_app]; exact hO7
      clear hO7 hg7 hor hO5 hz6 hcl
      go_wp2_with fail
      go_roundg (n - (k + 1))
      case measure => omega
      case rel => exact ⟨k + 1, rfl, by go_num, by omega, HB7, HO7⟩
    · obtain rfl : k = n := by omega
      have hO := HO.out
      rw [List.take_of_length_le (by rw [HTl.out]; exact Nat.le_refl _)] at hO
      obtain ⟨g2, cap2, hv, hcap, hcl, hlt2⟩ : ∃ g2 cap2, u3 = .slice (some ⟨g2, 0, none⟩) k cap2 ∧ k ≤ cap2 ∧ (∀ (j : Nat) y, Ts[j]? = some y → wr.cell? ⟨g2, 0 + j, none⟩ = some (.string y)) ∧ g2 < wr.heap.size := by
        rcases hO with ⟨_, h1⟩ | ⟨g2, cap2, h1, _, h2, h3, _, h5, _⟩
        · have := congrArg List.length h1
          rw [strs_len, HTl.out] at this
          simp at this; omega
        · rw [strs_len, HTl.out] at h1 h3 h5
          refine ⟨g2, cap2, h1, h3, fun j y hy => ?_, h2⟩
          have hjl : j < k := by
            rcases Nat.lt_or_ge j Ts.length with h' | h'
            · rw [HTl.out] at h'; exact h'
            · rw [List.getElem?_eq_none h'] at hy; cases hy
          rw [Nat.zero_add, h5 j hjl]
          unfold strs
          rw [List.getElem?_map, hy]; rfl
      subst hv
      have hj := Tryd.strings_Join g2 0 cap2 Ts ⟨#[32, 63, 63, 32]⟩ wr hcl hlt2 (by rw [HTl.out]; omega) (by rw [HTl.out]; exact hcap) (by rw [← HTs.out, List.map_map]; exact Nat.le_trans hJ (by decide))
      rw [HTl.out, ← HTs.out, List.map_map] at hj
      change Calls _ _ _ _ (fun e w' => e = .returned (.string ⟨(Lib.join (xs.map (·.2.data.toList)) [32, 63, 63, 32]).toArray⟩) ∧ _) at hj
      obtain ⟨J, hJe⟩ : ∃ J, (⟨(Lib.join (xs.map (·.2.data.toList)) [32, 63, 63, 32]).toArray⟩ : ByteArray) = J := ⟨_, rfl⟩
      have hJs : J.size ≤ 1099511627776 := by
        rw [← hJe]
        show (Lib.join (xs.map (·.2.data.toList)) [32, 63, 63, 32]).toArray.size ≤ _
        rw [List.size_toArray]; exact hJ
      rw [hJe] at hj
      have HJe := Lib.hid hJe
      have HJ := Lib.hid hj
      have s1 : ¬ 9223372036854775807 < 1 + J.size := by omega
      have s2 : ¬ 9223372036854775807 < 1 + J.size + 1 := by omega
      clear hj hcl hO hJ hJe
      go_wp2_with fail
      refine HJ.out.mono ?_
      rintro e w8 ⟨rfl, hb8⟩
      have HB8 := Lib.hid (HB.out.trans (hb8.mono HB.out.size))
      clear hb8
      go_wp2_with fail
      go_ret
      exact ⟨by rw [HJe.out]; rfl, HB8.out⟩

set_option maxRecDepth 100000 in
set_option maxHeartbeats 2000000 in
theorem PosChoice_Unparse_c (b g n cap : Nat) (xs : List (Value × ByteArray)) (w : World) (hn : xs.length = n) (h0 : 0 < n) (hnb : n ≤ 1099511627777) (h : w.heap[b]? = some (.cells #[.slice (some ⟨g, 0, none⟩) n cap] 63 (0, 0)))
    (hx : ∀ (k : Nat) y, xs[k]? = some y → w.cell? ⟨g, k, none⟩ = some y.1 ∧ Inv w y.1 "Unparse" [] y.2) (hJ : (Lib.join (xs.map (·.2.data.toList)) [32, 124, 124, 32]).length ≤ 1099511627776) : Calls Tryd.prog 81 #[.pointer (some ⟨b, 0, none⟩)] w (Ret (⟨(Lib.join (xs.map (·.2.data.toList)) [32, 124, 124, 32]).toArray⟩ : ByteArray) w) := by
  obtain ⟨i0, hi0', hz0, hz1, hz2⟩ := info_parts infoStr
  have c0 : w.cell? ⟨b, 0, none⟩ = some (.slice (some ⟨g, 0, none⟩) n cap) := block_cell h 0
  obtain ⟨w0, hmk, hown0, hg0⟩ := run_make_own (P := Tryd.prog) w w.heap.size 169 9 i0 (.string ⟨#[]⟩) 1 Tryd.underlying169 hi0' hz0 hz1 .i64 .i64 n (by rw [hz2]; omega) (by unfold maxLen; omega) (Nat.le_refl _)
  have hb0 : Below w.heap.size w w0 := (Frm.grown (S := []) hg0 (by intro k hk; cases hk)).below
  have c0' : w0.cell? ⟨b, 0, none⟩ = some (.slice (some ⟨g, 0, none⟩) n cap) := (hb0.cell (block_lt h)).trans c0
  obtain ⟨Ts, hTs⟩ : ∃ Ts, xs.map (·.2) = Ts := ⟨_, rfl⟩
  have hTl : Ts.length = n := by rw [← hTs, List.length_map, hn]
  have HTs := Lib.hid hTs
  have HTl := Lib.hid hTl
  have HX := Lib.hid hx
  have HN := Lib.hid hn
  have HB0 := Lib.hid hb0
  have HO0 := Lib.hid (OwnC.ofRow hown0).1
  clear h hx hn hown0 hg0 hb0 hTs hTl
  go_enter Tryd.func81, Tryd.ntmps81
  go_wp2_with fail
  go_loopg [3, 17] n (fun g' v i wr => ∃ k : Nat, g' = n - k ∧ i = .int .i64 k ∧ k ≤ n ∧ Hid (Below w.heap.size w wr) ∧ Hid (OwnC wr w.heap.size v (strs (Ts.take k))))
  case atStart => exact ⟨0, rfl, rfl, Nat.zero_le _, HB0, HO0⟩
  case round =>
    obtain ⟨k, hg, rfl, hkn, HB, HO⟩ := hrel
    by_cases hlt : k < n
    · have hlt2 : k < xs.length := by have := HN.out; omega
      obtain ⟨y, hy⟩ : ∃ y, xs[k]? = some y := ⟨_, List.getElem?_eq_getElem hlt2⟩
      obtain ⟨hcell, hinv⟩ := HX.out k y hy
      have htk : Ts.take (k + 1) = Ts.take k ++ [y.2] := by rw [List.take_add_one, ← HTs.out, List.getElem?_map, hy]; rfl
      obtain ⟨T, hT⟩ : ∃ T, y.2 = T := ⟨_, rfl⟩
      rw [hT] at hinv htk
      have hkl : (Ts.take k).length = k := by have := HTl.out; rw [List.length_take]; omega
      obtain ⟨t, q, kk, hv, hm, hf, hc⟩ := hinv.on HB.out
      rw [hv] at hcell
      have q0 : wr.cell? ⟨g, k, none⟩ = some (.iface t (.pointer (some q))) := (HB.out.cell (World.block_lt_of_cell? _ _ hcell)).trans hcell
      have hi0 : (0 : Int) ≤ (k : Int) := by omega
      have hi1 : (k : Int) < (n : Int) := by omega
      have hkw : IntKind.i64.wrap ((k : Int) + 1) = (k : Int) + 1 := IntWalk.i64_in _ (by omega)
      have HC := Lib.hid hc
      have HTk := Lib.hid htk
      clear hy hcell hinv hT hv hc htk
      go_wp2_with fail
      refine (HC.out _ (Below.refl _ _)).mono ?_
      rintro e w5 ⟨rfl, hb5⟩
      have hb5' : Below w.heap.size w w5 := HB.out.trans (hb5.mono HB.out.size)
      have hO5 : OwnC (w5.alloc (.cells #[.string T] 9)) w.heap.size u3 (strs (Ts.take k)) := (HO.out.frm (Frm.ofBelow hb5 []) (by simp)).alloc _
      have hb6 : Below w.heap.size w (w5.alloc (.cells #[.string T] 9)) := hb5'.alloc hb5'.size _
      have hz6 := hb6.size
      have hcl : ∀ j u, [Value.string T][j]? = some u → (w5.alloc (.cells #[.string T] 9)).cell? ((⟨w5.heap.size, 0, none⟩ : Addr).add j) = some u := World.news_of_block (cs := #[.string T]) (t := 9) (fr := (0, 0)) (heap_alloc_new w5 _)
      have HB6 := Lib.hid hb6
      clear hb5 hb5' hb6
      go_wp2_with (at_builtin; refine wpList_append_ownC _ rfl (.tmp 21) (.tmp 24) 169 rfl w.heap.size 9 i0 (.string ⟨#[]⟩) 16 Tryd.underlying169 hi0' hz0 hz1 hz2 rfl u3 k (strs (Ts.take k)) rfl (by rw [strs_len]; exact hkl) hO5 ⟨w5.heap.size, 0, none⟩ 1 1 [.string T] rfl rfl (by decide) hcl (by simp [Value.oneCell']) (by unfold maxLen; omega) (by omega) hz6 ?_)
      intro g2 cap2 w7 hO7 hg7 hor
      have HB7 : Hid (Below w.heap.size w w7) := by
        have h1 : Frm _ w7 u3.ownBlock.toList := Frm.grown hg7 fun b hb => .inl (by rw [hb]; simp)
        exact (((Frm.ofBelow HB6.out []).trans h1) (fun x hx => .inr (hO5.lt x (by simpa using hx)).1)).below
      have HO7 : Hid (OwnC w7 w.heap.size (.slice (some ⟨g2, 0, none⟩) (k + 1) cap2) (strs (Ts.take (k + 1)))) := by
        show OwnC _ _ _ _
        rw [HTk.out, strs_app]; exact hO7
      clear hO7 hg7 hor hO5 hz6 hcl
      go_wp2_with fail
      go_roundg (n - (k + 1))
      case measure => omega
      case rel => exact ⟨k + 1, rfl, by go_num, by omega, HB7, HO7⟩
    · obtain rfl : k = n := by omega
      have hO := HO.out
      rw [List.take_of_length_le (by rw [HTl.out]; exact Nat.le_refl _)] at hO
      obtain ⟨g2, cap2, hv, hcap, hcl, hlt2⟩ : ∃ g2 cap2, u3 = .slice (some ⟨g2, 0, none⟩) k cap2 ∧ k ≤ cap2 ∧ (∀ (j : Nat) y, Ts[j]? = some y → wr.cell? ⟨g2, 0 + j, none⟩ = some (.string y)) ∧ g2 < wr.heap.size := by
        rcases hO with ⟨_, h1⟩ | ⟨g2, cap2, h1, _, h2, h3, _, h5, _⟩
        · have := congrArg List.length h1
          rw [strs_len, HTl.out] at this
          simp at this; omega
        · rw [strs_len, HTl.out] at h1 h3 h5
          refine ⟨g2, cap2, h1, h3, fun j y hy => ?_, h2⟩
          have hjl : j < k := by
            rcases Nat.lt_or_ge j Ts.length with h' | h'
            · rw [HTl.out] at h'; exact h'
            · rw [List.getElem?_eq_none h'] at hy; cases hy
          rw [Nat.zero_add, h5 j hjl]
          unfold strs
          rw [List.getElem?_map, hy]; rfl
      subst hv
      have hj := Tryd.strings_Join g2 0 cap2 Ts ⟨#[32, 124, 124, 32]⟩ wr hcl hlt2 (by rw [HTl.out]; omega) (by rw [HTl.out]; exact hcap) (by rw [← HTs.out, List.map_map]; exact Nat.le_trans hJ (by decide))
      rw [HTl.out, ← HTs.out, List.map_map] at hj
      change Calls _ _ _ _ (fun e w' => e = .returned (.string ⟨(Lib.join (xs.map (·.2.data.toList)) [32, 124, 124, 32]).toArray⟩) ∧ _) at hj
      obtain ⟨J, hJe⟩ : ∃ J, (⟨(Lib.join (xs.map (·.2.data.toList)) [32, 124, 124, 32]).toArray⟩ : ByteArray) = J := ⟨_, rfl⟩
      have hJs : J.size ≤ 1099511627776 := by
        rw [← hJe]
        show (Lib.join (xs.map (·.2.data.toList)) [32, 124, 124, 32]).toArray.size ≤ _
        rw [List.size_toArray]; exact hJ
      rw [hJe] at hj
      have HJe := Lib.hid hJe
      have HJ := Lib.hid hj
      have s1 : ¬ 9223372036854775807 < 0 + J.size := by omega
      have s2 : ¬ 9223372036854775807 < 0 + J.size + 0 := by omega
      clear hj hcl hO hJ hJe
      go_wp2_with fail
      refine HJ.out.mono ?_
      rintro e w8 ⟨rfl, hb8⟩
      have HB8 := Lib.hid (HB.out.trans (hb8.mono HB.out.size))
      clear hb8
      go_wp2_with fail
      go_ret
      exact ⟨by rw [HJe.out]; rfl, HB8.out⟩

set_option maxRecDepth 100000 in
set_option maxHeartbeats 2000000 in
theorem NodeChoice_NodeExprToGo_c (b g n cap : Nat) (x : ByteArray) (xs : List (Value × ByteArray)) (w : World) (hn : xs.length = n) (h0 : 0 < n) (hnb : n ≤ 1099511627777) (h : w.heap[b]? = some (.cells #[.slice (some ⟨g, 0, none⟩) n cap] 67 (0, 0)))
    (hx : ∀ (k : Nat) y, xs[k]? = some y → w.cell? ⟨g, k, none⟩ = some y.1 ∧ Inv w y.1 "NodeExprToGo" [.string x] y.2) (hJ : (Lib.join (xs.map (·.2.data.toList)) [44, 32]).length ≤ 1099511627776) : Calls Tryd.prog 90 #[.pointer (some ⟨b, 0, none⟩), .string x] w (Ret (((⟨#[110, 111, 100, 101, 67, 104, 111, 105, 99, 101, 40]⟩ : ByteArray) ++ (⟨(Lib.join (xs.map (·.2.data.toList)) [44, 32]).toArray⟩ : ByteArray)) ++ (⟨#[41]⟩ : ByteArray)) w) := by
  obtain ⟨i0, hi0', hz0, hz1, hz2⟩ := info_parts infoStr
  have c0 : w.cell? ⟨b, 0, none⟩ = some (.slice (some ⟨g, 0, none⟩) n cap) := block_cell h 0
  obtain ⟨w0, hmk, hown0, hg0⟩ := run_make_own (P := Tryd.prog) w w.heap.size 169 9 i0 (.string ⟨#[]⟩) 1 Tryd.underlying169 hi0' hz0 hz1 .i64 .i64 n (by rw [hz2]; omega) (by unfold maxLen; omega) (Nat.le_refl _)
  have hb0 : Below w.heap.size w w0 := (Frm.grown (S := []) hg0 (by intro k hk; cases hk)).below
  have c0' : w0.cell? ⟨b, 0, none⟩ = some (.slice (some ⟨g, 0, none⟩) n cap) := (hb0.cell (block_lt h)).trans c0
  obtain ⟨Ts, hTs⟩ : ∃ Ts, xs.map (·.2) = Ts := ⟨_, rfl⟩
  have hTl : Ts.length = n := by rw [← hTs, List.length_map, hn]
  have HTs := Lib.hid hTs
  have HTl := Lib.hid hTl
  have HX := Lib.hid hx
  have HN := Lib.hid hn
  have HB0 := Lib.hid hb0
  have HO0 := Lib.hid (OwnC.ofRow hown0).1
  clear h hx hn hown0 hg0 hb0 hTs hTl
  go_enter Tryd.func90, Tryd.ntmps90
  go_wp2_with fail
  go_loopg [5, 19] n (fun g' v i wr => ∃ k : Nat, g' = n - k ∧ i = .int .i64 k ∧ k ≤ n ∧ Hid (Below w.heap.size w wr) ∧ Hid (OwnC wr w.heap.size v (strs (Ts.take k))))
  case atStart => exact ⟨0, rfl, rfl, Nat.zero_le _, HB0, HO0⟩
  case round =>
    obtain ⟨k, hg, rfl, hkn, HB, HO⟩ := hrel
    by_cases hlt : k < n
    · have hlt2 : k < xs.length := by have := HN.out; omega
      obtain ⟨y, hy⟩ : ∃ y, xs[k]? = some y := ⟨_, List.getElem?_eq_getElem hlt2⟩
      obtain ⟨hcell, hinv⟩ := HX.out k y hy
      have htk : Ts.take (k + 1) = Ts.take k ++ [y.2] := by rw [List.take_add_one, ← HTs.out, List.getElem?_map, hy]; rfl
      obtain ⟨T, hT⟩ : ∃ T, y.2 = T := ⟨_, rfl⟩
      rw [hT] at hinv htk
      have hkl : (Ts.take k).length = k := by have := HTl.out; rw [List.length_take]; omega
      obtain ⟨t, q, kk, hv, hm, hf, hc⟩ := hinv.on HB.out
      rw [hv] at hcell
      have q0 : wr.cell? ⟨g, k, none⟩ = some (.iface t (.pointer (some q))) := (HB.out.cell (World.block_lt_of_cell? _ _ hcell)).trans hcell
      have hi0 : (0 : Int) ≤ (k : Int) := by omega
      have hi1 : (k : Int) < (n : Int) := by omega
      have hkw : IntKind.i64.wrap ((k : Int) + 1) = (k : Int) + 1 := IntWalk.i64_in _ (by omega)
      have HC := Lib.hid hc
      have HTk := Lib.hid htk
      clear hy hcell hinv hT hv hc htk
      go_wp2_with fail
      refine (HC.out _ (Below.refl _ _)).mono ?_
      rintro e w5 ⟨rfl, hb5⟩
      have hb5' : Below w.heap.size w w5 := HB.out.trans (hb5.mono HB.out.size)
      have hO5 : OwnC (w5.alloc (.cells #[.string T] 9)) w.heap.size u5 (strs (Ts.take k)) := (HO.out.frm (Frm.ofBelow hb5 []) (by simp)).alloc _
      have hb6 : Below w.heap.size w (w5.alloc (.cells #[.string T] 9)) := hb5'.alloc hb5'.size _
      have hz6 := hb6.size
      have hcl : ∀ j u, [Value.string T][j]? = some u → (w5.alloc (.cells #[.string T] 9)).cell? ((⟨w5.heap.size, 0, none⟩ : Addr).add j) = some u := World.news_of_block (cs := #[.string T]) (t := 9) (fr := (0, 0)) (heap_alloc_new w5 _)
      have HB6 := Lib.hid hb6
      clear hb5 hb5' hb6
      go_wp2_with (at_builtin; refine wpList_append_ownC _ rfl (.tmp 23) (.tmp 27) 169 rfl w.heap.size 9 i0 (.string ⟨#[]⟩) 16 Tryd.underlying169 hi0' hz0 hz1 hz2 rfl u5 k (strs (Ts.take k)) rfl (by rw [strs_len]; exact hkl) hO5 ⟨w5.heap.size, 0, none⟩ 1 1 [.string T] rfl rfl (by decide) hcl (by simp [Value.oneCell']) (by unfold maxLen; omega) (by omega) hz6 ?_)
      intro g2 cap2 w7 hO7 hg7 hor
      have HB7 : Hid (Below w.heap.size w w7) := by
        have h1 : Frm _ w7 u5.ownBlock.toList := Frm.grown hg7 fun b hb => .inl (by rw [hb]; simp)
        exact (((Frm.ofBelow HB6.out []).trans h1) (fun x hx => .inr (hO5.lt x (by simpa using hx)).1)).below
      have HO7 : Hid (OwnC w7 w.heap.size (.slice (some ⟨g2, 0, none⟩) (k + 1) cap2) (strs (Ts.take (k + 1)))) := by
        show OwnC _ _ _ _
        rw [HTk.out, strs_app]; exact hO7
      clear hO7 hg7 hor hO5 hz6 hcl
      go_wp2_with fail
      go_roundg (n - (k + 1))
      case measure => omega
      case rel => exact ⟨k + 1, rfl, by go_num, by omega, HB7, HO7⟩
    · obtain rfl : k = n := by omega
      have hO := HO.out
      rw [List.take_of_length_le (by rw [HTl.out]; exact Nat.le_refl _)] at hO
      obtain ⟨g2, cap2, hv, hcap, hcl, hlt2⟩ : ∃ g2 cap2, u5 = .slice (some ⟨g2, 0, none⟩) k cap2 ∧ k ≤ cap2 ∧ (∀ (j : Nat) y, Ts[j]? = some y → wr.cell? ⟨g2, 0 + j, none⟩ = some (.string y)) ∧ g2 < wr.heap.size := by
        rcases hO with ⟨_, h1⟩ | ⟨g2, cap2, h1, _, h2, h3, _, h5, _⟩
        · have := congrArg List.length h1
          rw [strs_len, HTl.out] at this
          simp at this; omega
        · rw [strs_len, HTl.out] at h1 h3 h5
          refine ⟨g2, cap2, h1, h3, fun j y hy => ?_, h2⟩
          have hjl : j < k := by
            rcases Nat.lt_or_ge j Ts.length with h' | h'
            · rw [HTl.out] at h'; exact h'
            · rw [List.getElem?_eq_none h'] at hy; cases hy
          rw [Nat.zero_add, h5 j hjl]
          unfold strs
          rw [List.getElem?_map, hy]; rfl
      subst hv
      have hj := Tryd.strings_Join g2 0 cap2 Ts ⟨#[44, 32]⟩ wr hcl hlt2 (by rw [HTl.out]; omega) (by rw [HTl.out]; exact hcap) (by rw [← HTs.out, List.map_map]; exact Nat.le_trans hJ (by decide))
      rw [HTl.out, ← HTs.out, List.map_map] at hj
      change Calls _ _ _ _ (fun e w' => e = .returned (.string ⟨(Lib.join (xs.map (·.2.data.toList)) [44, 32]).toArray⟩) ∧ _) at hj
      obtain ⟨J, hJe⟩ : ∃ J, (⟨(Lib.join (xs.map (·.2.data.toList)) [44, 32]).toArray⟩ : ByteArray) = J := ⟨_, rfl⟩
      have hJs : J.size ≤ 1099511627776 := by
        rw [← hJe]
        show (Lib.join (xs.map (·.2.data.toList)) [44, 32]).toArray.size ≤ _
        rw [List.size_toArray]; exact hJ
      rw [hJe] at hj
      have HJe := Lib.hid hJe
      have HJ := Lib.hid hj
      have s1 : ¬ 9223372036854775807 < 11 + J.size := by omega
      have s2 : ¬ 9223372036854775807 < 11 + J.size + 1 := by omega
      clear hj hcl hO hJ hJe
      go_wp2_with fail
      refine HJ.out.mono ?_
      rintro e w8 ⟨rfl, hb8⟩
      have HB8 := Lib.hid (HB.out.trans (hb8.mono HB.out.size))
      clear hb8
      go_wp2_with fail
      go_ret
      exact ⟨by rw [HJe.out]; rfl, HB8.out⟩

set_option maxRecDepth 100000 in
set_option maxHeartbeats 2000000 in
theorem PosChoice_PosExprToGo_c (b g n cap : Nat) (x : ByteArray) (xs : List (Value × ByteArray)) (w : World) (hn : xs.length = n) (h0 : 0 < n) (hnb : n ≤ 1099511627777) (h : w.heap[b]? = some (.cells #[.slice (some ⟨g, 0, none⟩) n cap] 63 (0, 0)))
    (hx : ∀ (k : Nat) y, xs[k]? = some y → w.cell? ⟨g, k, none⟩ = some y.1 ∧ Inv w y.1 "PosExprToGo" [.string x] y.2) (hJ : (Lib.join (xs.map (·.2.data.toList)) [44, 32]).length ≤ 1099511627776) : Calls Tryd.prog 80 #[.pointer (some ⟨b, 0, none⟩), .string x] w (Ret (((⟨#[112, 111, 115, 67, 104, 111, 105, 99, 101, 40]⟩ : ByteArray) ++ (⟨(Lib.join (xs.map (·.2.data.toList)) [44, 32]).toArray⟩ : ByteArray)) ++ (⟨#[41]⟩ : ByteArray)) w) := by
  obtain ⟨i0, hi0', hz0, hz1, hz2⟩ := info_parts infoStr
  have c0 : w.cell? ⟨b, 0, none⟩ = some (.slice (some ⟨g, 0, none⟩) n cap) := block_cell h 0
  obtain ⟨w0, hmk, hown0, hg0⟩ := run_make_own (P := Tryd.prog) w w.heap.size 169 9 i0 (.string ⟨#[]⟩) 1 Tryd.underlying169 hi0' hz0 hz1 .i64 .i64 n (by rw [hz2]; omega) (by unfold maxLen; omega) (Nat.le_refl _)
  have hb0 : Below w.heap.size w w0 := (Frm.grown (S := []) hg0 (by intro k hk; cases hk)).below
  have c0' : w0.cell? ⟨b, 0, none⟩ = some (.slice (some ⟨g, 0, none⟩) n cap) := (hb0.cell (block_lt h)).trans c0
  obtain ⟨Ts, hTs⟩ : ∃ Ts, xs.map (·.2) = Ts := ⟨_, rfl⟩
  have hTl : Ts.length = n := by rw [← hTs, List.length_map, hn]
  have HTs := Lib.hid hTs
  have HTl := Lib.hid hTl
  have HX := Lib.hid hx
  have HN := Lib.hid hn
  have HB0 := Lib.hid hb0
  have HO0 := Lib.hid (OwnC.ofRow hown0).1
  clear h hx hn hown0 hg0 hb0 hTs hTl
  go_enter Tryd.func80, Tryd.ntmps80
  go_wp2_with fail
  go_loopg [5, 19] n (fun g' v i wr => ∃ k : Nat, g' = n - k ∧ i = .int .i64 k ∧ k ≤ n ∧ Hid (Below w.heap.size w wr) ∧ Hid (OwnC wr w.heap.size v (strs (Ts.take k))))
  case atStart => exact ⟨0, rfl, rfl, Nat.zero_le _, HB0, HO0⟩
  case round =>
    obtain ⟨k, hg, rfl, hkn, HB, HO⟩ := hrel
    by_cases hlt : k < n
    · have hlt2 : k < xs.length := by have := HN.out; omega
      obtain ⟨y, hy⟩ : ∃ y, xs[k]? = some y := ⟨_, List.getElem?_eq_getElem hlt2⟩
      obtain ⟨hcell, hinv⟩ := HX.out k y hy
      have htk : Ts.take (k + 1) = Ts.take k ++ [y.2] := by rw [List.take_add_one, ← HTs.out, List.getElem?_map, hy]; rfl
      obtain ⟨T, hT⟩ : ∃ T, y.2 = T := ⟨_, rfl⟩
      rw [hT] at hinv htk
      have hkl : (Ts.take k).length = k := by have := HTl.out; rw [List.length_take]; omega
      obtain ⟨t, q, kk, hv, hm, hf, hc⟩ := hinv.on HB.out
      rw [hv] at hcell
      have q0 : wr.cell? ⟨g, k, none⟩ = some (.iface t (.pointer (some q))) := (HB.out.cell (World.block_lt_of_cell? _ _ hcell)).trans hcell
      have hi0 : (0 : Int) ≤ (k : Int) := by omega
      have hi1 : (k : Int) < (n : Int) := by omega
      have hkw : IntKind.i64.wrap ((k : Int) + 1) = (k : Int) + 1 := IntWalk.i64_in _ (by omega)
      have HC := Lib.hid hc
      have HTk := Lib.hid htk
      clear hy hcell hinv hT hv hc htk
      go_wp2_with fail
      refine (HC.out _ (Below.refl _ _)).mono ?_
      rintro e w5 ⟨rfl, hb5⟩
      have hb5' : Below w.heap.size w w5 := HB.out.trans (hb5.mono HB.out.size)
      have hO5 : OwnC (w5.alloc (.cells #[.string T] 9)) w.heap.size u5 (strs (Ts.take k)) := (HO.out.frm (Frm.ofBelow hb5 []) (by simp)).alloc _
      have hb6 : Below w.heap.size w (w5.alloc (.cells #[.string T] 9)) := hb5'.alloc hb5'.size _
      have hz6 := hb6.size
      have hcl : ∀ j u, [Value.string T][j]? = some u → (w5.alloc (.cells #[.string T] 9)).cell? ((⟨w5.heap.size, 0, none⟩ : Addr).add j) = some u := World.news_of_block (cs := #[.string T]) (t := 9) (fr := (0, 0)) (heap_alloc_new w5 _)
      have HB6 := Lib.hid hb6
      clear hb5 hb5' hb6
      go_wp2_with (at_builtin; refine wpList_append_ownC _ rfl (.tmp 23) (.tmp 27) 169 rfl w.heap.size 9 i0 (.string ⟨#[]⟩) 16 Tryd.underlying169 hi0' hz0 hz1 hz2 rfl u5 k (strs (Ts.take k)) rfl (by rw [strs_len]; exact hkl) hO5 ⟨w5.heap.size, 0, none⟩ 1 1 [.string T] rfl rfl (by decide) hcl (by simp [Value.oneCell']) (by unfold maxLen; omega) (by omega) hz6 ?_)
      intro g2 cap2 w7 hO7 hg7 hor
      have HB7 : Hid (Below w.heap.size w w7) := by
        have h1 : Frm _ w7 u5.ownBlock.toList := Frm.grown hg7 fun b hb => .inl (by rw [hb]; simp)
        exact (((Frm.ofBelow HB6.out []).trans h1) (fun x hx => .inr (hO5.lt x (by simpa using hx)).1)).below
      have HO7 : Hid (OwnC w7 w.heap.size (.slice (some ⟨g2, 0, none⟩) (k + 1) cap2) (strs (Ts.take (k + 1)))) := by
        show OwnC _ _ _ _
        rw [HTk.out, strs_app]; exact hO7
      clear hO7 hg7 hor hO5 hz6 hcl
      go_wp2_with fail
      go_roundg (n - (k + 1))
      case measure => omega
      case rel => exact ⟨k + 1, rfl, by go_num, by omega, HB7, HO7⟩
    · obtain rfl : k = n := by omega
      have hO := HO.out
      rw [List.take_of_length_le (by rw [HTl.out]; exact Nat.le_refl _)] at hO
      obtain ⟨g2, cap2, hv, hcap, hcl, hlt2⟩ : ∃ g2 cap2, u5 = .slice (some ⟨g2, 0, none⟩) k cap2 ∧ k ≤ cap2 ∧ (∀ (j : Nat) y, Ts[j]? = some y → wr.cell? ⟨g2, 0 + j, none⟩ = some (.string y)) ∧ g2 < wr.heap.size := by
        rcases hO with ⟨_, h1⟩ | ⟨g2, cap2, h1, _, h2, h3, _, h5, _⟩
        · have := congrArg List.length h1
          rw [strs_len, HTl.out] at this
          simp at this; omega
        · rw [strs_len, HTl.out] at h1 h3 h5
          refine ⟨g2, cap2, h1, h3, fun j y hy => ?_, h2⟩
          have hjl : j < k := by
            rcases Nat.lt_or_ge j Ts.length with h' | h'
            · rw [HTl.out] at h'; exact h'
            · rw [List.getElem?_eq_none h'] at hy; cases hy
          rw [Nat.zero_add, h5 j hjl]
          unfold strs
          rw [List.getElem?_map, hy]; rfl
      subst hv
      have hj := Tryd.strings_Join g2 0 cap2 Ts ⟨#[44, 32]⟩ wr hcl hlt2 (by rw [HTl.out]; omega) (by rw [HTl.out]; exact hcap) (by rw [← HTs.out, List.map_map]; exact Nat.le_trans hJ (by decide))
      rw [HTl.out, ← HTs.out, List.map_map] at hj
      change Calls _ _ _ _ (fun e w' => e = .returned (.string ⟨(Lib.join (xs.map (·.2.data.toList)) [44, 32]).toArray⟩) ∧ _) at hj
      obtain ⟨J, hJe⟩ : ∃ J, (⟨(Lib.join (xs.map (·.2.data.toList)) [44, 32]).toArray⟩ : ByteArray) = J := ⟨_, rfl⟩
      have hJs : J.size ≤ 1099511627776 := by
        rw [← hJe]
        show (Lib.join (xs.map (·.2.data.toList)) [44, 32]).toArray.size ≤ _
        rw [List.size_toArray]; exact hJ
      rw [hJe] at hj
      have HJe := Lib.hid hJe
      have HJ := Lib.hid hj
      have s1 : ¬ 9223372036854775807 < 10 + J.size := by omega
      have s2 : ¬ 9223372036854775807 < 10 + J.size + 1 := by omega
      clear hj hcl hO hJ hJe
      go_wp2_with fail
      refine HJ.out.mono ?_
      rintro e w8 ⟨rfl, hb8⟩
      have HB8 := Lib.hid (HB.out.trans (hb8.mono HB.out.size))
      clear hb8
      go_wp2_with fail
      go_ret
      exact ⟨by rw [HJe.out]; rfl, HB8.out⟩

set_option maxRecDepth 100000 in
theorem IntLiteral_Unparse_c (b : Nat) (n : Nat) (w : World) (hn : n ≤ 9223372036854775807) (hc : Ctx w) (h : w.heap[b]? = some (.cells #[.int .i64 (n : Int)] 88 (0, 0))) : Calls Tryd.prog 101 #[.pointer (some ⟨b, 0, none⟩)] w (Ret ⟨(Lib.itoa (n : Int)).toArray⟩ w) := by
  have c0 : w.cell? ⟨b, 0, none⟩ = some (.int .i64 (n : Int)) := block_cell h 0
  have HC := Lib.hid hc
  clear h hc
  go_enter Tryd.func101, Tryd.ntmps101
  go_wp2_with fail
  refine (Tryd.strconv_Itoa (n : Int) (by omega) (by omega) _ HC.out.pow).mono ?_
  rintro e w1 ⟨rfl, kq, os, rfl⟩
  have hb1 : Below w.heap.size w (Go.Sort.grow (w.drewN kq) os) := grow_below w kq os
  go_wp2_with fail
  go_ret
  exact ⟨rfl, hb1⟩

set_option maxRecDepth 100000 in
theorem IntLiteral_IntExprToGo_c (b : Nat) (x : ByteArray) (n : Nat) (w : World) (hn : n ≤ 9223372036854775807) (hc : Ctx w) (h : w.heap[b]? = some (.cells #[.int .i64 (n : Int)] 88 (0, 0))) : Calls Tryd.prog 100 #[.pointer (some ⟨b, 0, none⟩), .string x] w (Ret ⟨(Lib.itoa (n : Int)).toArray⟩ w) := by
  have c0 : w.cell? ⟨b, 0, none⟩ = some (.int .i64 (n : Int)) := block_cell h 0
  have HC := Lib.hid hc
  clear h hc
  go_enter Tryd.func100, Tryd.ntmps100
  go_wp2_with fail
  refine (Tryd.strconv_Itoa (n : Int) (by omega) (by omega) _ HC.out.pow).mono ?_
  rintro e w1 ⟨rfl, kq, os, rfl⟩
  have hb1 : Below w.heap.size w (Go.Sort.grow (w.drewN kq) os) := grow_below w kq os
  go_wp2_with fail
  go_ret
  exact ⟨rfl, hb1⟩

end Go.Proofs.YtfhnjgoipajiaaaDoor.pl
