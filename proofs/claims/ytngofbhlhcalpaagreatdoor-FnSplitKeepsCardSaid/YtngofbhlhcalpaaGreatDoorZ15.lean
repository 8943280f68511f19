/-
  Lemmas and contracts of this claim, texts QuoR, QuoA. No statement of the seat is proved here.
-/
import Derived.Test.YtngofbhlhcalpaaGreatDoorZ03
import Derived.Test.YtngofbhlhcalpaaGreatDoorZ04
import Derived.Test.YtngofbhlhcalpaaGreatDoorZ06
import Derived.Test.YtngofbhlhcalpaaGreatDoorZ07
import Derived.Test.YtngofbhlhcalpaaGreatDoorZ08
import Derived.Test.YtngofbhlhcalpaaGreatDoorZ09
import Derived.Test.YtngofbhlhcalpaaGreatDoorZ10
import Derived.Test.YtngofbhlhcalpaaGreatDoorZ11
import Derived.Test.YtngofbhlhcalpaaGreatDoorZ12
import Derived.Test.YtngofbhlhcalpaaGreatDoorZ13
import Derived.Test.YtngofbhlhcalpaaGreatDoorZ14
namespace Go.Proofs.YtngofbhlhcalpaaGreatDoor.lexer
open Go.RowKit Go.Proofs.YtngofbhlhcalpaaGreatDoor.gen
open Go.Proofs.YtngofbhlhcalpaaGreatDoor.upper (bv bv_len)


theorem hexN_len {n : Nat} {l : List UInt8} {u : Nat} (h : hexN n l = some u) : n ≤ l.length := by
  unfold hexN at h; split at h
  · rename_i h1; exact h1.1
  · cases h
theorem octN_len {n : Nat} {l : List UInt8} {u : Nat} (h : octN n l = some u) : n ≤ l.length := by
  unfold octN at h; split at h
  · rename_i h1; exact h1.1
  · cases h

theorem need_hex {uni : Bool} {d : UInt8} {r bs : List UInt8} {n : Nat} (hd : nn d = 120 ∨ nn d = 88) (h : esc uni (d :: r) = some (bs, n)) : 2 ≤ r.length := by
  have h1 : ∃ u, hexN 2 r = some u := by
    rcases hd with hd | hd
    · simp [esc, simple, hd] at h; obtain ⟨u, hu, _⟩ := h; exact ⟨u, hu⟩
    · simp [esc, simple, hd] at h; obtain ⟨u, hu, _⟩ := h; exact ⟨u, hu⟩
  obtain ⟨u, hu⟩ := h1
  exact hexN_len hu
theorem need_oct {uni : Bool} {d : UInt8} {r bs : List UInt8} {n : Nat} (hd : nn d = 48 ∨ nn d = 49 ∨ nn d = 50 ∨ nn d = 51) (h : esc uni (d :: r) = some (bs, n)) : 2 ≤ r.length := by
  have h1 : ∃ u, octN 2 r = some u := by
    rcases hd with hd | hd | hd | hd
    all_goals simp [esc, simple, hd] at h; obtain ⟨u, hu, _⟩ := h; exact ⟨u, hu⟩
  obtain ⟨u, hu⟩ := h1
  exact octN_len hu
theorem need_uni {d : UInt8} {r bs : List UInt8} {n N : Nat} (hd : (nn d = 117 ∧ N = 4) ∨ (nn d = 85 ∧ N = 8)) (h : esc true (d :: r) = some (bs, n)) : N ≤ r.length := by
  rw [esc_u d r N hd] at h
  cases hx : hexN N r with
  | none => rw [hx] at h; cases h
  | some u => exact hexN_len hx

section
variable {lb fb : Nat} {fp s : ByteArray} {x : LX} {q nm : ByteArray} {raw uni ident np : Bool} {z : List UInt8 × Nat × QEnd} {w : World} {k : Nat} {l : List UInt8} {he : Bool} {v : Value} {wr : World}

/-- There is room behind a backslash. -/
theorem room_of (H : QCtx lb fb fp s x q nm raw uni ident np z w k l he v wr) (c : UInt8) (hb : byt s ((x.p : Int) + (k : Int)) = nn c) (h92 : nn c = 92) (hsuf : suf s (x.p + k) = c :: suf s (x.p + k + 1))
    (hcl : ((suf s (x.p + k)).take q.data.toList.length == q.data.toList) = false) (m : Nat) (hm : m ≤ 9)
    (hneed : (raw = true → suf s (x.p + k + 1) ≠ [] → m ≤ (suf s (x.p + k + 1)).length) ∧ (raw = false → ∀ bs n, esc uni (suf s (x.p + k + 1)) = some (bs, n) → m ≤ (suf s (x.p + k + 1)).length)) : x.p + k + 1 + m ≤ s.size := by
  have hki := H.qs.hi
  have hlt : x.p + k < s.size := by
    have h1 := suf_len s (x.p + k)
    rw [hsuf] at h1
    simp at h1
    omega
  rcases H.qs.room H.z H.ok c h92 hb with h1 | ⟨_, h1⟩
  · omega
  · have h2 := suf_len s (x.p + k + 1)
    cases raw with
    | true =>
      have h3 : suf s (x.p + k + 1) ≠ [] := by
        intro h
        rw [hsuf, h, qr_rawEnd _ _ _ (by rw [← h, ← hsuf]; exact hcl) h92] at h1
        cases h1
      have := hneed.1 rfl h3
      omega
    | false =>
      cases he : esc uni (suf s (x.p + k + 1)) with
      | none =>
        rw [hsuf, qr_escBad _ _ _ _ (by rw [← hsuf]; exact hcl) h92 he] at h1
        cases h1
      | some y =>
        obtain ⟨bs, n⟩ := y
        have := hneed.2 rfl bs n he
        omega
end

theorem esc_pos {uni : Bool} {r bs : List UInt8} {n : Nat} (h : esc uni r = some (bs, n)) : 1 ≤ r.length := by
  cases r with
  | nil => simp [esc] at h
  | cons a b => simp

set_option maxRecDepth 100000 in
theorem round_any
    (lb fb : Nat) (fp s : ByteArray) (x : LX) (q nm : ByteArray) (raw uni ident np : Bool) (z : List UInt8 × Nat × QEnd) (w : World) (k : Nat) (l : List UInt8) (he : Bool) (v : Value) (wr : World) (U : Nat → Value)
        (H : QCtx lb fb fp s x q nm raw uni ident np z w k l he v wr)
    :
    Code.wp Tryz.prog qBody (QPost lb fb fp s x q nm raw uni ident np z w k) ⟨QFr lb q nm raw uni np (.int .i64 k) v (.bool he) (uls U), []⟩ wr := by
  have hki := H.qs.hi
  have hqp := H.qpos
  rcases suf_byt s (x.p + k) with ⟨_, _, hge⟩ | ⟨c, hb, hsuf, hlt⟩
  · exact round_end lb fb fp s x q nm raw uni ident np z w k l he v wr U H hge
  · rw [show ((x.p + k : Nat) : Int) = (x.p : Int) + (k : Int) from by omega] at hb
    cases hcl : (suf s (x.p + k)).take q.data.toList.length == q.data.toList with
    | true =>
      cases hid : ident && l.isEmpty with
      | true => exact round_empty lb fb fp s x q nm raw uni ident np z w k l he v wr U H hlt hcl hid
      | false => exact round_close lb fb fp s x q nm raw uni ident np z w k l he v wr U H hlt hcl hid
    | false =>
      by_cases h92 : nn c = 92
      · have hroom1 : x.p + k + 1 + 1 ≤ s.size := room_of H c hb h92 hsuf hcl 1 (by omega) ⟨fun _ h => List.length_pos_iff.2 h, fun _ bs n h => esc_pos h⟩
        rcases suf_byt s (x.p + k + 1) with ⟨_, _, hge⟩ | ⟨d, hbd, hsuf1, hlt1⟩
        · omega
        · have hsuf1 : suf s (x.p + k + 1) = d :: suf s (x.p + k + 2) := hsuf1
          have hs2 : suf s (x.p + k) = c :: d :: suf s (x.p + k + 2) := by rw [hsuf, hsuf1]
          have hneed : ∀ m, m ≤ 8 → raw = false → (∀ bs n, esc uni (d :: suf s (x.p + k + 2)) = some (bs, n) → m ≤ (suf s (x.p + k + 2)).length) → x.p + k + 2 + m ≤ s.size := by
            intro m hm hr h
            have g1 : raw = true → suf s (x.p + k + 1) ≠ [] → m + 1 ≤ (suf s (x.p + k + 1)).length := by
              intro h; rw [hr] at h; cases h
            have g2 : raw = false → ∀ bs n, esc uni (suf s (x.p + k + 1)) = some (bs, n) → m + 1 ≤ (suf s (x.p + k + 1)).length := by
              intro _ bs n h2
              rw [hsuf1] at h2 ⊢
              have := h bs n h2
              simp only [List.length_cons]
              omega
            have := room_of H c hb h92 hsuf hcl (m + 1) (by omega) ⟨g1, g2⟩
            omega
          cases hraw : raw with
          | true => subst hraw; exact round_raw lb fb fp s x q nm true uni ident np z w k l he v wr U H c d hb h92 hbd hs2 hlt1 hcl rfl
          | false =>
            subst hraw
            by_cases e97 : nn d = 97
            · exact round_simple97 lb fb fp s x q nm false uni ident np z w k l he v wr U H c d hb h92 hbd hs2 hlt1 hcl rfl e97
            by_cases e98 : nn d = 98
            · exact round_simple98 lb fb fp s x q nm false uni ident np z w k l he v wr U H c d hb h92 hbd hs2 hlt1 hcl rfl e98
            by_cases e102 : nn d = 102
            · exact round_simple102 lb fb fp s x q nm false uni ident np z w k l he v wr U H c d hb h92 hbd hs2 hlt1 hcl rfl e102
            by_cases e110 : nn d = 110
            · exact round_simple110 lb fb fp s x q nm false uni ident np z w k l he v wr U H c d hb h92 hbd hs2 hlt1 hcl rfl e110
            by_cases e114 : nn d = 114
            · exact round_simple114 lb fb fp s x q nm false uni ident np z w k l he v wr U H c d hb h92 hbd hs2 hlt1 hcl rfl e114
            by_cases e116 : nn d = 116
            · exact round_simple116 lb fb fp s x q nm false uni ident np z w k l he v wr U H c d hb h92 hbd hs2 hlt1 hcl rfl e116
            by_cases e118 : nn d = 118
            · exact round_simple118 lb fb fp s x q nm false uni ident np z w k l he v wr U H c d hb h92 hbd hs2 hlt1 hcl rfl e118
            by_cases e92 : nn d = 92
            · exact round_simple92 lb fb fp s x q nm false uni ident np z w k l he v wr U H c d hb h92 hbd hs2 hlt1 hcl rfl e92
            by_cases e63 : nn d = 63
            · exact round_simple63 lb fb fp s x q nm false uni ident np z w k l he v wr U H c d hb h92 hbd hs2 hlt1 hcl rfl e63
            by_cases e34 : nn d = 34
            · exact round_simple34 lb fb fp s x q nm false uni ident np z w k l he v wr U H c d hb h92 hbd hs2 hlt1 hcl rfl e34
            by_cases e39 : nn d = 39
            · exact round_simple39 lb fb fp s x q nm false uni ident np z w k l he v wr U H c d hb h92 hbd hs2 hlt1 hcl rfl e39
            by_cases e96 : nn d = 96
            · exact round_simple96 lb fb fp s x q nm false uni ident np z w k l he v wr U H c d hb h92 hbd hs2 hlt1 hcl rfl e96
            by_cases ehex : nn d = 120 ∨ nn d = 88
            · have hlt4 := hneed 2 (by omega) rfl (fun bs n h => need_hex ehex h)
              obtain ⟨a, b, ha, hb3, hs4⟩ := two_on s (x.p + k + 2) (by omega)
              have hba : byt s ((x.p + (k + 2) : Nat) : Int) = nn a := by rw [← ha]; congr 1
              have hbb : byt s ((x.p + (k + 3) : Nat) : Int) = nn b := by rw [← hb3]; congr 1
              cases hab : hx (nn a) && hx (nn b) with
              | true =>
                rw [Bool.and_eq_true] at hab
                exact round_hexGood lb fb fp s x q nm false uni ident np z w k l he v wr U H c d hb h92 hbd hs2 hlt1 hcl a b hba hbb hs4 hlt4 rfl ehex hab.1 hab.2
              | false =>
                cases hnp : np with
                | true => subst hnp; exact round_hexPass lb fb fp s x q nm false uni ident true z w k l he v wr U H c d hb h92 hbd hs2 hlt1 hcl a b hba hbb hs4 hlt4 rfl rfl ehex hab
                | false => subst hnp; exact round_hexFault lb fb fp s x q nm false uni ident false z w k l he v wr U H c d hb h92 hbd hs2 hlt1 hcl a b hba hbb hs4 hlt4 rfl rfl ehex hab
            by_cases eoct : nn d = 48 ∨ nn d = 49 ∨ nn d = 50 ∨ nn d = 51
            · have hlt4 := hneed 2 (by omega) rfl (fun bs n h => need_oct eoct h)
              obtain ⟨a, b, ha, hb3, hs4⟩ := two_on s (x.p + k + 2) (by omega)
              have hba : byt s ((x.p + (k + 2) : Nat) : Int) = nn a := by rw [← ha]; congr 1
              have hbb : byt s ((x.p + (k + 3) : Nat) : Int) = nn b := by rw [← hb3]; congr 1
              cases hab : oc (nn a) && oc (nn b) with
              | true =>
                rw [Bool.and_eq_true] at hab
                exact round_octGood lb fb fp s x q nm false uni ident np z w k l he v wr U H c d hb h92 hbd hs2 hlt1 hcl a b hba hbb hs4 hlt4 rfl eoct hab.1 hab.2
              | false =>
                cases hnp : np with
                | true => subst hnp; exact round_octPass lb fb fp s x q nm false uni ident true z w k l he v wr U H c d hb h92 hbd hs2 hlt1 hcl a b hba hbb hs4 hlt4 rfl rfl eoct hab
                | false => subst hnp; exact round_octFault lb fb fp s x q nm false uni ident false z w k l he v wr U H c d hb h92 hbd hs2 hlt1 hcl a b hba hbb hs4 hlt4 rfl rfl eoct hab
            by_cases euni : nn d = 117 ∨ nn d = 85
            · cases huni : uni with
              | false => subst huni; exact round_uniNone lb fb fp s x q nm false false ident np z w k l he v wr U H c d hb h92 hbd hs2 hlt1 hcl rfl rfl euni
              | true =>
                subst huni
                obtain ⟨N, hN⟩ : ∃ N, (nn d = 117 ∧ N = 4) ∨ (nn d = 85 ∧ N = 8) := by
                  rcases euni with h | h
                  · exact ⟨4, .inl ⟨h, rfl⟩⟩
                  · exact ⟨8, .inr ⟨h, rfl⟩⟩
                have hlt4 := hneed N (by rcases hN with ⟨_, h⟩ | ⟨_, h⟩ <;> omega) rfl (fun bs n h => need_uni hN h)
                cases hall : ((suf s (x.p + k + 2)).take N).all (fun c => hx (nn c)) with
                | false =>
                  cases hnp : np with
                  | true => subst hnp; exact round_uniPassDigits lb fb fp s x q nm false true ident true z w k l he v wr U H c d hb h92 hbd hs2 hlt1 hcl N hlt4 rfl rfl hN hall rfl
                  | false => subst hnp; exact round_uniFaultDigits lb fb fp s x q nm false true ident false z w k l he v wr U H c d hb h92 hbd hs2 hlt1 hcl N hlt4 rfl rfl hN hall rfl
                | true =>
                  cases hsc : scalar (dvs 16 ((suf s (x.p + k + 2)).take N)) with
                  | true => exact round_uniGood lb fb fp s x q nm false true ident np z w k l he v wr U H c d hb h92 hbd hs2 hlt1 hcl N hlt4 rfl rfl hN hall _ rfl hsc
                  | false =>
                    cases hnp : np with
                    | true => subst hnp; exact round_uniPassScalar lb fb fp s x q nm false true ident true z w k l he v wr U H c d hb h92 hbd hs2 hlt1 hcl N hlt4 rfl rfl hN hall _ rfl hsc rfl
                    | false => subst hnp; exact round_uniFaultScalar lb fb fp s x q nm false true ident false z w k l he v wr U H c d hb h92 hbd hs2 hlt1 hcl N hlt4 rfl rfl hN hall _ rfl hsc rfl
            refine round_other lb fb fp s x q nm false uni ident np z w k l he v wr U H c d hb h92 hbd hs2 hlt1 hcl rfl ?_
            simp only [otherEsc, Bool.not_eq_true', Bool.or_eq_false_iff, beq_eq_false_iff_ne]
            simp only [not_or] at ehex eoct euni
            exact ⟨⟨⟨⟨⟨⟨⟨⟨⟨⟨⟨⟨⟨⟨⟨⟨⟨⟨⟨e97, e98⟩, e102⟩, e110⟩, e114⟩, e116⟩, e118⟩, e92⟩, e63⟩, e34⟩, e39⟩, e96⟩, ehex.1⟩, ehex.2⟩, euni.1⟩, euni.2⟩, eoct.1⟩, eoct.2.1⟩, eoct.2.2.1⟩, eoct.2.2.2⟩
      · by_cases h10 : nn c = 10 ∧ ¬ q.size = 3
        · exact round_newline lb fb fp s x q nm raw uni ident np z w k l he v wr U H c hb hsuf hlt hcl h10.1 h10.2
        · exact round_char lb fb fp s x q nm raw uni ident np z w k l he v wr U H c hb hsuf hlt hcl h92 (fun h => by
            rcases Nat.decEq q.size 3 with h3 | h3
            · exact absurd ⟨h, h3⟩ h10
            · exact h3)

end Go.Proofs.YtngofbhlhcalpaaGreatDoor.lexer

namespace Go.Proofs.YtngofbhlhcalpaaGreatDoor.lexer
open Go.RowKit Go.Proofs.YtngofbhlhcalpaaGreatDoor.gen
open Go.Proofs.YtngofbhlhcalpaaGreatDoor.upper (bv bv_len)


set_option maxRecDepth 100000 in
set_option maxHeartbeats 16000000 in
theorem quoted_any (lb fb : Nat) (fp s : ByteArray) (x : LX) (q name nm : ByteArray) (raw uni ident np : Bool) (w : World) (hs : s.size ≤ 1048576) (hE : Env w lb fb) (hS : St w lb fb fp s x)
    (hname : name.size ≤ 100) (hq : 0 < q.size ∧ q.size ≤ 3) (hlt : x.p + q.size ≤ s.size) (hnm : nm = if q.size = 3 then ⟨#[116, 114, 105, 112, 108, 101, 45, 113, 117, 111, 116, 101, 100, 32]⟩ ++ name else name) (hid : (nm.toList == [105, 100, 101, 110, 116, 105, 102, 105, 101, 114]) = ident)
    (hok : NB s ∨ ∃ t, qtok q.data.toList raw uni ident kNone (suf s x.p) = .ok t) :
    Calls Tryz.prog 75 #[.pointer (some ⟨lb, 0, none⟩), .string q, .bool raw, .bool uni, .string name, .bool np] w (QuoRes lb fb fp s x q.data.toList raw uni ident np w) := by
  obtain ⟨z, hz⟩ : ∃ z, qr q.data.toList raw uni (suf s (x.p + q.data.toList.length)) = z := ⟨_, rfl⟩
  obtain ⟨hq1, hq2⟩ := hq
  have HZ := Lib.hid hz
  have HS := Lib.hid hS
  have HE := Lib.hid hE
  have HK := Lib.hid hok
  have HI := Lib.hid hid
  have HM := Lib.hid hnm
  have hpz := hS.pz
  clear hz hS hE hok hid hnm
  go_enter Tryz.func75, Tryz.ntmps75
  go_upto_if 33 with fail
  go_cut [4] from 34 to 35 (fun v wx => v = .string nm ∧ w = wx)
  case first =>
    have hQ3 : ((q.size : Int) = 3) ↔ (q.size = 3) := by omega
    by_cases h3 : q.size = 3
    · have hm := HM.out
      rw [if_pos h3] at hm
      have h3' : ((q.size : Int) == 3) = true := by simp; omega
      clear hQ3
      go_wp2_with fail
      go_meet
      exact ⟨by rw [hm], rfl⟩
    · have hm := HM.out
      rw [if_neg h3] at hm
      have h3' : ((q.size : Int) == 3) = false := by simp; omega
      clear hQ3
      go_wp2_with fail
      go_meet
      exact ⟨by rw [hm], rfl⟩
  case rest =>
    obtain ⟨rfl, rfl⟩ := hcut
    go_wp2_with fail
    rename_i K hK
    refine wp_loop (QInv lb fb fp s x q nm raw uni ident np z w) (fun a' _ => Qmu s a') ?_ ?_
    · refine ⟨rfl, q.size, [], false, _, _, ⟨HS.out, HE.out, Frm.refl _ _, OwnC.nil _ _, ⟨by rw [len_list]; exact Nat.le_refl _, hlt, Nat.zero_le _, .inl ⟨rfl, ?_, ?_, ?_⟩⟩, hs, ⟨hq1, hq2⟩, HZ.out, HK.out, HI.out⟩, rfl, rfl⟩
      · rw [← len_list q, HZ.out]; rfl
      · rw [← len_list q, HZ.out]
      · rw [← len_list q, HZ.out]
    rintro ⟨tm, df⟩ wr ⟨hdf, k, l, he, v, L, hC, htm, hL⟩
    obtain ⟨U, rfl⟩ := list_letters L hL
    simp only at hdf htm
    subst hdf htm
    refine wp_mono (round_any lb fb fp s x q nm raw uni ident np z w k l he v wr U hC) ?_
    clear hC hL
    intro e a' w' hP
    cases e with
    | normal => exact hP
    | ret =>
      obtain ⟨h1, h2⟩ := hP

      exact bodyPost_ret (results_tmp2 rfl _ _ _) h1 h2
    | panic chain => exact hP
    | outgrown => exact hP.elim
    | goto g => exact hP.elim
    | exit n =>
      match n, hP with
      | 0, hP =>
        obtain ⟨⟨hdf, k2, l2, he2, v2, L2, hC2, htm, hL2⟩, hge⟩ := hP
        obtain ⟨tm2, df2⟩ := a'
        obtain ⟨U2, rfl⟩ := list_letters L2 hL2
        simp only at hdf htm hge
        subst hdf htm
        unfold QFr uls
        refine hK _ _ ?_
        clear hK
        have hge2 : s.size ≤ x.p + k2 := by
          have : (s.size : Int) ≤ (x.p : Int) + intOf (.int .i64 (k2 : Int)) := hge
          simp only [intOf] at this
          omega
        have hki := hC2.qs.hi
        have hend : qr q.data.toList raw uni (suf s (x.p + k2)) = ([], 0, .unclosed) := by rw [suf_nil s _ hge2, qr_nil]
        have HH := Lib.hid hC2
        have HEn := Lib.hid hend
        have hR := hC2.st'.rd
        have hQk := hC2.qs.lo
        rw [len_list] at hQk
        clear hC2 hend hge
        cases np with
        | true =>
          go_wp2_with fail
          refine (skipN_any lb fb fp s x _ { x with p := x.p + k2 } _ HH.out.st' ⟨by omega, by omega⟩ (by congr 1 <;> omega)).mono ?_
          rintro e w1 ⟨rfl, hS1, hF1⟩
          have hF2 : Frm w w1 [lb] := (HH.out.frm.mono (by simp)).step hF1
          have HS2 := Lib.hid hS1
          clear hS1 hF1
          go_wp2_with fail
          refine bodyPost_ret (results_tmp2 rfl _ _ _) rfl (.inr (.inr ⟨k2, _, _, ?_, rfl, by omega, rfl, HS2.out, hF2⟩))
          rcases HH.out.qs.st with ⟨_, _, _, h3⟩ | ⟨_, h2⟩
          · rw [HEn.out] at h3
            rw [HZ.out]
            exact .inl (by rw [← h3]; simp)
          · rw [HZ.out]; exact h2
        | false =>
          have hbad : ∀ kind, qtok q.data.toList raw uni ident kind (suf s x.p) = .bad 0 := by
            have h1 := HH.out.qs.exact rfl
            rw [HEn.out] at h1
            exact qtok_bad HZ.out 0 (.inr (.inl ⟨h1.2.2.2.symm, rfl⟩))
          have HB := Lib.hid hbad
          clear hbad
          have e2 : IntKind.i64.wrap ((x.p : Int) + (k2 : Int)) = (x.p : Int) + (k2 : Int) := IntWalk.i64_in _ (by omega)
          have c0 : w'.cell? ⟨lb, 0, none⟩ = some (.pointer (some ⟨fb, 0, none⟩)) := hR.c0
          have c9 : w'.cell? ⟨lb, 9, none⟩ = some (.int .i64 (x.p : Int)) := hR.c9
          go_wp2_with fail
          refine region_tail 11 (by kernel_rfl) (by kernel_rfl) fun W hW => ?_
          have HW := Lib.hid (show QCtx lb fb fp s x q nm _ _ ident false z w _ _ _ _ W from hW ▸ HH.out.drewN 1)
          clear hW
          have c9d : W.cell? ⟨lb, 9, none⟩ = some (.int .i64 (x.p : Int)) := HW.out.st'.rd.c9
          simp only [List.take_succ_cons, List.take_zero, List.drop_succ_cons, List.drop_zero]
          repeat still_step
          refine wpStill_nil ?_
          go_wp2_with fail
          refine (errorfAt_int lb fb fp s x _ _ x.p (x.p + k2) _ _ hs (by omega) (by omega) (by omega) (by omega) HW.out.st' HW.out.env').mono ?_
          rintro e w6 ⟨eb, rfl, hea, hl, hf⟩
          go_wp2_with fail
          exact ⟨rfl, .inr (.inl ⟨0, HB.out, rfl, _, rfl, hea, Nat.le_trans HW.out.frm.size hl, (HW.out.frm.mono (by simp)).step (hf.mono (by simp))⟩)⟩
      | n + 1, hP => exact hP.elim

end Go.Proofs.YtngofbhlhcalpaaGreatDoor.lexer
