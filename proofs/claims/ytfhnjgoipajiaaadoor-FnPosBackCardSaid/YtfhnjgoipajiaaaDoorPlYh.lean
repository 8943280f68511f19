/-
  What is written is of good runes; it is read as the same. No statement of the seat is proved here.
-/
import Derived.Test.YtfhnjgoipajiaaaDoorPlW
namespace Go.Proofs.YtfhnjgoipajiaaaDoor.pl
open Go.RowKit Go.Proofs.YtfhnjgoipajiaaaDoor.gen

/-- Good runes alone. -/
def AG (l : List Nat) : Prop := ∀ r ∈ l, GR r
theorem AG.app {a b : List Nat} (ha : AG a) (hb : AG b) : AG (a ++ b) := fun r hr => (List.mem_append.1 hr).elim (ha r) (hb r)
theorem AG.cons {c : Nat} {b : List Nat} (hc : c < 128) (hb : AG b) : AG (c :: b) := fun r hr => by
  rcases List.mem_cons.1 hr with rfl | hr
  · unfold GR; omega
  · exact hb r hr
theorem AG.nil : AG [] := fun r hr => by cases hr
theorem AG.low {l : List Nat} (h : ∀ c ∈ l, c < 128) : AG l := fun r hr => by have := h r hr; unfold GR; omega
theorem AG.num {n : Nat} (hn : n ≤ 9223372036854775807) : AG (D n) := AG.low fun c hc => by have := (D_ok n hn).2.1 c hc; omega

theorem g_ie : ∀ (i : IE), WI cls GR i → AG (pIE D i) := by
  intro i
  induction i with
  | int n => exact fun h => AG.num h
  | len v => intro h; exact AG.app (AG.low (by decide)) (AG.cons (by decide) (AG.app h.good (AG.low (by decide))))
  | ite c t e iht ihe =>
    intro h
    exact AG.cons (by decide) (AG.app (AG.app (AG.app (AG.app (AG.app h.1.good (AG.low (by decide))) (iht h.2.1)) (AG.low (by decide))) (ihe h.2.2)) (AG.low (by decide)))
theorem g_na (a : NA) (h : WA cls GR a) : AG (pNA D a) := by
  cases a with
  | var v => exact h.good
  | last v => exact AG.app h.good (AG.low (by decide))
  | idx v i => exact AG.app h.1.good (AG.cons (by decide) (AG.app (g_ie i h.2) (AG.low (by decide))))
theorem g_nas : ∀ (l : List NA), (∀ a ∈ l, WA cls GR a) → AG (pNAs D l)
  | [], _ => AG.nil
  | a :: r, h => AG.app (AG.app (AG.low (by decide)) (g_na a (h a (List.mem_cons_self ..)))) (g_nas r fun b hb => h b (List.mem_cons_of_mem _ hb))
theorem g_ne (n : NE) (h : WE cls GR n) : AG (pNE D n) := by
  cases n with
  | atom a => exact g_na a h
  | choice a az => exact AG.cons (by decide) (AG.app (AG.app (g_na a h.1) (g_nas az h.2)) (AG.low (by decide)))
theorem g_pa (a : PA) (h : WP cls GR a) : AG (pPA D a) := by
  cases a with
  | var v => exact h.good
  | pos n => exact AG.app (g_ne n h) (AG.cons (by decide) (AG.low (by decide)))
  | end_ n => exact AG.app (g_ne n h) (AG.cons (by decide) (AG.low (by decide)))
theorem g_is : ∀ (l : List IE), (∀ i ∈ l, WI cls GR i) → AG (pIs D l)
  | [], _ => AG.nil
  | a :: r, h => AG.app (AG.app (AG.low (by decide)) (g_ie a (h a (List.mem_cons_self ..)))) (g_is r fun b hb => h b (List.mem_cons_of_mem _ hb))
theorem g_ps (s : PS) (h : WS cls GR s) : AG (pPS D s) := AG.app (g_pa s.a h.a) (g_is s.is h.is)
theorem g_pss : ∀ (l : List PS), (∀ a ∈ l, WS cls GR a) → AG (pPSs D l)
  | [], _ => AG.nil
  | a :: r, h => AG.app (AG.app (AG.low (by decide)) (g_ps a (h a (List.mem_cons_self ..)))) (g_pss r fun b hb => h b (List.mem_cons_of_mem _ hb))
theorem g_pc (e : PC) (h : WC cls GR e) : AG (print D e) := AG.app (g_ps e.s h.s) (g_pss e.ss h.ss)

/-- WHAT IS WRITTEN IS READ AS THE SAME. -/
theorem back (e : PC) (h : WC cls GR e) : parse cls (runesOf (B (uPC e))) = some e := by
  rw [← u_pc e h]
  show parse cls (runesOf ⟨(enc (print D e)).toArray⟩) = some e
  rw [runesOf_enc _ (g_pc e h)]
  exact parse_print cls_ok D_ok e h

end Go.Proofs.YtfhnjgoipajiaaaDoor.pl
