/-
  Positions as plain data, in memory. No statement of the seat is proved here.
-/
import Derived.Test.YtfhnjgoipajiaaaDoorPlX
namespace Go.Proofs.YtfhnjgoipajiaaaDoor.pl
open Go.RowKit Go.Proofs.YtfhnjgoipajiaaaDoor.gen

/-- A position as plain data. -/
inductive PT where
  | mk (kind name : List UInt8) (n : Nat) (args : List PT)
def PT.kind : PT → List UInt8 | .mk k _ _ _ => k
def PT.name : PT → List UInt8 | .mk _ m _ _ => m
def PT.n : PT → Nat | .mk _ _ n _ => n
def PT.args : PT → List PT | .mk _ _ _ a => a

def ptVar (v : List Nat) : PT := .mk [118, 97, 114] (enc v) 0 []
def ptIE : IE → PT
  | .int n => .mk [105, 110, 116] [] n []
  | .len v => .mk [108, 101, 110] [] 0 [ptVar v]
  | .ite c t e => .mk [105, 102] [] 0 [ptVar c, ptIE t, ptIE e]
def ptNA : NA → PT
  | .var v => ptVar v
  | .last v => .mk [108, 97, 115, 116] [] 0 [ptVar v]
  | .idx v i => .mk [105, 110, 100, 101, 120] [] 0 [ptVar v, ptIE i]
def ptNE : NE → PT
  | .atom a => ptNA a
  | .choice a az => .mk [110, 111, 100, 101, 115] [] 0 ((a :: az).map ptNA)
def ptPA : PA → PT
  | .var v => ptVar v
  | .pos n => .mk [112, 111, 115] [] 0 [ptNE n]
  | .end_ n => .mk [101, 110, 100] [] 0 [ptNE n]
def ptAd (a : PA) : List IE → PT
  | [] => ptPA a
  | i :: r => .mk [97, 100, 100] [] 0 [ptAd a r, ptIE i]
def ptPS (s : PS) : PT := ptAd s.a s.is.reverse
def ptPC (e : PC) : PT := if e.ss = [] then ptPS e.s else .mk [99, 104, 111, 105, 99, 101] [] 0 ((e.s :: e.ss).map ptPS)

/-- Some positions, in a slice; its rows' blocks are told by 'ok'. -/
inductive ArgsAt (w : World) (ok : Nat → Prop) : Value → List PT → Prop
  | nil : ArgsAt w ok (.slice none 0 0) []
  | row (g cap : Nat) (ts : List PT) (f : Nat → Value) (hok : ok g) (hlt : g < w.heap.size) (hz : ts.length ≤ 1099511627776)
      (hc : ∀ (k : Nat) t, ts[k]? = some t → w.cell? ⟨g, k * 4, none⟩ = some (.string (B t.kind)) ∧ w.cell? ⟨g, k * 4 + 1, none⟩ = some (.string (B t.name)) ∧ w.cell? ⟨g, k * 4 + 2, none⟩ = some (.int .i64 (t.n : Int)) ∧ w.cell? ⟨g, k * 4 + 3, none⟩ = some (f k))
      (ha : ∀ (k : Nat) t, ts[k]? = some t → ArgsAt w ok (f k) t.args) : ArgsAt w ok (.slice (some ⟨g, 0, none⟩) ts.length cap) ts

theorem ArgsAt.mono {w : World} {ok ok' : Nat → Prop} {v : Value} {ts : List PT} (h : ArgsAt w ok v ts) (hi : ∀ g, ok g → g < w.heap.size → ok' g) : ArgsAt w ok' v ts := by
  induction h with
  | nil => exact .nil
  | row g cap ts f hok hlt hz hc _ ih => exact .row g cap ts f (hi g hok hlt) hlt hz hc ih
theorem ArgsAt.frm {w w' : World} {ok : Nat → Prop} {S : List Nat} {v : Value} {ts : List PT} (h : ArgsAt w ok v ts) (hf : Frm w w' S) (hS : ∀ x, x ∈ S → ¬ ok x) : ArgsAt w' ok v ts := by
  induction h with
  | nil => exact .nil
  | row g cap ts f hok hlt hz hc _ ih =>
    have hb := hf.block g hlt (fun hm => hS g hm hok)
    refine .row g cap ts f hok (Nat.lt_of_lt_of_le hlt hf.size) hz (fun k t hk => ?_) ih
    obtain ⟨h0, h1, h2, h3⟩ := hc k t hk
    have e : ∀ i, w'.cell? ⟨g, i, none⟩ = w.cell? ⟨g, i, none⟩ := fun i => World.cell?_of_block hb
    exact ⟨(e _).trans h0, (e _).trans h1, (e _).trans h2, (e _).trans h3⟩
theorem ArgsAt.on {w w' : World} {ok : Nat → Prop} {v : Value} {ts : List PT} (h : ArgsAt w ok v ts) (hb : Below w.heap.size w w') : ArgsAt w' ok v ts := h.frm (Frm.ofBelow hb []) (by simp)
theorem ArgsAt.shape {w : World} {ok : Nat → Prop} {v : Value} {ts : List PT} (h : ArgsAt w ok v ts) : ∃ a cap, v = .slice a ts.length cap := by
  cases h with
  | nil => exact ⟨_, _, rfl⟩
  | row g cap ts f _ _ _ _ _ => exact ⟨_, _, rfl⟩

theorem ArgsAt.small {w : World} {ok : Nat → Prop} {v : Value} {ts : List PT} (h : ArgsAt w ok v ts) : ts.length ≤ 1099511627776 := by
  cases h with
  | nil => simp
  | row g cap ts f _ _ hz _ _ => exact hz
/-- One of them. -/
theorem ArgsAt.at_ {w : World} {ok : Nat → Prop} {v : Value} {ts : List PT} (h : ArgsAt w ok v ts) (k : Nat) (u : PT) (hk : ts[k]? = some u) :
    ∃ g cap av, v = .slice (some ⟨g, 0, none⟩) ts.length cap ∧ g < w.heap.size ∧ (w.cell? ⟨g, k * 4, none⟩ = some (.string (B u.kind)) ∧ w.cell? ⟨g, k * 4 + 1, none⟩ = some (.string (B u.name)) ∧ w.cell? ⟨g, k * 4 + 2, none⟩ = some (.int .i64 (u.n : Int)) ∧ w.cell? ⟨g, k * 4 + 3, none⟩ = some av) ∧ ArgsAt w ok av u.args := by
  cases h with
  | nil => simp at hk
  | row g cap ts f hok hlt hz hc ha => exact ⟨g, cap, f k, rfl, hlt, hc k u hk, ha k u hk⟩

/-- A position as a value. -/
def PTVal (t : PT) (av : Value) : Value := .agg #[.string (B t.kind), .string (B t.name), .int .i64 (t.n : Int), av]

/-- What posOf gives. -/
def PosRes (t : PT) (w : World) (e : Ending) (w' : World) : Prop := ∃ av, e = .returned (PTVal t av) ∧ ArgsAt w' (fun g => w.heap.size ≤ g) av t.args ∧ Below w.heap.size w w'

end Go.Proofs.YtfhnjgoipajiaaaDoor.pl
