/-
  The texts of a tree of the language of positions; the calls through its interfaces give them. Printed by uns_gen.py. No statement of the seat is proved here.
-/
import Derived.Test.YtfhnjgoipajiaaaDoorPlQ
import Derived.Laws.Concat
namespace Go.Proofs.YtfhnjgoipajiaaaDoor.pl
open Go.RowKit Go.Proofs.YtfhnjgoipajiaaaDoor.gen

theorem inv_Var_Unparse {W : World} {b : Nat} {args : List Value} {T : ByteArray} (h : ∀ W', Below W.heap.size W W' → Calls Tryd.prog 75 (.pointer (some ⟨b, 0, none⟩) :: args).toArray W' (Ret T W')) : Inv W (.iface 50 (.pointer (some ⟨b, 0, none⟩))) "Unparse" args T :=
  ⟨_, _, 75, rfl, fun w => by kernel_rfl, fun rs w => by kernel_rfl, h⟩
theorem inv_Var_PosExprToGo {W : World} {b : Nat} {args : List Value} {T : ByteArray} (h : ∀ W', Below W.heap.size W W' → Calls Tryd.prog 74 (.pointer (some ⟨b, 0, none⟩) :: args).toArray W' (Ret T W')) : Inv W (.iface 50 (.pointer (some ⟨b, 0, none⟩))) "PosExprToGo" args T :=
  ⟨_, _, 74, rfl, fun w => by kernel_rfl, fun rs w => by kernel_rfl, h⟩
theorem inv_Var_NodeExprToGo {W : World} {b : Nat} {args : List Value} {T : ByteArray} (h : ∀ W', Below W.heap.size W W' → Calls Tryd.prog 110 (.pointer (some ⟨b, 0, none⟩) :: args).toArray W' (Ret T W')) : Inv W (.iface 50 (.pointer (some ⟨b, 0, none⟩))) "NodeExprToGo" args T :=
  ⟨_, _, 110, rfl, fun w => by kernel_rfl, fun rs w => by kernel_rfl, h⟩
theorem inv_Var_NodeSliceExprToGo {W : World} {b : Nat} {args : List Value} {T : ByteArray} (h : ∀ W', Below W.heap.size W W' → Calls Tryd.prog 111 (.pointer (some ⟨b, 0, none⟩) :: args).toArray W' (Ret T W')) : Inv W (.iface 50 (.pointer (some ⟨b, 0, none⟩))) "NodeSliceExprToGo" args T :=
  ⟨_, _, 111, rfl, fun w => by kernel_rfl, fun rs w => by kernel_rfl, h⟩
theorem inv_Var_BoolExprToGo {W : World} {b : Nat} {args : List Value} {T : ByteArray} (h : ∀ W', Below W.heap.size W W' → Calls Tryd.prog 109 (.pointer (some ⟨b, 0, none⟩) :: args).toArray W' (Ret T W')) : Inv W (.iface 50 (.pointer (some ⟨b, 0, none⟩))) "BoolExprToGo" args T :=
  ⟨_, _, 109, rfl, fun w => by kernel_rfl, fun rs w => by kernel_rfl, h⟩
theorem inv_Var_StringExprToGo {W : World} {b : Nat} {args : List Value} {T : ByteArray} (h : ∀ W', Below W.heap.size W W' → Calls Tryd.prog 112 (.pointer (some ⟨b, 0, none⟩) :: args).toArray W' (Ret T W')) : Inv W (.iface 50 (.pointer (some ⟨b, 0, none⟩))) "StringExprToGo" args T :=
  ⟨_, _, 112, rfl, fun w => by kernel_rfl, fun rs w => by kernel_rfl, h⟩
theorem inv_NodePos_Unparse {W : World} {b : Nat} {args : List Value} {T : ByteArray} (h : ∀ W', Below W.heap.size W W' → Calls Tryd.prog 77 (.pointer (some ⟨b, 0, none⟩) :: args).toArray W' (Ret T W')) : Inv W (.iface 53 (.pointer (some ⟨b, 0, none⟩))) "Unparse" args T :=
  ⟨_, _, 77, rfl, fun w => by kernel_rfl, fun rs w => by kernel_rfl, h⟩
theorem inv_NodePos_PosExprToGo {W : World} {b : Nat} {args : List Value} {T : ByteArray} (h : ∀ W', Below W.heap.size W W' → Calls Tryd.prog 76 (.pointer (some ⟨b, 0, none⟩) :: args).toArray W' (Ret T W')) : Inv W (.iface 53 (.pointer (some ⟨b, 0, none⟩))) "PosExprToGo" args T :=
  ⟨_, _, 76, rfl, fun w => by kernel_rfl, fun rs w => by kernel_rfl, h⟩
theorem inv_NodeEnd_Unparse {W : World} {b : Nat} {args : List Value} {T : ByteArray} (h : ∀ W', Below W.heap.size W W' → Calls Tryd.prog 79 (.pointer (some ⟨b, 0, none⟩) :: args).toArray W' (Ret T W')) : Inv W (.iface 58 (.pointer (some ⟨b, 0, none⟩))) "Unparse" args T :=
  ⟨_, _, 79, rfl, fun w => by kernel_rfl, fun rs w => by kernel_rfl, h⟩
theorem inv_NodeEnd_PosExprToGo {W : World} {b : Nat} {args : List Value} {T : ByteArray} (h : ∀ W', Below W.heap.size W W' → Calls Tryd.prog 78 (.pointer (some ⟨b, 0, none⟩) :: args).toArray W' (Ret T W')) : Inv W (.iface 58 (.pointer (some ⟨b, 0, none⟩))) "PosExprToGo" args T :=
  ⟨_, _, 78, rfl, fun w => by kernel_rfl, fun rs w => by kernel_rfl, h⟩
theorem inv_PosChoice_Unparse {W : World} {b : Nat} {args : List Value} {T : ByteArray} (h : ∀ W', Below W.heap.size W W' → Calls Tryd.prog 81 (.pointer (some ⟨b, 0, none⟩) :: args).toArray W' (Ret T W')) : Inv W (.iface 60 (.pointer (some ⟨b, 0, none⟩))) "Unparse" args T :=
  ⟨_, _, 81, rfl, fun w => by kernel_rfl, fun rs w => by kernel_rfl, h⟩
theorem inv_PosChoice_PosExprToGo {W : World} {b : Nat} {args : List Value} {T : ByteArray} (h : ∀ W', Below W.heap.size W W' → Calls Tryd.prog 80 (.pointer (some ⟨b, 0, none⟩) :: args).toArray W' (Ret T W')) : Inv W (.iface 60 (.pointer (some ⟨b, 0, none⟩))) "PosExprToGo" args T :=
  ⟨_, _, 80, rfl, fun w => by kernel_rfl, fun rs w => by kernel_rfl, h⟩
theorem inv_PosAdd_Unparse {W : World} {b : Nat} {args : List Value} {T : ByteArray} (h : ∀ W', Below W.heap.size W W' → Calls Tryd.prog 93 (.pointer (some ⟨b, 0, none⟩) :: args).toArray W' (Ret T W')) : Inv W (.iface 68 (.pointer (some ⟨b, 0, none⟩))) "Unparse" args T :=
  ⟨_, _, 93, rfl, fun w => by kernel_rfl, fun rs w => by kernel_rfl, h⟩
theorem inv_PosAdd_PosExprToGo {W : World} {b : Nat} {args : List Value} {T : ByteArray} (h : ∀ W', Below W.heap.size W W' → Calls Tryd.prog 92 (.pointer (some ⟨b, 0, none⟩) :: args).toArray W' (Ret T W')) : Inv W (.iface 68 (.pointer (some ⟨b, 0, none⟩))) "PosExprToGo" args T :=
  ⟨_, _, 92, rfl, fun w => by kernel_rfl, fun rs w => by kernel_rfl, h⟩
theorem inv_NodeChoice_Unparse {W : World} {b : Nat} {args : List Value} {T : ByteArray} (h : ∀ W', Below W.heap.size W W' → Calls Tryd.prog 91 (.pointer (some ⟨b, 0, none⟩) :: args).toArray W' (Ret T W')) : Inv W (.iface 64 (.pointer (some ⟨b, 0, none⟩))) "Unparse" args T :=
  ⟨_, _, 91, rfl, fun w => by kernel_rfl, fun rs w => by kernel_rfl, h⟩
theorem inv_NodeChoice_NodeExprToGo {W : World} {b : Nat} {args : List Value} {T : ByteArray} (h : ∀ W', Below W.heap.size W W' → Calls Tryd.prog 90 (.pointer (some ⟨b, 0, none⟩) :: args).toArray W' (Ret T W')) : Inv W (.iface 64 (.pointer (some ⟨b, 0, none⟩))) "NodeExprToGo" args T :=
  ⟨_, _, 90, rfl, fun w => by kernel_rfl, fun rs w => by kernel_rfl, h⟩
theorem inv_NodeSliceIndex_Unparse {W : World} {b : Nat} {args : List Value} {T : ByteArray} (h : ∀ W', Below W.heap.size W W' → Calls Tryd.prog 95 (.pointer (some ⟨b, 0, none⟩) :: args).toArray W' (Ret T W')) : Inv W (.iface 73 (.pointer (some ⟨b, 0, none⟩))) "Unparse" args T :=
  ⟨_, _, 95, rfl, fun w => by kernel_rfl, fun rs w => by kernel_rfl, h⟩
theorem inv_NodeSliceIndex_NodeExprToGo {W : World} {b : Nat} {args : List Value} {T : ByteArray} (h : ∀ W', Below W.heap.size W W' → Calls Tryd.prog 94 (.pointer (some ⟨b, 0, none⟩) :: args).toArray W' (Ret T W')) : Inv W (.iface 73 (.pointer (some ⟨b, 0, none⟩))) "NodeExprToGo" args T :=
  ⟨_, _, 94, rfl, fun w => by kernel_rfl, fun rs w => by kernel_rfl, h⟩
theorem inv_NodeSliceLast_Unparse {W : World} {b : Nat} {args : List Value} {T : ByteArray} (h : ∀ W', Below W.heap.size W W' → Calls Tryd.prog 97 (.pointer (some ⟨b, 0, none⟩) :: args).toArray W' (Ret T W')) : Inv W (.iface 78 (.pointer (some ⟨b, 0, none⟩))) "Unparse" args T :=
  ⟨_, _, 97, rfl, fun w => by kernel_rfl, fun rs w => by kernel_rfl, h⟩
theorem inv_NodeSliceLast_NodeExprToGo {W : World} {b : Nat} {args : List Value} {T : ByteArray} (h : ∀ W', Below W.heap.size W W' → Calls Tryd.prog 96 (.pointer (some ⟨b, 0, none⟩) :: args).toArray W' (Ret T W')) : Inv W (.iface 78 (.pointer (some ⟨b, 0, none⟩))) "NodeExprToGo" args T :=
  ⟨_, _, 96, rfl, fun w => by kernel_rfl, fun rs w => by kernel_rfl, h⟩
theorem inv_Len_Unparse {W : World} {b : Nat} {args : List Value} {T : ByteArray} (h : ∀ W', Below W.heap.size W W' → Calls Tryd.prog 99 (.pointer (some ⟨b, 0, none⟩) :: args).toArray W' (Ret T W')) : Inv W (.iface 81 (.pointer (some ⟨b, 0, none⟩))) "Unparse" args T :=
  ⟨_, _, 99, rfl, fun w => by kernel_rfl, fun rs w => by kernel_rfl, h⟩
theorem inv_Len_IntExprToGo {W : World} {b : Nat} {args : List Value} {T : ByteArray} (h : ∀ W', Below W.heap.size W W' → Calls Tryd.prog 98 (.pointer (some ⟨b, 0, none⟩) :: args).toArray W' (Ret T W')) : Inv W (.iface 81 (.pointer (some ⟨b, 0, none⟩))) "IntExprToGo" args T :=
  ⟨_, _, 98, rfl, fun w => by kernel_rfl, fun rs w => by kernel_rfl, h⟩
theorem inv_IntLiteral_Unparse {W : World} {b : Nat} {args : List Value} {T : ByteArray} (h : ∀ W', Below W.heap.size W W' → Calls Tryd.prog 101 (.pointer (some ⟨b, 0, none⟩) :: args).toArray W' (Ret T W')) : Inv W (.iface 86 (.pointer (some ⟨b, 0, none⟩))) "Unparse" args T :=
  ⟨_, _, 101, rfl, fun w => by kernel_rfl, fun rs w => by kernel_rfl, h⟩
theorem inv_IntLiteral_IntExprToGo {W : World} {b : Nat} {args : List Value} {T : ByteArray} (h : ∀ W', Below W.heap.size W W' → Calls Tryd.prog 100 (.pointer (some ⟨b, 0, none⟩) :: args).toArray W' (Ret T W')) : Inv W (.iface 86 (.pointer (some ⟨b, 0, none⟩))) "IntExprToGo" args T :=
  ⟨_, _, 100, rfl, fun w => by kernel_rfl, fun rs w => by kernel_rfl, h⟩
theorem inv_IfThenElse_Unparse {W : World} {b : Nat} {args : List Value} {T : ByteArray} (h : ∀ W', Below W.heap.size W W' → Calls Tryd.prog 103 (.pointer (some ⟨b, 0, none⟩) :: args).toArray W' (Ret T W')) : Inv W (.iface 89 (.pointer (some ⟨b, 0, none⟩))) "Unparse" args T :=
  ⟨_, _, 103, rfl, fun w => by kernel_rfl, fun rs w => by kernel_rfl, h⟩
theorem inv_IfThenElse_IntExprToGo {W : World} {b : Nat} {args : List Value} {T : ByteArray} (h : ∀ W', Below W.heap.size W W' → Calls Tryd.prog 102 (.pointer (some ⟨b, 0, none⟩) :: args).toArray W' (Ret T W')) : Inv W (.iface 89 (.pointer (some ⟨b, 0, none⟩))) "IntExprToGo" args T :=
  ⟨_, _, 102, rfl, fun w => by kernel_rfl, fun rs w => by kernel_rfl, h⟩

/-- A text of bytes. -/
def B (l : List UInt8) : ByteArray := ⟨l.toArray⟩
theorem B_size (l : List UInt8) : (B l).size = l.length := by show l.toArray.size = _; rw [List.size_toArray]
theorem B_app (a b : List UInt8) : B a ++ B b = B (a ++ b) := ByteArray.mk_append_mk a b

/-- What Unparse writes, what the ToGo methods write. -/
def uIE : IE → List UInt8
  | .int n => Lib.itoa (n : Int)
  | .len v => ((([108, 101, 110, 40] : List UInt8) ++ enc v) ++ ([41] : List UInt8))
  | .ite c t e => ((((((([40] : List UInt8) ++ enc c) ++ ([32, 63, 32] : List UInt8)) ++ uIE t) ++ ([32, 58, 32] : List UInt8)) ++ uIE e) ++ ([41] : List UInt8))
def gIE (x : List UInt8) : IE → List UInt8
  | .int n => Lib.itoa (n : Int)
  | .len v => ((([108, 101, 110, 40] : List UInt8) ++ ((x ++ ([46] : List UInt8)) ++ enc v)) ++ ([41] : List UInt8))
  | .ite c t e => ((((((([105, 102, 84, 104, 101, 110, 69, 108, 115, 101, 40] : List UInt8) ++ ((x ++ ([46] : List UInt8)) ++ enc c)) ++ ([44, 32] : List UInt8)) ++ gIE x t) ++ ([44, 32] : List UInt8)) ++ gIE x e) ++ ([41] : List UInt8))
def uNA : NA → List UInt8
  | .var v => enc v
  | .last v => (enc v ++ ([91, 36, 93] : List UInt8))
  | .idx v i => (((enc v ++ ([91] : List UInt8)) ++ uIE i) ++ ([93] : List UInt8))
def gNA (x : List UInt8) : NA → List UInt8
  | .var v => ((((([119, 114, 97, 112, 78, 111, 100, 101, 40] : List UInt8) ++ x) ++ ([46] : List UInt8)) ++ enc v) ++ ([41] : List UInt8))
  | .last v => ((([110, 111, 100, 101, 83, 108, 105, 99, 101, 76, 97, 115, 116, 40] : List UInt8) ++ ((x ++ ([46] : List UInt8)) ++ enc v)) ++ ([41] : List UInt8))
  | .idx v i => ((((([110, 111, 100, 101, 83, 108, 105, 99, 101, 73, 110, 100, 101, 120, 40] : List UInt8) ++ ((x ++ ([46] : List UInt8)) ++ enc v)) ++ ([44, 32] : List UInt8)) ++ gIE x i) ++ ([41] : List UInt8))
def uNE : NE → List UInt8
  | .atom a => uNA a
  | .choice a az => ((([40] : List UInt8) ++ Lib.join ((a :: az).map uNA) [32, 63, 63, 32]) ++ ([41] : List UInt8))
def gNE (x : List UInt8) : NE → List UInt8
  | .atom a => gNA x a
  | .choice a az => ((([110, 111, 100, 101, 67, 104, 111, 105, 99, 101, 40] : List UInt8) ++ Lib.join ((a :: az).map (gNA x)) [44, 32]) ++ ([41] : List UInt8))
def uPA : PA → List UInt8
  | .var v => enc v
  | .pos n => (uNE n ++ ([46, 112, 111, 115] : List UInt8))
  | .end_ n => (uNE n ++ ([46, 101, 110, 100] : List UInt8))
def gPA (x : List UInt8) : PA → List UInt8
  | .var v => ((x ++ ([46] : List UInt8)) ++ enc v)
  | .pos n => ((([110, 111, 100, 101, 80, 111, 115, 40] : List UInt8) ++ gNE x n) ++ ([41] : List UInt8))
  | .end_ n => ((([110, 111, 100, 101, 69, 110, 100, 40] : List UInt8) ++ gNE x n) ++ ([41] : List UInt8))
def uAd (a : PA) : List IE → List UInt8
  | [] => uPA a
  | i :: r => ((uAd a r ++ ([32, 43, 32] : List UInt8)) ++ uIE i)
def gAd (x : List UInt8) (a : PA) : List IE → List UInt8
  | [] => gPA x a
  | i :: r => ((((([112, 111, 115, 65, 100, 100, 40] : List UInt8) ++ gAd x a r) ++ ([44, 32] : List UInt8)) ++ gIE x i) ++ ([41] : List UInt8))
def uPS (s : PS) : List UInt8 := uAd s.a s.is.reverse
def gPS (x : List UInt8) (s : PS) : List UInt8 := gAd x s.a s.is.reverse
def uPC (e : PC) : List UInt8 := if e.ss = [] then uPS e.s else Lib.join ((e.s :: e.ss).map uPS) [32, 124, 124, 32]
def gPC (x : List UInt8) (e : PC) : List UInt8 := if e.ss = [] then gPS x e.s else ((([112, 111, 115, 67, 104, 111, 105, 99, 101, 40] : List UInt8) ++ Lib.join ((e.s :: e.ss).map (gPS x)) [44, 32]) ++ ([41] : List UInt8))




theorem moved {W W' : World} {b : Nat} {o : Obj} (h : W.heap[b]? = some o) (hb : Below W.heap.size W W') : W'.heap[b]? = some o := (hb.block b (block_lt h)).trans h

theorem var_unp {W : World} {pb : Nat} {v : Value} {s : List Nat} (h : VarAt W pb v s) : Inv W (.iface 50 v) "Unparse" [] (B (enc s)) := by
  obtain ⟨b, rfl, _, hc⟩ := h
  exact inv_Var_Unparse fun W' hb => Var_Unparse_c b _ W' (moved hc hb)
theorem var_PosExprToGo {W : World} {pb : Nat} {v : Value} {s : List Nat} (x : List UInt8) (hl : (((x ++ ([46] : List UInt8)) ++ enc s)).length ≤ 1099511627776) (h : VarAt W pb v s) : Inv W (.iface 50 v) "PosExprToGo" [.string (B x)] (B ((x ++ ([46] : List UInt8)) ++ enc s)) := by
  obtain ⟨b, rfl, _, hc⟩ := h
  simp only [List.length_append] at hl
  refine inv_Var_PosExprToGo fun W' hb => ?_
  have := Var_PosExprToGo_c b (B x) (B (enc s)) W' (by rw [B_size]; omega) (by rw [B_size]; omega) (moved hc hb)
  exact this
theorem var_NodeExprToGo {W : World} {pb : Nat} {v : Value} {s : List Nat} (x : List UInt8) (hl : (((((([119, 114, 97, 112, 78, 111, 100, 101, 40] : List UInt8) ++ x) ++ ([46] : List UInt8)) ++ enc s) ++ ([41] : List UInt8))).length ≤ 1099511627776) (h : VarAt W pb v s) : Inv W (.iface 50 v) "NodeExprToGo" [.string (B x)] (B ((((([119, 114, 97, 112, 78, 111, 100, 101, 40] : List UInt8) ++ x) ++ ([46] : List UInt8)) ++ enc s) ++ ([41] : List UInt8))) := by
  obtain ⟨b, rfl, _, hc⟩ := h
  simp only [List.length_append] at hl
  refine inv_Var_NodeExprToGo fun W' hb => ?_
  have := Var_NodeExprToGo_c b (B x) (B (enc s)) W' (by rw [B_size]; omega) (by rw [B_size]; omega) (moved hc hb)
  exact this
theorem var_NodeSliceExprToGo {W : World} {pb : Nat} {v : Value} {s : List Nat} (x : List UInt8) (hl : (((x ++ ([46] : List UInt8)) ++ enc s)).length ≤ 1099511627776) (h : VarAt W pb v s) : Inv W (.iface 50 v) "NodeSliceExprToGo" [.string (B x)] (B ((x ++ ([46] : List UInt8)) ++ enc s)) := by
  obtain ⟨b, rfl, _, hc⟩ := h
  simp only [List.length_append] at hl
  refine inv_Var_NodeSliceExprToGo fun W' hb => ?_
  have := Var_NodeSliceExprToGo_c b (B x) (B (enc s)) W' (by rw [B_size]; omega) (by rw [B_size]; omega) (moved hc hb)
  exact this
theorem var_BoolExprToGo {W : World} {pb : Nat} {v : Value} {s : List Nat} (x : List UInt8) (hl : (((x ++ ([46] : List UInt8)) ++ enc s)).length ≤ 1099511627776) (h : VarAt W pb v s) : Inv W (.iface 50 v) "BoolExprToGo" [.string (B x)] (B ((x ++ ([46] : List UInt8)) ++ enc s)) := by
  obtain ⟨b, rfl, _, hc⟩ := h
  simp only [List.length_append] at hl
  refine inv_Var_BoolExprToGo fun W' hb => ?_
  have := Var_BoolExprToGo_c b (B x) (B (enc s)) W' (by rw [B_size]; omega) (by rw [B_size]; omega) (moved hc hb)
  exact this
theorem var_StringExprToGo {W : World} {pb : Nat} {v : Value} {s : List Nat} (x : List UInt8) (hl : (((x ++ ([46] : List UInt8)) ++ enc s)).length ≤ 1099511627776) (h : VarAt W pb v s) : Inv W (.iface 50 v) "StringExprToGo" [.string (B x)] (B ((x ++ ([46] : List UInt8)) ++ enc s)) := by
  obtain ⟨b, rfl, _, hc⟩ := h
  simp only [List.length_append] at hl
  refine inv_Var_StringExprToGo fun W' hb => ?_
  have := Var_StringExprToGo_c b (B x) (B (enc s)) W' (by rw [B_size]; omega) (by rw [B_size]; omega) (moved hc hb)
  exact this

theorem ie_unp : ∀ (i : IE) (v : Value) (W : World) (pb : Nat), IEAt W pb i v → Ctx W → WI cls GR i → (uIE i).length ≤ 1099511627776 → Inv W v "Unparse" [] (B (uIE i)) := by
  intro i
  induction i with
  | int n =>
    rintro v W pb ⟨b, rfl, _, hc⟩ hC hw _
    exact inv_IntLiteral_Unparse fun W' hb => IntLiteral_Unparse_c b n W' hw (hC.below hb) (moved hc hb)
  | len s =>
    rintro v W pb ⟨b, u, rfl, _, hc, hu⟩ hC hw hl
    unfold uIE at hl
    simp only [List.length_append] at hl
    exact inv_Len_Unparse fun W' hb => Len_Unparse_c b _ (B (enc s)) W' (by rw [B_size]; omega) (moved hc hb) ((var_unp hu).on hb)
  | ite c t e iht ihe =>
    rintro v W pb ⟨b, u, v1, v2, rfl, _, hc, hu, h1, h2⟩ hC hw hl
    unfold uIE at hl
    simp only [List.length_append] at hl
    exact inv_IfThenElse_Unparse fun W' hb => IfThenElse_Unparse_c b _ _ _ (B (enc c)) (B (uIE t)) (B (uIE e)) W' (by rw [B_size]; omega) (by rw [B_size]; omega) (by rw [B_size]; omega) (moved hc hb) ((var_unp hu).on hb) ((iht _ _ _ h1 hC hw.2.1 (by omega)).on hb) ((ihe _ _ _ h2 hC hw.2.2 (by omega)).on hb)
theorem ie_go (x : List UInt8) : ∀ (i : IE) (v : Value) (W : World) (pb : Nat), IEAt W pb i v → Ctx W → WI cls GR i → x.length + (gIE x i).length ≤ 1099511627776 → Inv W v "IntExprToGo" [.string (B x)] (B (gIE x i)) := by
  intro i
  induction i with
  | int n =>
    rintro v W pb ⟨b, rfl, _, hc⟩ hC hw _
    exact inv_IntLiteral_IntExprToGo fun W' hb => IntLiteral_IntExprToGo_c b (B x) n W' hw (hC.below hb) (moved hc hb)
  | len s =>
    rintro v W pb ⟨b, u, rfl, _, hc, hu⟩ hC hw hl
    unfold gIE at hl
    simp only [List.length_append] at hl
    exact inv_Len_IntExprToGo fun W' hb => Len_IntExprToGo_c b _ (B x) (B _) W' (by rw [B_size]; simp only [List.length_append]; omega) (moved hc hb) ((var_StringExprToGo x (by simp only [List.length_append]; omega) hu).on hb)
  | ite c t e iht ihe =>
    rintro v W pb ⟨b, u, v1, v2, rfl, _, hc, hu, h1, h2⟩ hC hw hl
    unfold gIE at hl
    simp only [List.length_append] at hl
    exact inv_IfThenElse_IntExprToGo fun W' hb => IfThenElse_IntExprToGo_c b _ _ _ (B x) (B _) (B (gIE x t)) (B (gIE x e)) W' (by rw [B_size]; simp only [List.length_append]; omega) (by rw [B_size]; omega) (by rw [B_size]; omega) (moved hc hb) ((var_BoolExprToGo x (by simp only [List.length_append]; omega) hu).on hb) ((iht _ _ _ h1 hC hw.2.1 (by omega)).on hb) ((ihe _ _ _ h2 hC hw.2.2 (by omega)).on hb)

end Go.Proofs.YtfhnjgoipajiaaaDoor.pl
