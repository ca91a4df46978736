import PyProof.Rows.All
import Wide.All
import OpenK.AllK
import Wide.FinOn
import Lean
import PySem.Challenge.RW_nq0086_01
set_option Elab.async false
set_option linter.unusedSectionVars false
set_option linter.unusedVariables false
set_option bootstrap.genMatcherCode false
set_option genSizeOfSpec false
set_option genSizeOf false
set_option genCtorIdx false
set_option genInjectivity false
section TA0
open PySem PySem.W PyProof.Rows
namespace Mine
theorem no_some {α : Type} {x : α} {P : Prop} (h : (none : Option α) = some x) : P := by cases h
theorem no_both {α : Type} {o : Option α} {x : α} {P : Prop} (h : o = none) (h2 : o = some x) : P := no_some (h.symm.trans h2)
theorem bx {p : Prop} [Decidable p] (h : decide p = true) : p := of_decide_eq_true h
theorem ite_some {α : Type} {c : Prop} [Decidable c] {x : Option α} {y : α} (h : (if c then x else none) = some y) : c ∧ x = some y := by
  by_cases q : c
  · exact ⟨q, (if_pos q).symm.trans h⟩
  · exact no_some ((if_neg q).symm.trans h)
theorem ite_e {α : Type} {c : Prop} [Decidable c] {x : Option α} {y : α} {P : Prop} (h : (if c then x else none) = some y) (k : c → x = some y → P) : P :=
  have z := ite_some h
  k z.1 z.2
theorem bs {α β : Type} {o : Option α} {f : α → Option β} {b : β} (h : o.bind f = some b) : ∃ a, o = some a ∧ f a = some b := Option.bind_eq_some_iff.mp h
theorem ms {α β : Type} {o : Option α} {f : α → β} {b : β} (h : o.map f = some b) : ∃ a, o = some a ∧ f a = b := Option.map_eq_some_iff.mp h
theorem bs_e {α β : Type} {o : Option α} {f : α → Option β} {b : β} {P : Prop} (h : o.bind f = some b) (k : ∀ a, o = some a → f a = some b → P) : P :=
  let ⟨a, h1, h2⟩ := bs h
  k a h1 h2
theorem ms_e {α β : Type} {o : Option α} {f : α → β} {b : β} {P : Prop} (h : o.map f = some b) (k : ∀ a, o = some a → f a = b → P) : P :=
  let ⟨a, h1, h2⟩ := ms h
  k a h1 h2
theorem bq {α β : Type} {o : Option α} {f : α → Option β} {a : α} {r : Option β} (h : o = some a) (k : f a = r) : o.bind f = r := by
  rw [h]; exact k
theorem mq {α β : Type} {o : Option α} {f : α → β} {a : α} (h : o = some a) : o.map f = some (f a) := by
  rw [h]; rfl
theorem and_i {a b : Bool} (h : (a && b) = true) : a = true ∧ b = true := Bool.and_eq_true_iff.mp h
theorem and2_e {a b : Bool} {P : Prop} (h : (a && b) = true) (k : a = true → b = true → P) : P := k (and_i h).1 (and_i h).2
theorem and3_e {a b c : Bool} {P : Prop} (h : (a && b && c) = true) (k : a = true → b = true → c = true → P) : P := and2_e (and_i h).1 fun h1 h2 => k h1 h2 (and_i h).2
theorem and4_e {a b c d : Bool} {P : Prop} (h : (a && b && c && d) = true) (k : a = true → b = true → c = true → d = true → P) : P := and3_e (and_i h).1 fun h1 h2 h3 => k h1 h2 h3 (and_i h).2
theorem and5_e {a b c d e : Bool} {P : Prop} (h : (a && b && c && d && e) = true) (k : a = true → b = true → c = true → d = true → e = true → P) : P := and4_e (and_i h).1 fun h1 h2 h3 h4 => k h1 h2 h3 h4 (and_i h).2
theorem and6_e {a b c d e f : Bool} {P : Prop} (h : (a && b && c && d && e && f) = true) (k : a = true → b = true → c = true → d = true → e = true → f = true → P) : P := and5_e (and_i h).1 fun h1 h2 h3 h4 h5 => k h1 h2 h3 h4 h5 (and_i h).2
theorem and7_e {a b c d e f g : Bool} {P : Prop} (h : (a && b && c && d && e && f && g) = true) (k : a = true → b = true → c = true → d = true → e = true → f = true → g = true → P) : P := and6_e (and_i h).1 fun h1 h2 h3 h4 h5 h6 => k h1 h2 h3 h4 h5 h6 (and_i h).2
theorem and8_e {a b c d e f g i : Bool} {P : Prop} (h : (a && b && c && d && e && f && g && i) = true) (k : a = true → b = true → c = true → d = true → e = true → f = true → g = true → i = true → P) : P := and7_e (and_i h).1 fun h1 h2 h3 h4 h5 h6 h7 => k h1 h2 h3 h4 h5 h6 h7 (and_i h).2
theorem and9_e {a b c d e f g i j : Bool} {P : Prop} (h : (a && b && c && d && e && f && g && i && j) = true) (k : a = true → b = true → c = true → d = true → e = true → f = true → g = true → i = true → j = true → P) : P := and8_e (and_i h).1 fun h1 h2 h3 h4 h5 h6 h7 h8 => k h1 h2 h3 h4 h5 h6 h7 h8 (and_i h).2
/-! one-constructor looks at the text's trees, each with its one inversion lemma -/
noncomputable def xName (y : PySem.Expr) (k : Str → Pos → Bool) : Bool := if h : y.ctorIdx = 23 then @PySem.Expr.Name.elim (fun _ => Bool) y h k else false
theorem xName_e {y : PySem.Expr} {k : Str → Pos → Bool} {P : PySem.Expr → Prop} (h : xName y k = true) (hp : ∀ x p, k x p = true → P (.Name x p)) : P y := by
  by_cases q : y.ctorIdx = 23
  · exact @PySem.Expr.Name.elim (fun y => xName y k = true → P y) y q (fun x p h => hp x p h) h
  · exact Bool.noConfusion (h.symm.trans (show xName y k = false from dif_neg q))
noncomputable def xAttribute (y : PySem.Expr) (k : PySem.Expr → Str → Pos → Bool) : Bool := if h : y.ctorIdx = 20 then @PySem.Expr.Attribute.elim (fun _ => Bool) y h k else false
theorem xAttribute_e {y : PySem.Expr} {k : PySem.Expr → Str → Pos → Bool} {P : PySem.Expr → Prop} (h : xAttribute y k = true) (hp : ∀ v m p, k v m p = true → P (.Attribute v m p)) : P y := by
  by_cases q : y.ctorIdx = 20
  · exact @PySem.Expr.Attribute.elim (fun y => xAttribute y k = true → P y) y q (fun v m p h => hp v m p h) h
  · exact Bool.noConfusion (h.symm.trans (show xAttribute y k = false from dif_neg q))
noncomputable def xCall (y : PySem.Expr) (k : PySem.Expr → (List PySem.Expr) → (List Keyword) → Pos → Bool) : Bool := if h : y.ctorIdx = 16 then @PySem.Expr.Call.elim (fun _ => Bool) y h k else false
theorem xCall_e {y : PySem.Expr} {k : PySem.Expr → (List PySem.Expr) → (List Keyword) → Pos → Bool} {P : PySem.Expr → Prop} (h : xCall y k = true) (hp : ∀ f a w p, k f a w p = true → P (.Call f a w p)) : P y := by
  by_cases q : y.ctorIdx = 16
  · exact @PySem.Expr.Call.elim (fun y => xCall y k = true → P y) y q (fun f a w p h => hp f a w p h) h
  · exact Bool.noConfusion (h.symm.trans (show xCall y k = false from dif_neg q))
noncomputable def xGeneratorExp (y : PySem.Expr) (k : PySem.Expr → (List Comprehension) → Scope → Pos → Bool) : Bool := if h : y.ctorIdx = 11 then @PySem.Expr.GeneratorExp.elim (fun _ => Bool) y h k else false
theorem xGeneratorExp_e {y : PySem.Expr} {k : PySem.Expr → (List Comprehension) → Scope → Pos → Bool} {P : PySem.Expr → Prop} (h : xGeneratorExp y k = true) (hp : ∀ e g s p, k e g s p = true → P (.GeneratorExp e g s p)) : P y := by
  by_cases q : y.ctorIdx = 11
  · exact @PySem.Expr.GeneratorExp.elim (fun y => xGeneratorExp y k = true → P y) y q (fun e g s p h => hp e g s p h) h
  · exact Bool.noConfusion (h.symm.trans (show xGeneratorExp y k = false from dif_neg q))
noncomputable def xListComp (y : PySem.Expr) (k : PySem.Expr → (List Comprehension) → Scope → Pos → Bool) : Bool := if h : y.ctorIdx = 8 then @PySem.Expr.ListComp.elim (fun _ => Bool) y h k else false
theorem xListComp_e {y : PySem.Expr} {k : PySem.Expr → (List Comprehension) → Scope → Pos → Bool} {P : PySem.Expr → Prop} (h : xListComp y k = true) (hp : ∀ e g s p, k e g s p = true → P (.ListComp e g s p)) : P y := by
  by_cases q : y.ctorIdx = 8
  · exact @PySem.Expr.ListComp.elim (fun y => xListComp y k = true → P y) y q (fun e g s p h => hp e g s p h) h
  · exact Bool.noConfusion (h.symm.trans (show xListComp y k = false from dif_neg q))
theorem xListComp_i {y : PySem.Expr} {k : PySem.Expr → (List Comprehension) → Scope → Pos → Bool} (h : xListComp y k = true) : ∃ e g s p, y = .ListComp e g s p ∧ k e g s p = true := by
  apply xListComp_e h; intro e g s p h; exact ⟨e, g, s, p, rfl, h⟩
noncomputable def xLambda (y : PySem.Expr) (k : Arguments → PySem.Expr → Scope → Pos → Bool) : Bool := if h : y.ctorIdx = 4 then @PySem.Expr.Lambda.elim (fun _ => Bool) y h k else false
theorem xLambda_e {y : PySem.Expr} {k : Arguments → PySem.Expr → Scope → Pos → Bool} {P : PySem.Expr → Prop} (h : xLambda y k = true) (hp : ∀ a e s p, k a e s p = true → P (.Lambda a e s p)) : P y := by
  by_cases q : y.ctorIdx = 4
  · exact @PySem.Expr.Lambda.elim (fun y => xLambda y k = true → P y) y q (fun a e s p h => hp a e s p h) h
  · exact Bool.noConfusion (h.symm.trans (show xLambda y k = false from dif_neg q))
noncomputable def xConstant (y : PySem.Expr) (k : Const → Nat → Pos → Bool) : Bool := if h : y.ctorIdx = 19 then @PySem.Expr.Constant.elim (fun _ => Bool) y h k else false
theorem xConstant_e {y : PySem.Expr} {k : Const → Nat → Pos → Bool} {P : PySem.Expr → Prop} (h : xConstant y k = true) (hp : ∀ c n p, k c n p = true → P (.Constant c n p)) : P y := by
  by_cases q : y.ctorIdx = 19
  · exact @PySem.Expr.Constant.elim (fun y => xConstant y k = true → P y) y q (fun c n p h => hp c n p h) h
  · exact Bool.noConfusion (h.symm.trans (show xConstant y k = false from dif_neg q))
theorem xConstant_i {y : PySem.Expr} {k : Const → Nat → Pos → Bool} (h : xConstant y k = true) : ∃ c n p, y = .Constant c n p ∧ k c n p = true := by
  apply xConstant_e h; intro c n p h; exact ⟨c, n, p, rfl, h⟩
noncomputable def xUnaryOp (y : PySem.Expr) (k : UnaryOp → PySem.Expr → Pos → Bool) : Bool := if h : y.ctorIdx = 3 then @PySem.Expr.UnaryOp.elim (fun _ => Bool) y h k else false
theorem xUnaryOp_e {y : PySem.Expr} {k : UnaryOp → PySem.Expr → Pos → Bool} {P : PySem.Expr → Prop} (h : xUnaryOp y k = true) (hp : ∀ o e p, k o e p = true → P (.UnaryOp o e p)) : P y := by
  by_cases q : y.ctorIdx = 3
  · exact @PySem.Expr.UnaryOp.elim (fun y => xUnaryOp y k = true → P y) y q (fun o e p h => hp o e p h) h
  · exact Bool.noConfusion (h.symm.trans (show xUnaryOp y k = false from dif_neg q))
noncomputable def xBinOp (y : PySem.Expr) (k : PySem.Expr → Operator → PySem.Expr → Pos → Bool) : Bool := if h : y.ctorIdx = 2 then @PySem.Expr.BinOp.elim (fun _ => Bool) y h k else false
theorem xBinOp_e {y : PySem.Expr} {k : PySem.Expr → Operator → PySem.Expr → Pos → Bool} {P : PySem.Expr → Prop} (h : xBinOp y k = true) (hp : ∀ l o r p, k l o r p = true → P (.BinOp l o r p)) : P y := by
  by_cases q : y.ctorIdx = 2
  · exact @PySem.Expr.BinOp.elim (fun y => xBinOp y k = true → P y) y q (fun l o r p h => hp l o r p h) h
  · exact Bool.noConfusion (h.symm.trans (show xBinOp y k = false from dif_neg q))
noncomputable def xCompare (y : PySem.Expr) (k : PySem.Expr → (List CmpOp) → (List PySem.Expr) → Pos → Bool) : Bool := if h : y.ctorIdx = 15 then @PySem.Expr.Compare.elim (fun _ => Bool) y h k else false
theorem xCompare_e {y : PySem.Expr} {k : PySem.Expr → (List CmpOp) → (List PySem.Expr) → Pos → Bool} {P : PySem.Expr → Prop} (h : xCompare y k = true) (hp : ∀ l o r p, k l o r p = true → P (.Compare l o r p)) : P y := by
  by_cases q : y.ctorIdx = 15
  · exact @PySem.Expr.Compare.elim (fun y => xCompare y k = true → P y) y q (fun l o r p h => hp l o r p h) h
  · exact Bool.noConfusion (h.symm.trans (show xCompare y k = false from dif_neg q))
noncomputable def xSubscript (y : PySem.Expr) (k : PySem.Expr → PySem.Expr → Pos → Bool) : Bool := if h : y.ctorIdx = 21 then @PySem.Expr.Subscript.elim (fun _ => Bool) y h k else false
theorem xSubscript_e {y : PySem.Expr} {k : PySem.Expr → PySem.Expr → Pos → Bool} {P : PySem.Expr → Prop} (h : xSubscript y k = true) (hp : ∀ v s p, k v s p = true → P (.Subscript v s p)) : P y := by
  by_cases q : y.ctorIdx = 21
  · exact @PySem.Expr.Subscript.elim (fun y => xSubscript y k = true → P y) y q (fun v s p h => hp v s p h) h
  · exact Bool.noConfusion (h.symm.trans (show xSubscript y k = false from dif_neg q))
noncomputable def xSlice (y : PySem.Expr) (k : (Option PySem.Expr) → (Option PySem.Expr) → (Option PySem.Expr) → Pos → Bool) : Bool := if h : y.ctorIdx = 26 then @PySem.Expr.Slice.elim (fun _ => Bool) y h k else false
theorem xSlice_e {y : PySem.Expr} {k : (Option PySem.Expr) → (Option PySem.Expr) → (Option PySem.Expr) → Pos → Bool} {P : PySem.Expr → Prop} (h : xSlice y k = true) (hp : ∀ l u s p, k l u s p = true → P (.Slice l u s p)) : P y := by
  by_cases q : y.ctorIdx = 26
  · exact @PySem.Expr.Slice.elim (fun y => xSlice y k = true → P y) y q (fun l u s p h => hp l u s p h) h
  · exact Bool.noConfusion (h.symm.trans (show xSlice y k = false from dif_neg q))
noncomputable def xTuple (y : PySem.Expr) (k : (List PySem.Expr) → Nat → Pos → Bool) : Bool := if h : y.ctorIdx = 25 then @PySem.Expr.Tuple.elim (fun _ => Bool) y h k else false
theorem xTuple_e {y : PySem.Expr} {k : (List PySem.Expr) → Nat → Pos → Bool} {P : PySem.Expr → Prop} (h : xTuple y k = true) (hp : ∀ l n p, k l n p = true → P (.Tuple l n p)) : P y := by
  by_cases q : y.ctorIdx = 25
  · exact @PySem.Expr.Tuple.elim (fun y => xTuple y k = true → P y) y q (fun l n p h => hp l n p h) h
  · exact Bool.noConfusion (h.symm.trans (show xTuple y k = false from dif_neg q))
noncomputable def xList (y : PySem.Expr) (k : (List PySem.Expr) → Pos → Bool) : Bool := if h : y.ctorIdx = 24 then @PySem.Expr.List.elim (fun _ => Bool) y h k else false
theorem xList_e {y : PySem.Expr} {k : (List PySem.Expr) → Pos → Bool} {P : PySem.Expr → Prop} (h : xList y k = true) (hp : ∀ l p, k l p = true → P (.List l p)) : P y := by
  by_cases q : y.ctorIdx = 24
  · exact @PySem.Expr.List.elim (fun y => xList y k = true → P y) y q (fun l p h => hp l p h) h
  · exact Bool.noConfusion (h.symm.trans (show xList y k = false from dif_neg q))
noncomputable def xJoinedStr (y : PySem.Expr) (k : (List PySem.Expr) → Pos → Bool) : Bool := if h : y.ctorIdx = 18 then @PySem.Expr.JoinedStr.elim (fun _ => Bool) y h k else false
theorem xJoinedStr_e {y : PySem.Expr} {k : (List PySem.Expr) → Pos → Bool} {P : PySem.Expr → Prop} (h : xJoinedStr y k = true) (hp : ∀ l p, k l p = true → P (.JoinedStr l p)) : P y := by
  by_cases q : y.ctorIdx = 18
  · exact @PySem.Expr.JoinedStr.elim (fun y => xJoinedStr y k = true → P y) y q (fun l p h => hp l p h) h
  · exact Bool.noConfusion (h.symm.trans (show xJoinedStr y k = false from dif_neg q))
noncomputable def xFormattedValue (y : PySem.Expr) (k : PySem.Expr → Int → (Option PySem.Expr) → Pos → Bool) : Bool := if h : y.ctorIdx = 17 then @PySem.Expr.FormattedValue.elim (fun _ => Bool) y h k else false
theorem xFormattedValue_e {y : PySem.Expr} {k : PySem.Expr → Int → (Option PySem.Expr) → Pos → Bool} {P : PySem.Expr → Prop} (h : xFormattedValue y k = true) (hp : ∀ v c s p, k v c s p = true → P (.FormattedValue v c s p)) : P y := by
  by_cases q : y.ctorIdx = 17
  · exact @PySem.Expr.FormattedValue.elim (fun y => xFormattedValue y k = true → P y) y q (fun v c s p h => hp v c s p h) h
  · exact Bool.noConfusion (h.symm.trans (show xFormattedValue y k = false from dif_neg q))
noncomputable def xIfExp (y : PySem.Expr) (k : PySem.Expr → PySem.Expr → PySem.Expr → Pos → Bool) : Bool := if h : y.ctorIdx = 5 then @PySem.Expr.IfExp.elim (fun _ => Bool) y h k else false
theorem xIfExp_e {y : PySem.Expr} {k : PySem.Expr → PySem.Expr → PySem.Expr → Pos → Bool} {P : PySem.Expr → Prop} (h : xIfExp y k = true) (hp : ∀ t a b p, k t a b p = true → P (.IfExp t a b p)) : P y := by
  by_cases q : y.ctorIdx = 5
  · exact @PySem.Expr.IfExp.elim (fun y => xIfExp y k = true → P y) y q (fun t a b p h => hp t a b p h) h
  · exact Bool.noConfusion (h.symm.trans (show xIfExp y k = false from dif_neg q))
noncomputable def xBoolOp (y : PySem.Expr) (k : BoolOp → (List PySem.Expr) → Pos → Bool) : Bool := if h : y.ctorIdx = 0 then @PySem.Expr.BoolOp.elim (fun _ => Bool) y h k else false
theorem xBoolOp_e {y : PySem.Expr} {k : BoolOp → (List PySem.Expr) → Pos → Bool} {P : PySem.Expr → Prop} (h : xBoolOp y k = true) (hp : ∀ o l p, k o l p = true → P (.BoolOp o l p)) : P y := by
  by_cases q : y.ctorIdx = 0
  · exact @PySem.Expr.BoolOp.elim (fun y => xBoolOp y k = true → P y) y q (fun o l p h => hp o l p h) h
  · exact Bool.noConfusion (h.symm.trans (show xBoolOp y k = false from dif_neg q))
noncomputable def sAssign (y : PySem.Stmt) (k : (List PySem.Expr) → PySem.Expr → Pos → Bool) : Bool := if h : y.ctorIdx = 5 then @PySem.Stmt.Assign.elim (fun _ => Bool) y h k else false
theorem sAssign_e {y : PySem.Stmt} {k : (List PySem.Expr) → PySem.Expr → Pos → Bool} {P : PySem.Stmt → Prop} (h : sAssign y k = true) (hp : ∀ l v p, k l v p = true → P (.Assign l v p)) : P y := by
  by_cases q : y.ctorIdx = 5
  · exact @PySem.Stmt.Assign.elim (fun y => sAssign y k = true → P y) y q (fun l v p h => hp l v p h) h
  · exact Bool.noConfusion (h.symm.trans (show sAssign y k = false from dif_neg q))
noncomputable def sReturn (y : PySem.Stmt) (k : (Option PySem.Expr) → Pos → Bool) : Bool := if h : y.ctorIdx = 3 then @PySem.Stmt.Return.elim (fun _ => Bool) y h k else false
theorem sReturn_e {y : PySem.Stmt} {k : (Option PySem.Expr) → Pos → Bool} {P : PySem.Stmt → Prop} (h : sReturn y k = true) (hp : ∀ v p, k v p = true → P (.Return v p)) : P y := by
  by_cases q : y.ctorIdx = 3
  · exact @PySem.Stmt.Return.elim (fun y => sReturn y k = true → P y) y q (fun v p h => hp v p h) h
  · exact Bool.noConfusion (h.symm.trans (show sReturn y k = false from dif_neg q))
noncomputable def sAugAssign (y : PySem.Stmt) (k : PySem.Expr → Operator → PySem.Expr → Pos → Bool) : Bool := if h : y.ctorIdx = 7 then @PySem.Stmt.AugAssign.elim (fun _ => Bool) y h k else false
theorem sAugAssign_e {y : PySem.Stmt} {k : PySem.Expr → Operator → PySem.Expr → Pos → Bool} {P : PySem.Stmt → Prop} (h : sAugAssign y k = true) (hp : ∀ t o v p, k t o v p = true → P (.AugAssign t o v p)) : P y := by
  by_cases q : y.ctorIdx = 7
  · exact @PySem.Stmt.AugAssign.elim (fun y => sAugAssign y k = true → P y) y q (fun t o v p h => hp t o v p h) h
  · exact Bool.noConfusion (h.symm.trans (show sAugAssign y k = false from dif_neg q))
noncomputable def sFor (y : PySem.Stmt) (k : PySem.Expr → PySem.Expr → (List Stmt) → (List Stmt) → Pos → Bool) : Bool := if h : y.ctorIdx = 9 then @PySem.Stmt.For.elim (fun _ => Bool) y h k else false
theorem sFor_e {y : PySem.Stmt} {k : PySem.Expr → PySem.Expr → (List Stmt) → (List Stmt) → Pos → Bool} {P : PySem.Stmt → Prop} (h : sFor y k = true) (hp : ∀ t i b e p, k t i b e p = true → P (.For t i b e p)) : P y := by
  by_cases q : y.ctorIdx = 9
  · exact @PySem.Stmt.For.elim (fun y => sFor y k = true → P y) y q (fun t i b e p h => hp t i b e p h) h
  · exact Bool.noConfusion (h.symm.trans (show sFor y k = false from dif_neg q))
noncomputable def sWhile (y : PySem.Stmt) (k : PySem.Expr → (List Stmt) → (List Stmt) → Pos → Bool) : Bool := if h : y.ctorIdx = 11 then @PySem.Stmt.While.elim (fun _ => Bool) y h k else false
theorem sWhile_e {y : PySem.Stmt} {k : PySem.Expr → (List Stmt) → (List Stmt) → Pos → Bool} {P : PySem.Stmt → Prop} (h : sWhile y k = true) (hp : ∀ t b e p, k t b e p = true → P (.While t b e p)) : P y := by
  by_cases q : y.ctorIdx = 11
  · exact @PySem.Stmt.While.elim (fun y => sWhile y k = true → P y) y q (fun t b e p h => hp t b e p h) h
  · exact Bool.noConfusion (h.symm.trans (show sWhile y k = false from dif_neg q))
noncomputable def sIf (y : PySem.Stmt) (k : PySem.Expr → (List Stmt) → (List Stmt) → Pos → Bool) : Bool := if h : y.ctorIdx = 12 then @PySem.Stmt.If.elim (fun _ => Bool) y h k else false
theorem sIf_e {y : PySem.Stmt} {k : PySem.Expr → (List Stmt) → (List Stmt) → Pos → Bool} {P : PySem.Stmt → Prop} (h : sIf y k = true) (hp : ∀ t b e p, k t b e p = true → P (.If t b e p)) : P y := by
  by_cases q : y.ctorIdx = 12
  · exact @PySem.Stmt.If.elim (fun y => sIf y k = true → P y) y q (fun t b e p h => hp t b e p h) h
  · exact Bool.noConfusion (h.symm.trans (show sIf y k = false from dif_neg q))
noncomputable def sAssert (y : PySem.Stmt) (k : PySem.Expr → (Option PySem.Expr) → Pos → Bool) : Bool := if h : y.ctorIdx = 19 then @PySem.Stmt.Assert.elim (fun _ => Bool) y h k else false
theorem sAssert_e {y : PySem.Stmt} {k : PySem.Expr → (Option PySem.Expr) → Pos → Bool} {P : PySem.Stmt → Prop} (h : sAssert y k = true) (hp : ∀ t m p, k t m p = true → P (.Assert t m p)) : P y := by
  by_cases q : y.ctorIdx = 19
  · exact @PySem.Stmt.Assert.elim (fun y => sAssert y k = true → P y) y q (fun t m p h => hp t m p h) h
  · exact Bool.noConfusion (h.symm.trans (show sAssert y k = false from dif_neg q))
noncomputable def sExpr (y : PySem.Stmt) (k : PySem.Expr → Pos → Bool) : Bool := if h : y.ctorIdx = 24 then @PySem.Stmt.Expr.elim (fun _ => Bool) y h k else false
theorem sExpr_e {y : PySem.Stmt} {k : PySem.Expr → Pos → Bool} {P : PySem.Stmt → Prop} (h : sExpr y k = true) (hp : ∀ v p, k v p = true → P (.Expr v p)) : P y := by
  by_cases q : y.ctorIdx = 24
  · exact @PySem.Stmt.Expr.elim (fun y => sExpr y k = true → P y) y q (fun v p h => hp v p h) h
  · exact Bool.noConfusion (h.symm.trans (show sExpr y k = false from dif_neg q))
noncomputable def sBreak (y : PySem.Stmt) (k : Pos → Bool) : Bool := if h : y.ctorIdx = 26 then @PySem.Stmt.Break.elim (fun _ => Bool) y h k else false
theorem sBreak_e {y : PySem.Stmt} {k : Pos → Bool} {P : PySem.Stmt → Prop} (h : sBreak y k = true) (hp : ∀ p, k p = true → P (.Break p)) : P y := by
  by_cases q : y.ctorIdx = 26
  · exact @PySem.Stmt.Break.elim (fun y => sBreak y k = true → P y) y q (fun p h => hp p h) h
  · exact Bool.noConfusion (h.symm.trans (show sBreak y k = false from dif_neg q))
noncomputable def on1 {α : Type} (l : List α) (k : α → Bool) : Bool := match l with | [x] => k x | _ => false
theorem on1_i {α : Type} {l : List α} {k : α → Bool} (h : on1 l k = true) : ∃ x, l = [x] ∧ k x = true := by
  match l, h with | [x], h => exact ⟨x, rfl, h⟩
theorem on1_e {α : Type} {l : List α} {k : α → Bool} {P : List α → Prop} (h : on1 l k = true) (hp : ∀ x, k x = true → P ([x])) : P l := by
  obtain ⟨x, rfl, h⟩ := on1_i h
  exact hp x h
noncomputable def on2 {α : Type} (l : List α) (k : α → α → Bool) : Bool := match l with | [x, y] => k x y | _ => false
theorem on2_i {α : Type} {l : List α} {k : α → α → Bool} (h : on2 l k = true) : ∃ x y, l = [x, y] ∧ k x y = true := by
  match l, h with | [x, y], h => exact ⟨x, y, rfl, h⟩
theorem on2_e {α : Type} {l : List α} {k : α → α → Bool} {P : List α → Prop} (h : on2 l k = true) (hp : ∀ x y, k x y = true → P ([x, y])) : P l := by
  obtain ⟨x, y, rfl, h⟩ := on2_i h
  exact hp x y h
noncomputable def on3 {α : Type} (l : List α) (k : α → α → α → Bool) : Bool := match l with | [x, y, z] => k x y z | _ => false
theorem on3_i {α : Type} {l : List α} {k : α → α → α → Bool} (h : on3 l k = true) : ∃ x y z, l = [x, y, z] ∧ k x y z = true := by
  match l, h with | [x, y, z], h => exact ⟨x, y, z, rfl, h⟩
theorem on3_e {α : Type} {l : List α} {k : α → α → α → Bool} {P : List α → Prop} (h : on3 l k = true) (hp : ∀ x y z, k x y z = true → P ([x, y, z])) : P l := by
  obtain ⟨x, y, z, rfl, h⟩ := on3_i h
  exact hp x y z h
noncomputable def onEq {α : Type} [DecidableEq α] (a i : α) (b : Bool) : Bool := if a = i then b else false
theorem onEq_i {α : Type} [DecidableEq α] {a i : α} {b : Bool} (h : onEq a i b = true) : a = i ∧ b = true := by
  unfold onEq at h
  by_cases q : a = i
  · rw [if_pos q] at h; exact ⟨q, h⟩
  · rw [if_neg q] at h; cases h
theorem onEq_e {α : Type} [DecidableEq α] {a i : α} {b : Bool} {P : α → Prop} (h : onEq a i b = true) (hp : b = true → P (i)) : P a := by
  obtain ⟨e, h⟩ := onEq_i h
  rw [e]
  exact hp h
noncomputable def onI {α β : Type} (s : α ⊕ β) (k : α → Bool) : Bool := match s with | .inl x => k x | .inr _ => false
theorem onI_i {α β : Type} {s : α ⊕ β} {k : α → Bool} (h : onI s k = true) : ∃ x, s = .inl x ∧ k x = true := by
  cases s
  · exact ⟨_, rfl, h⟩
  · cases h
theorem onI_e {α β : Type} {s : α ⊕ β} {k : α → Bool} {P : α ⊕ β → Prop} (h : onI s k = true) (hp : ∀ x, k x = true → P (.inl x)) : P s := by
  obtain ⟨x, rfl, h⟩ := onI_i h
  exact hp x h
noncomputable def onR {α β : Type} (s : α ⊕ β) (k : β → Bool) : Bool := match s with | .inr x => k x | .inl _ => false
theorem onR_i {α β : Type} {s : α ⊕ β} {k : β → Bool} (h : onR s k = true) : ∃ x, s = .inr x ∧ k x = true := by
  cases s
  · cases h
  · exact ⟨_, rfl, h⟩
theorem onR_e {α β : Type} {s : α ⊕ β} {k : β → Bool} {P : α ⊕ β → Prop} (h : onR s k = true) (hp : ∀ x, k x = true → P (.inr x)) : P s := by
  obtain ⟨x, rfl, h⟩ := onR_i h
  exact hp x h
noncomputable def onC {α : Type} (l : List α) (k : α → List α → Bool) : Bool := match l with | x :: r => k x r | _ => false
theorem onC_i {α : Type} {l : List α} {k : α → List α → Bool} (h : onC l k = true) : ∃ x r, l = x :: r ∧ k x r = true := by
  match l, h with | x :: r, h => exact ⟨x, r, rfl, h⟩
theorem onC_e {α : Type} {l : List α} {k : α → List α → Bool} {P : List α → Prop} (h : onC l k = true) (hp : ∀ x r, k x r = true → P (x :: r)) : P l := by
  obtain ⟨x, r, rfl, h⟩ := onC_i h
  exact hp x r h
noncomputable def on0 {α : Type} (l : List α) (b : Bool) : Bool := match l with | [] => b | _ => false
theorem on0_i {α : Type} {l : List α} {b : Bool} (h : on0 l b = true) : l = [] ∧ b = true := by
  match l, h with | [], h => exact ⟨rfl, h⟩
theorem on0_e {α : Type} {l : List α} {b : Bool} {P : List α → Prop} (h : on0 l b = true) (hp : b = true → P ([])) : P l := by
  obtain ⟨e, h⟩ := on0_i h
  rw [e]
  exact hp h
noncomputable def onSo {α : Type} (o : Option α) (k : α → Bool) : Bool := match o with | some x => k x | none => false
theorem onSo_i {α : Type} {o : Option α} {k : α → Bool} (h : onSo o k = true) : ∃ x, o = some x ∧ k x = true := by
  match o, h with | some x, h => exact ⟨x, rfl, h⟩
theorem onSo_e {α : Type} {o : Option α} {k : α → Bool} {P : Option α → Prop} (h : onSo o k = true) (hp : ∀ x, k x = true → P (some x)) : P o := by
  obtain ⟨x, rfl, h⟩ := onSo_i h
  exact hp x h
noncomputable def onNo {α : Type} (o : Option α) (b : Bool) : Bool := match o with | none => b | some _ => false
theorem onNo_i {α : Type} {o : Option α} {b : Bool} (h : onNo o b = true) : o = none ∧ b = true := by
  match o, h with | none, h => exact ⟨rfl, h⟩
theorem onNo_e {α : Type} {o : Option α} {b : Bool} {P : Option α → Prop} (h : onNo o b = true) (hp : b = true → P (none)) : P o := by
  obtain ⟨e, h⟩ := onNo_i h
  rw [e]
  exact hp h
noncomputable def kStr (c : Const) (k : Str → Bool) : Bool := match c with | .str x => k x | _ => false
theorem kStr_i {c : Const} {k : Str → Bool} (h : kStr c k = true) : ∃ x, c = .str x ∧ k x = true := by
  cases c <;> first | exact Bool.noConfusion (show false = true from h) | exact ⟨_, rfl, h⟩
theorem kStr_e {c : Const} {k : Str → Bool} {P : Const → Prop} (h : kStr c k = true) (hp : ∀ x, k x = true → P (.str x)) : P c := by
  obtain ⟨x, rfl, h⟩ := kStr_i h
  exact hp x h
noncomputable def kInt (c : Const) (k : Int → Bool) : Bool := match c with | .int x => k x | _ => false
theorem kInt_i {c : Const} {k : Int → Bool} (h : kInt c k = true) : ∃ x, c = .int x ∧ k x = true := by
  cases c <;> first | exact Bool.noConfusion (show false = true from h) | exact ⟨_, rfl, h⟩
theorem kInt_e {c : Const} {k : Int → Bool} {P : Const → Prop} (h : kInt c k = true) (hp : ∀ x, k x = true → P (.int x)) : P c := by
  obtain ⟨x, rfl, h⟩ := kInt_i h
  exact hp x h
noncomputable def kBool (c : Const) (k : Bool → Bool) : Bool := match c with | .bool x => k x | _ => false
theorem kBool_i {c : Const} {k : Bool → Bool} (h : kBool c k = true) : ∃ x, c = .bool x ∧ k x = true := by
  cases c <;> first | exact Bool.noConfusion (show false = true from h) | exact ⟨_, rfl, h⟩
theorem kBool_e {c : Const} {k : Bool → Bool} {P : Const → Prop} (h : kBool c k = true) (hp : ∀ x, k x = true → P (.bool x)) : P c := by
  obtain ⟨x, rfl, h⟩ := kBool_i h
  exact hp x h
noncomputable def xStr (y : PySem.Expr) (k : Str → Nat → Pos → Bool) : Bool := xConstant y fun c n p => kStr c fun x => k x n p
theorem xStr_i {y : PySem.Expr} {k : Str → Nat → Pos → Bool} (h : xStr y k = true) : ∃ x n p, y = .Constant (.str x) n p ∧ k x n p = true := by
  obtain ⟨c, n, p, rfl, h⟩ := xConstant_i h
  obtain ⟨x, rfl, h⟩ := kStr_i h
  exact ⟨x, n, p, rfl, h⟩
theorem xStr_e {y : PySem.Expr} {k : Str → Nat → Pos → Bool} {P : PySem.Expr → Prop} (h : xStr y k = true) (hp : ∀ x n p, k x n p = true → P (.Constant (.str x) n p)) : P y := by
  obtain ⟨x, n, p, rfl, h⟩ := xStr_i h
  exact hp x n p h
noncomputable def xInt (y : PySem.Expr) (k : Int → Nat → Pos → Bool) : Bool := xConstant y fun c n p => kInt c fun x => k x n p
theorem xInt_i {y : PySem.Expr} {k : Int → Nat → Pos → Bool} (h : xInt y k = true) : ∃ x n p, y = .Constant (.int x) n p ∧ k x n p = true := by
  obtain ⟨c, n, p, rfl, h⟩ := xConstant_i h
  obtain ⟨x, rfl, h⟩ := kInt_i h
  exact ⟨x, n, p, rfl, h⟩
theorem xInt_e {y : PySem.Expr} {k : Int → Nat → Pos → Bool} {P : PySem.Expr → Prop} (h : xInt y k = true) (hp : ∀ x n p, k x n p = true → P (.Constant (.int x) n p)) : P y := by
  obtain ⟨x, n, p, rfl, h⟩ := xInt_i h
  exact hp x n p h
noncomputable def onComp (c : Comprehension) (k : PySem.Expr → PySem.Expr → List PySem.Expr → Int → Bool) : Bool := k c.target c.iter c.ifs c.is_async
theorem onComp_i {c : Comprehension} {k : PySem.Expr → PySem.Expr → List PySem.Expr → Int → Bool} (h : onComp c k = true) : ∃ t i f a, c = ⟨t, i, f, a⟩ ∧ k t i f a = true := by obtain ⟨t, i, f, a⟩ := c; exact ⟨t, i, f, a, rfl, h⟩
theorem onComp_e {c : Comprehension} {k : PySem.Expr → PySem.Expr → List PySem.Expr → Int → Bool} {P : Comprehension → Prop} (h : onComp c k = true) (hp : ∀ t i f a, k t i f a = true → P (⟨t, i, f, a⟩)) : P c := by
  obtain ⟨t, i, f, a, rfl, h⟩ := onComp_i h
  exact hp t i f a h
noncomputable def onZ (a i : Int) (b : Bool) : Bool := if a = i then b else false
theorem onZ_i {a i : Int} {b : Bool} (h : onZ a i b = true) : a = i ∧ b = true := by
  unfold onZ at h
  by_cases q : a = i
  · rw [if_pos q] at h; exact ⟨q, h⟩
  · rw [if_neg q] at h; cases h
theorem onZ_e {a i : Int} {b : Bool} {P : Int → Prop} (h : onZ a i b = true) (hp : b = true → P (i)) : P a := by
  obtain ⟨e, h⟩ := onZ_i h
  rw [e]
  exact hp h
end Mine
end TA0
section TA1
open PySem PySem.W PyProof.Rows PySem.Calls
namespace Mine

/-! data -/
set_option genCtorIdx true in
set_option genInjectivity true in
inductive D where
  | raw (v : Value) | int (i : Int) | str (l : List Nat) | star | tup (l : List D) | lst (l : List D)

noncomputable abbrev PH := Addr → Option Obj
mutual
inductive R (G : PH) (σ : Addr) : D → Value → Prop
  | raw (v : Value) : R G σ (.raw v) v
  | int (i : Int) (t : Tok) : R G σ (.int i) (.int i t)
  | str (l : List Nat) (t : Tok) : R G σ (.str l) (.str ⟨l.toArray⟩ t)
  | star : R G σ .star (.ref σ)
  | tup {a : Addr} {o : Obj} {n : Nat} {ds : List D} {vs : List Value} (ho : G a = some o) (hc : o.cls = .type "tuple") (hd : o.data = .seq vs.toArray n) (h : RL G σ ds vs) : R G σ (.tup ds) (.ref a)
  | lst {a : Addr} {o : Obj} {n : Nat} {ds : List D} {vs : List Value} (ho : G a = some o) (hc : o.cls = .type "list") (hd : o.data = .seq vs.toArray n) (h : RL G σ ds vs) : R G σ (.lst ds) (.ref a)
inductive RL (G : PH) (σ : Addr) : List D → List Value → Prop
  | nil : RL G σ [] []
  | cons {d : D} {v : Value} {ds : List D} {vs : List Value} (h : R G σ d v) (hr : RL G σ ds vs) : RL G σ (d :: ds) (v :: vs)
end
theorem R.mono {G G' : PH} {σ : Addr} (le : ∀ a o, G a = some o → G' a = some o) {d : D} {v : Value} (h : R G σ d v) : R G' σ d v :=
  R.rec (motive_1 := fun d v _ => R G' σ d v) (motive_2 := fun ds vs _ => RL G' σ ds vs) .raw .int .str .star (fun ho hc hd _ ih => .tup (le _ _ ho) hc hd ih) (fun ho hc hd _ ih => .lst (le _ _ ho) hc hd ih) .nil (fun _ _ h1 h2 => .cons h1 h2) h
theorem R.int_e {G : PH} {σ : Addr} {P : Value → Prop} {i : Int} {v : Value} (h : R G σ (.int i) v) (hp : ∀ t, P (.int i t)) : P v := by
  cases h; exact hp _
theorem R.str_e {G : PH} {σ : Addr} {P : Value → Prop} {l : List Nat} {v : Value} (h : R G σ (.str l) v) (hp : ∀ t, P (.str ⟨l.toArray⟩ t)) : P v := by
  cases h; exact hp _
theorem R.raw_e {G : PH} {σ : Addr} {P : Value → Prop} {w v : Value} (h : R G σ (.raw w) v) (hp : P w) : P v := by
  cases h; exact hp
theorem RL.cons_e {G : PH} {σ : Addr} {P : List Value → Prop} {d : D} {ds : List D} {vs : List Value} (h : RL G σ (d :: ds) vs) (hp : ∀ v r, R G σ d v → RL G σ ds r → P (v :: r)) : P vs := by
  cases h with | cons h1 h2 => exact hp _ _ h1 h2
theorem RL.nil_e {G : PH} {σ : Addr} {P : List Value → Prop} {vs : List Value} (h : RL G σ [] vs) (hp : P []) : P vs := by
  cases h; exact hp
theorem RL.ind {G : PH} {σ : Addr} {P : List D → List Value → Prop} (h1 : P [] []) (h2 : ∀ d v ds vs, R G σ d v → RL G σ ds vs → P ds vs → P (d :: ds) (v :: vs)) {ds : List D} {vs : List Value} (h : RL G σ ds vs) : P ds vs := by
  induction ds generalizing vs with
  | nil => exact h.nil_e h1
  | cons d ds ih => exact h.cons_e (P := P (d :: ds)) fun v r q1 q2 => h2 d v ds r q1 q2 (ih q2)
theorem RL.mono {G G' : PH} {σ : Addr} (le : ∀ a o, G a = some o → G' a = some o) {ds : List D} {vs : List Value} (h : RL G σ ds vs) : RL G' σ ds vs :=
  h.ind (P := RL G' σ) .nil fun _ _ _ _ q _ ih => .cons (q.mono le) ih
theorem RL.length {G : PH} {σ : Addr} {ds : List D} {vs : List Value} (h : RL G σ ds vs) : vs.length = ds.length :=
  h.ind (P := fun ds vs => vs.length = ds.length) rfl fun _ _ _ _ _ _ ih => congrArg Nat.succ ih
theorem RL.get {G : PH} {σ : Addr} {ds : List D} {vs : List Value} (h : RL G σ ds vs) : ∀ {i : Nat} {d : D}, ds[i]? = some d → ∃ v, vs[i]? = some v ∧ R G σ d v :=
  h.ind (P := fun ds vs => ∀ {i : Nat} {d : D}, ds[i]? = some d → ∃ v, vs[i]? = some v ∧ R G σ d v) (fun e => no_some e) fun d v ds vs q _ ih {i} {d'} e => by
    cases i with
    | zero => exact ⟨v, rfl, Option.some.inj e ▸ q⟩
    | succ i => exact ih e
theorem RL.append {G : PH} {σ : Addr} {ds : List D} {vs : List Value} (h : RL G σ ds vs) {ds' : List D} {vs' : List Value} (h' : RL G σ ds' vs') : RL G σ (ds ++ ds') (vs ++ vs') :=
  h.ind (P := fun ds vs => RL G σ (ds ++ ds') (vs ++ vs')) h' fun _ _ _ _ q _ ih => .cons q ih
theorem RL.drop {G : PH} {σ : Addr} {ds : List D} {vs : List Value} (h : RL G σ ds vs) : ∀ n, RL G σ (ds.drop n) (vs.drop n) :=
  h.ind (P := fun ds vs => ∀ n, RL G σ (ds.drop n) (vs.drop n)) (fun n => by rw [List.drop_nil, List.drop_nil]; exact .nil) fun _ _ _ _ q r ih n => by
    cases n with
    | zero => exact .cons q r
    | succ n => exact ih n
theorem RL.take {G : PH} {σ : Addr} {ds : List D} {vs : List Value} (h : RL G σ ds vs) : ∀ n, RL G σ (ds.take n) (vs.take n) :=
  h.ind (P := fun ds vs => ∀ n, RL G σ (ds.take n) (vs.take n)) (fun n => by rw [List.take_nil, List.take_nil]; exact .nil) fun _ _ _ _ q r ih n => by
    cases n with
    | zero => exact .nil
    | succ n => exact .cons q (ih n)

/-! the fixed surroundings -/
structure Cx where
  prog : Program
  w : World
  hb : Heap
  T : List Addr
  mg : Str → Option Value
  mb : Str → Option Value
  os : OsState
  TI : PH → Heap → Prop

structure Cx.Ok (C : Cx) : Prop where
  g : C.hb.Ns mainGlobals C.mg
  b : C.hb.Ns builtinsNs C.mb
  lim : C.hb.NoLimit
  gT : mainGlobals ∉ C.T
  bT : builtinsNs ∉ C.T
  sT : cStatics ∉ C.T
  ti : ∀ (G G' : PH) h h', C.TI G h → (∀ a o, o.cls = .type "code" → G a = some o → G' a = some o) → (∀ a ∈ C.T, h'.get? a = h.get? a) → C.TI G' h'
  tt : ∀ G h, C.TI G h → ∀ a ∈ C.T, ∃ o, h.get? a = some o

structure Sok (C : Cx) (s : Shared) : Prop where
  keep : ∀ a o, C.hb.get? a = some o → a ∉ C.T → s.heap.get? a = some o
  gens : AllBare s.gens
  os : s.os = C.os
  toks : 0 < s.toks

structure Go (C : Cx) (G : PH) (s : Shared) : Prop where
  sok : Sok C s
  ti : C.TI G s.heap
  le : ∀ a o, G a = some o → s.heap.get? a = some o
  noT : ∀ a, a ∈ C.T → G a = none

structure Step (C : Cx) (G : PH) (s : Shared) (G' : PH) (s' : Shared) : Prop where
  keep : ∀ a o, s.heap.get? a = some o → a ∉ C.T → s'.heap.get? a = some o
  le : ∀ a o, G a = some o → G' a = some o
  fresh : ∀ a o, G' a = some o → G a = some o ∨ s.heap.get? a = none
  go : Go C G' s'
  toks : s.toks ≤ s'.toks

theorem Step.trans {C : Cx} {G G' G'' : PH} {s s' s'' : Shared} (a : Step C G s G' s') (b : Step C G' s' G'' s'') : Step C G s G'' s'' := by
  refine ⟨fun x o h n => b.keep x o (a.keep x o h n) n, fun x o h => b.le x o (a.le x o h), fun x o h => ?_, b.go, Nat.le_trans a.toks b.toks⟩
  rcases b.fresh x o h with h | h
  · exact a.fresh x o h
  · right
    cases q : s.heap.get? x with
    | none => rfl
    | some o' =>
      by_cases n : x ∈ C.T
      · rw [b.go.noT x n] at *; simp_all
      · rw [a.keep x o' q n] at h; cases h
theorem Step.refl {C : Cx} {G : PH} {s : Shared} (g : Go C G s) : Step C G s G s := ⟨fun _ _ h _ => h, fun _ _ h => h, fun _ _ h => .inl h, g, Nat.le_refl _⟩
theorem Step.keeps {C : Cx} (ok : C.Ok) {G : PH} {s : Shared} (g : Go C G s) {h' : Heap} {tk : Nat} (hk : ∀ a o, s.heap.get? a = some o → h'.get? a = some o) (ht : s.toks ≤ tk) : Step C G s G { s with heap := h', toks := tk } :=
  ⟨fun a o h _ => hk a o h, fun _ _ h => h, fun _ _ h => .inl h, ⟨⟨fun a o h n => hk a o (g.sok.keep a o h n), g.sok.gens, g.sok.os, Nat.lt_of_lt_of_le g.sok.toks ht⟩,
    ok.ti G G _ _ g.ti (fun _ _ _ e => e) (fun a ha => by obtain ⟨o, e⟩ := ok.tt _ _ g.ti a ha; rw [e]; exact hk a o e), fun a o h => hk a o (g.le a o h), g.noT⟩, ht⟩
noncomputable def PH.put (G : PH) (a : Addr) (o : Obj) : PH := fun b => if b = a then some o else G b
theorem Go.notT {C : Cx} (ok : C.Ok) {G : PH} {s : Shared} (g : Go C G s) {a : Addr} (h : s.heap.get? a = none) : a ∉ C.T := fun q => by
  obtain ⟨o, e⟩ := ok.tt _ _ g.ti a q
  rw [h] at e; cases e
/-- a new object, held from now on -/
theorem Step.news {C : Cx} (ok : C.Ok) {G : PH} {s : Shared} (g : Go C G s) {h' : Heap} {tk : Nat} {a : Addr} {o : Obj} (hk : ∀ a o, s.heap.get? a = some o → h'.get? a = some o) (hn : s.heap.get? a = none) (ha : h'.get? a = some o) (ht : s.toks ≤ tk) :
    Step C G s (G.put a o) { s with heap := h', toks := tk } := by
  have S := Step.keeps ok g (tk := tk) hk ht
  have hG : G a = none := by
    cases q : G a with
    | none => rfl
    | some o' => rw [g.le a o' q] at hn; cases hn
  have le : ∀ b p, G b = some p → G.put a o b = some p := fun b p h => by
    unfold PH.put; split
    · rename_i e; subst e; rw [hG] at h; cases h
    · exact h
  refine ⟨S.keep, le, fun b p h => ?_, ⟨S.go.sok, ok.ti _ _ _ _ S.go.ti (fun a o _ e => le a o e) (fun _ _ => rfl), fun b p h => ?_, fun b hb => ?_⟩, ht⟩
  · unfold PH.put at h; split at h
    · rename_i e; subst e; exact .inr hn
    · exact .inl h
  · unfold PH.put at h; split at h
    · rename_i e; subst e; cases h; exact ha
    · exact S.go.le b p h
  · unfold PH.put; split
    · rename_i e; subst e; exact absurd hb (g.notT ok hn)
    · exact g.noT b hb
theorem get_size (h : Heap) : h.get? h.objs.size = none := by
  cases e : h.get? h.objs.size with
  | none => rfl
  | some o => exact absurd (Heap.lt_size e) (Nat.lt_irrefl _)

/-! names -/
noncomputable def Look (env : Env) (h : Heap) (x : Str) (v : Value) : Prop :=
  (env.kindOf x = some .local ∧ ∃ m, h.Ns env.locals m ∧ m x = some v) ∨ ((env.kindOf x = some .cell ∨ env.kindOf x = some .free) ∧ ∃ c, env.cells.lookup x = some c ∧ h.IsCell c (some v))

structure EnvOk (C : Cx) (env : Env) : Prop where
  kind : env.scope.kind = .function
  g : env.globals = mainGlobals
  b : env.builtins = builtinsNs
  lT : env.locals ∉ C.T
  cT : ∀ x c, env.cells.lookup x = some c → c ∉ C.T

structure OkA (n : Nat) (A : Around) : Prop where
  hd : A.handled = none
  depth : A.depth + n ≤ 900
  units : A.units + 8 * n ≤ 9000

/-- evaluation of a tree to a datum -/
noncomputable def EvE (C : Cx) (A : Around) (t : Sem Value) (G : PH) (σ : Addr) (d : D) (s : Shared) : Prop :=
  ∀ (Q E : Value → Shared → Prop), (∀ v s' G', Step C G s G' s' → R G' σ d v → Q v s') → wpAny (model C.prog C.w) A t Q E s

theorem EvE.intro {C : Cx} {A : Around} {t : Sem Value} {G : PH} {σ : Addr} {d : D} {s : Shared} (h : ∀ (Q E : Value → Shared → Prop), (∀ v s' G', Step C G s G' s' → R G' σ d v → Q v s') → wpAny (model C.prog C.w) A t Q E s) : EvE C A t G σ d s := h

section
variable {C : Cx} (ok : C.Ok) {A : Around} {env : Env} {G : PH} {σ : Addr} {s : Shared}
include ok

theorem e_int {i : Int} {k : Nat} {pos : Pos} (g : Go C G s) : EvE C A (eval (.Constant (.int i) k pos) env) G σ (.int i) s := fun _ _ h =>
  wpAny_Constant_int (h _ _ G (Step.keeps (ht := by first | exact Nat.le_refl _ | exact Nat.le_succ _ | omega) ok g fun _ _ e => e) (.int i _))
theorem e_str {x : Str} {k : Nat} {pos : Pos} (g : Go C G s) : EvE C A (eval (.Constant (.str x) k pos) env) G σ (.str x.cps.toList) s := fun _ _ h =>
  Constant_str (h _ _ G (Step.keeps (ht := by first | exact Nat.le_refl _ | exact Nat.le_succ _ | omega) ok g fun _ _ e => e) (by have := R.str (G := G) (σ := σ) x.cps.toList s.toks; simpa using this))
theorem e_bool {b : Bool} {k : Nat} {pos : Pos} (g : Go C G s) : EvE C A (eval (.Constant (.bool b) k pos) env) G σ (.raw (.bool b)) s := fun _ _ h =>
  wpAny_Constant_bool (h _ _ G (Step.refl g) (.raw _))
theorem e_none {k : Nat} {pos : Pos} (g : Go C G s) : EvE C A (eval (.Constant .none k pos) env) G σ (.raw .none) s := fun _ _ h =>
  wpAny_Constant_none (h _ _ G (Step.refl g) (.raw _))
omit ok in
theorem e_var {x : Str} {pos : Pos} {d : D} {v : Value} (eo : EnvOk C env) (g : Go C G s) (hl : Look env s.heap x v) (hr : R G σ d v) (hd : (x == ("__debug__" : Str)) = false) (hn : (x == ("__classdict__" : Str)) = false) : EvE C A (eval (.Name x pos) env) G σ d s := fun _ _ h => by
  have q := h v s G (Step.refl g) hr
  rcases hl with ⟨hk, m, hm, hv⟩ | ⟨hk, c, hc, hv⟩
  · exact wpAny_Name (wpAny_loadName_local eo.kind hk hm hv q) hd
  · rcases hk with hk | hk
    · exact wpAny_Name (wpAny_loadName_cell eo.kind hk hc hv q) hd
    · exact wpAny_Name (wpAny_loadName_free eo.kind hk hc hv q hn) hd
theorem Go.ns_g (g : Go C G s) : s.heap.Ns mainGlobals C.mg := by
  obtain ⟨o, es, ep, ho, r⟩ := ok.g
  exact ⟨o, es, ep, g.sok.keep _ _ ho ok.gT, r⟩
theorem Go.ns_b (g : Go C G s) : s.heap.Ns builtinsNs C.mb := by
  obtain ⟨o, es, ep, ho, r⟩ := ok.b
  exact ⟨o, es, ep, g.sok.keep _ _ ho ok.bT, r⟩
theorem Go.lim (g : Go C G s) : s.heap.NoLimit := by
  obtain ⟨mc, ⟨o, es, ep, ho, r⟩, h⟩ := ok.lim
  exact ⟨mc, ⟨o, es, ep, g.sok.keep _ _ ho ok.sT, r⟩, h⟩
theorem e_glob {x : Str} {pos : Pos} {v : Value} (eo : EnvOk C env) (g : Go C G s) (hk : env.kindOf x = some .globalImplicit) (hv : C.mg x = some v) (hd : (x == ("__debug__" : Str)) = false) : EvE C A (eval (.Name x pos) env) G σ (.raw v) s := fun _ _ h =>
  Name_function_global eo.kind hk (loadGlobal_global (env := env) (by rw [eo.g]; exact g.ns_g ok) hv (h _ _ G (Step.refl g) (.raw _))) hd
theorem e_builtin {x : Str} {pos : Pos} {v : Value} (eo : EnvOk C env) (g : Go C G s) (hk : env.kindOf x = some .globalImplicit) (hg : C.mg x = none) (hv : C.mb x = some v) (hd : (x == ("__debug__" : Str)) = false) : EvE C A (eval (.Name x pos) env) G σ (.raw v) s := fun _ _ h =>
  Name_function_global eo.kind hk (loadGlobal_builtin (env := env) (by rw [eo.g]; exact g.ns_g ok) hg (by rw [eo.b]; exact g.ns_b ok) hv (h _ _ G (Step.refl g) (.raw _))) hd
end
end Mine
end TA1
section TA2
open PySem PySem.W PyProof.Rows PySem.Calls
namespace Mine

/-- a new object behind a push -/
theorem Step.push {C : Cx} (ok : C.Ok) {G : PH} {s : Shared} (g : Go C G s) {o : Obj} {tk : Nat} (hf : o.isFreed = false) (ht : s.toks ≤ tk) : Step C G s (G.put s.heap.objs.size o) { s with heap := s.heap.push o, toks := tk } :=
  Step.news ok g (fun _ _ e => Heap.get?_push_of_some _ e) (get_size _) (Heap.get?_push_size _ hf) ht
theorem PH.put_self (G : PH) (a : Addr) (o : Obj) : G.put a o a = some o := by simp [PH.put]
theorem Step.tick {C : Cx} (ok : C.Ok) {G : PH} {s : Shared} (g : Go C G s) {tk : Nat} (ht : s.toks ≤ tk) : Step C G s G { s with toks := tk } := Step.keeps (h' := s.heap) ok g (fun _ _ e => e) ht

noncomputable def onI2 (x y : D) (f : Int → Int → Option D) : Option D := match x with
  | .int a => (match y with | .int b => f a b | _ => none)
  | _ => none
theorem onI2_e {x y d : D} {f : Int → Int → Option D} {P : D → D → Prop} (h : onI2 x y f = some d) (hp : ∀ a b, f a b = some d → P (.int a) (.int b)) : P x y := by
  cases x <;> first | (cases y <;> first | exact hp _ _ h | cases h) | cases h
noncomputable def addD (x y : D) : Option D := match x with
  | .int a => (match y with | .int b => some (.int (a + b)) | _ => none)
  | .str a => (match y with | .str b => if a.length + b.length ≤ 16777216 then some (.str (a ++ b)) else none | _ => none)
  | .lst a => (match y with | .lst b => if a.length + b.length ≤ 16777216 then some (.lst (a ++ b)) else none | _ => none)
  | _ => none
theorem addD_e {x y d : D} {P : D → D → D → Prop} (h : addD x y = some d) (hi : ∀ a b, P (.int a) (.int b) (.int (a + b))) (hs : ∀ a b, a.length + b.length ≤ 16777216 → P (.str a) (.str b) (.str (a ++ b))) (hl : ∀ a b, a.length + b.length ≤ 16777216 → P (.lst a) (.lst b) (.lst (a ++ b))) : P x y d := by
  cases x with
  | int a => cases y <;> first | (cases h; exact hi _ _) | cases h
  | str a =>
    cases y with
    | str b =>
      have h : (if a.length + b.length ≤ 16777216 then some (D.str (a ++ b)) else none) = some d := h
      split at h <;> cases h
      exact hs _ _ ‹_›
    | _ => cases h
  | lst a =>
    cases y with
    | lst b =>
      have h : (if a.length + b.length ≤ 16777216 then some (D.lst (a ++ b)) else none) = some d := h
      split at h <;> cases h
      exact hl _ _ ‹_›
    | _ => cases h
  | _ => cases h
noncomputable def binD : Operator → D → D → Option D
  | .Add, x, y => addD x y
  | .Sub, x, y => onI2 x y fun a b => some (.int (a - b))
  | .Mult, x, y => onI2 x y fun a b => if 0 < b ∧ b < 1073741824 then some (.int (a * b)) else none
  | .FloorDiv, x, y => onI2 x y fun a b => if 0 < b ∧ b < 1073741824 then some (.int (a.fdiv b)) else none
  | .Mod, x, y => onI2 x y fun a b => if 0 < b ∧ b < 1073741824 then some (.int (a.fmod b)) else none
  | _, _, _ => none

section
variable {C : Cx} (ok : C.Ok) {A : Around} {G : PH} {σ : Addr} {s : Shared}
include ok

theorem mk_str {x : Str} {t : Tok} : R G σ (.str x.cps.toList) (.str x t) := by
  have := R.str (G := G) (σ := σ) x.cps.toList t
  simpa using this

omit ok in
theorem R.list_at (g : Go C G s) {ds : List D} {v : Value} (h : R G σ (.lst ds) v) : ∃ a vs, v = .ref a ∧ s.heap.IsList a vs.toArray ∧ RL G σ ds vs := by
  cases h with
  | lst ho hc hd hr => exact ⟨_, _, rfl, ⟨_, g.le _ _ ho, hc, _, hd⟩, hr⟩

theorem bin_ok {op : Operator} {a b d : D} {va vb : Value} (g : Go C G s) (ha : R G σ a va) (hb : R G σ b vb) (e : binD op a b = some d) : EvE C A (binaryOp op va vb) G σ d s := by
  cases op
  case Add =>
   revert ha hb
   apply addD_e (show addD a b = some d from e)
   · intro a b ha hb Q E h
     apply R.int_e ha; intro _; apply R.int_e hb; intro _
     exact P.add_int (h _ _ G (Step.tick (ht := by first | exact Nat.le_refl _ | exact Nat.le_succ _ | omega) ok g) (.int _ _))
   · intro a b hl ha hb Q E h
     apply R.str_e ha; intro _; apply R.str_e hb; intro _
     refine P.add_str ?_
     have e1 : (⟨a.toArray⟩ : Str).length = a.length := by simp [Str.length]
     have e2 : (⟨b.toArray⟩ : Str).length = b.length := by simp [Str.length]
     rw [e1, e2]
     split
     · rename_i z
       have : a = [] := by simpa using z
       subst this
       exact h _ _ G (Step.refl g) (.str _ _)
     · split
       · rename_i z
         have : b = [] := by simpa using z
         subst this
         rw [List.append_nil] at h
         exact h _ _ G (Step.refl g) (.str _ _)
       · refine ⟨by show (a.toArray ++ b.toArray).size ≤ sizeLine; simp [sizeLine]; omega, h _ _ G (Step.tick (ht := by first | exact Nat.le_refl _ | exact Nat.le_succ _ | omega) ok g) ?_⟩
         have : ((⟨a.toArray⟩ : Str) ++ (⟨b.toArray⟩ : Str)) = ⟨(a ++ b).toArray⟩ := by
           show Str.append _ _ = _
           simp [Str.append]
         rw [this]
         exact .str _ _
   · intro a b hl ha hb Q E h
     obtain ⟨l, vs, rfl, hla, ra⟩ := ha.list_at g
     obtain ⟨k, ws, rfl, hlb, rb⟩ := hb.list_at g
     obtain ⟨⟨cls, dd, data, sl⟩, ho, hc, n, hd⟩ := id hla
     obtain ⟨⟨cls2, dd2, data2, sl2⟩, ho2, hc2, n2, hd2⟩ := id hlb
     simp only at hc hd hc2 hd2
     subst hc hd hc2 hd2
     have e : vs.toArray ++ ws.toArray = (vs ++ ws).toArray := by simp
     refine concat_meets ⟨_, ho, rfl⟩ ⟨_, ho2, rfl⟩ noFill_list_add seq_list_add PySem.F.slot_list_add PySem.F.entry_list_add (PySem.F.args_list_add_2 _ _) (list_addW l k vs.toArray ws.toArray n n2 dd dd2 sl sl2 (by simp [ra.length, rb.length, sizeLine]; omega)) ⟨ho, ho2, ?_⟩
     rw [e]
     exact h _ _ _ (Step.push (ht := by first | exact Nat.le_refl _ | exact Nat.le_succ _ | omega) ok g rfl) (.lst (PH.put_self ..) rfl rfl ((ra.append rb).mono (Step.push (ht := by first | exact Nat.le_refl _ | exact Nat.le_succ _ | omega) ok g (o := { cls := .type "list", data := .seq (vs ++ ws).toArray }) (tk := s.toks) rfl).le))
  case Sub =>
    revert ha hb
    apply onI2_e (show onI2 a b _ = some d from e)
    intro a b e ha hb Q E h
    cases e; apply R.int_e ha; intro _; apply R.int_e hb; intro _
    exact P.sub_int (h _ _ G (Step.tick (ht := by first | exact Nat.le_refl _ | exact Nat.le_succ _ | omega) ok g) (.int _ _))
  case Mult =>
    revert ha hb
    apply onI2_e (show onI2 a b _ = some d from e)
    intro a b e ha hb Q E h
    split at e <;> cases e
    rename_i hl
    apply R.int_e ha; intro _; apply R.int_e hb; intro _
    exact P.mul_int (h _ _ G (Step.tick (ht := by first | exact Nat.le_refl _ | exact Nat.le_succ _ | omega) ok g) (.int _ _)) (IntMulOk.of_right (intBits_le_64 (by omega) (by omega)))
  case FloorDiv =>
    revert ha hb
    apply onI2_e (show onI2 a b _ = some d from e)
    intro a b e ha hb Q E h
    split at e <;> cases e
    rename_i hl
    apply R.int_e ha; intro _; apply R.int_e hb; intro _
    exact floordiv_int (by omega) (h _ _ G (Step.tick (ht := by first | exact Nat.le_refl _ | exact Nat.le_succ _ | omega) ok g) (.int _ _)) (Or.inl (PyProof.noPylong_small (by omega)))
  case Mod =>
    revert ha hb
    apply onI2_e (show onI2 a b _ = some d from e)
    intro a b e ha hb Q E h
    split at e <;> cases e
    rename_i hl
    apply R.int_e ha; intro _; apply R.int_e hb; intro _
    exact mod_int' (by omega) (h _ _ G (Step.tick (ht := by first | exact Nat.le_refl _ | exact Nat.le_succ _ | omega) ok g) (.int _ _))
  all_goals cases e

theorem e_bin {env : Env} {l r : Expr} {op : Operator} {pos : Pos} {a b d : D}
    (hl : EvE C A (eval l env) G σ a s) (hr : ∀ G' s', Step C G s G' s' → EvE C A (eval r env) G' σ b s') (e : binD op a b = some d) : EvE C A (eval (.BinOp l op r pos) env) G σ d s := fun Q E h =>
  wpAny_BinOp (hl _ _ fun va s1 G1 S1 ra => hr G1 s1 S1 _ _ fun vb s2 G2 S2 rb => bin_ok ok S2.go (ra.mono S2.le) rb e _ _ fun v s3 G3 S3 r => h v s3 G3 (S1.trans (S2.trans S3)) r)
end
end Mine
end TA2
section TA3
open PySem PySem.W PyProof.Rows PySem.Calls
namespace Mine

noncomputable def vB : Value → Option Bool
  | .bool b => some b
  | _ => none
noncomputable def rawB : D → Option Bool
  | .raw v => vB v
  | _ => none
noncomputable def asI : D → Option Int
  | .int i => some i
  | _ => none
noncomputable def strOf : D → Option (List Nat)
  | .str l => some l
  | _ => none
noncomputable def asL : D → Option (List D)
  | .lst l => some l
  | _ => none
noncomputable def asT : D → Option (List D)
  | .tup l => some l
  | _ => none
noncomputable def starOf : D → Option Unit
  | .star => some ()
  | _ => none
theorem vB_some {v : Value} {b : Bool} (h : vB v = some b) : v = .bool b := by
  cases v <;> first | exact congrArg Value.bool (Option.some.inj h) | exact no_some h
theorem rawB_i {d : D} {b : Bool} (h : rawB d = some b) : d = .raw (.bool b) := by
  cases d <;> first | exact congrArg D.raw (vB_some h) | exact no_some h
theorem asI_some {d : D} {i : Int} (h : asI d = some i) : d = .int i := by
  cases d <;> first | exact congrArg D.int (Option.some.inj h) | exact no_some h
theorem strOf_i {d : D} {l : List Nat} (h : strOf d = some l) : d = .str l := by
  cases d <;> first | exact congrArg D.str (Option.some.inj h) | exact no_some h
theorem asL_some {d : D} {l : List D} (h : asL d = some l) : d = .lst l := by
  cases d <;> first | exact congrArg D.lst (Option.some.inj h) | exact no_some h
theorem asT_i {d : D} {l : List D} (h : asT d = some l) : d = .tup l := by
  cases d <;> first | exact congrArg D.tup (Option.some.inj h) | exact no_some h
theorem starOf_i {d : D} {u : Unit} (h : starOf d = some u) : d = .star := by
  cases d <;> first | rfl | exact no_some h

noncomputable def oneO {α β : Type} (l : List α) (k : α → Option β) : Option β := match l with
  | [x] => k x
  | _ => none
theorem oneO_e {α β : Type} {l : List α} {k : α → Option β} {b : β} {P : List α → Prop} (h : oneO l k = some b) (hp : ∀ x, k x = some b → P [x]) : P l := by
  cases l with
  | nil => exact no_some h
  | cons x l => cases l with
    | nil => exact hp x h
    | cons _ _ => exact no_some h
/-- same kind, equal or not -/
noncomputable def eqD : D → D → Option Bool
  | .int a, y => (asI y).map (a == ·)
  | .str a, y => (strOf y).map (a == ·)
  | .raw v, y => (vB v).bind fun a => (rawB y).map (a == ·)
  | _, _ => none
noncomputable def anyEq (x : D) : List D → Option Bool
  | [] => some false
  | d :: r => (eqD d x).bind fun b => (anyEq x r).map (b || ·)
noncomputable def strIn (y x : List Nat) : Bool := !(Builtin.Str.occurrences ⟨x.toArray⟩ ⟨y.toArray⟩ 0 x.length 1).isEmpty
noncomputable def inD (x : D) : D → Option Bool
  | .str z => (strOf x).map fun y => strIn y z
  | .lst l => anyEq x l
  | .tup l => anyEq x l
  | _ => none
noncomputable def isD : D → D → Option Bool
  | .star, y => (starOf y).map fun _ => true
  | .str _, y => (starOf y).map fun _ => false
  | .raw v, y => (vB v).bind fun a => (rawB y).map (a == ·)
  | _, _ => none
noncomputable def cmpT (fi : Int → Int → Bool) (fs : List Nat → List Nat → Option Bool) : D → D → Option Bool
  | .int a, y => (asI y).map (fi a)
  | .str a, y => (strOf y).bind (fs a)
  | _, _ => none
noncomputable def cmpD : CmpOp → D → D → Option Bool
  | .Eq, a, b => cmpT (fun a b => a == b) (fun a b => some (a == b)) a b
  | .NotEq, a, b => (eqD a b).map (!·)
  | .Lt, a, b => cmpT (fun a b => decide (a < b)) (fun _ _ => none) a b
  | .LtE, a, b => cmpT (fun a b => decide (a ≤ b)) (fun a b => some (!decide (b < a))) a b
  | .Gt, a, b => cmpT (fun a b => decide (a > b)) (fun a b => some (decide (b < a))) a b
  | .GtE, a, b => cmpT (fun a b => decide (a ≥ b)) (fun _ _ => none) a b
  | .In, a, b => inD a b
  | .NotIn, a, b => (inD a b).map (!·)
  | .Is, a, b => isD a b
  | .IsNot, a, b => (isD a b).map (!·)
theorem eqD_e {x y : D} {r : Bool} {P : D → D → Prop} (e : eqD x y = some r) (h1 : ∀ a b, (a == b) = r → P (.int a) (.int b)) (h2 : ∀ a b, (a == b) = r → P (.str a) (.str b)) (h3 : ∀ a b : Bool, (a == b) = r → P (.raw (.bool a)) (.raw (.bool b))) : P x y := by
  cases x with
  | int a => apply ms_e e; intro b q e; rw [asI_some q]; exact h1 a b e
  | str a => apply ms_e e; intro b q e; rw [strOf_i q]; exact h2 a b e
  | raw v =>
    apply bs_e e; clear e; intro a q e
    rw [vB_some q]
    apply ms_e e; intro b q e
    rw [rawB_i q]
    exact h3 a b e
  | _ => exact no_some e
theorem cmpT_e {fi : Int → Int → Bool} {fs : List Nat → List Nat → Option Bool} {x y : D} {r : Bool} {P : D → D → Prop} (e : cmpT fi fs x y = some r) (h1 : ∀ a b, fi a b = r → P (.int a) (.int b)) (h2 : ∀ a b, fs a b = some r → P (.str a) (.str b)) : P x y := by
  cases x with
  | int a => apply ms_e e; intro b q e; rw [asI_some q]; exact h1 a b e
  | str a => apply bs_e e; intro b q e; rw [strOf_i q]; exact h2 a b e
  | _ => exact no_some e

/-- evaluation to a bool -/
noncomputable def EvB (C : Cx) (A : Around) (t : Sem Bool) (G : PH) (b : Bool) (s : Shared) : Prop :=
  ∀ (Q : Bool → Shared → Prop) (E : Value → Shared → Prop), (∀ s' G', Step C G s G' s' → Q b s') → wpAny (model C.prog C.w) A t Q E s

noncomputable def valEq (x y : Value) : Bool := match y, x with
  | .int a _, .int b _ => a == b
  | .str a _, .str b _ => a.cps.toList == b.cps.toList
  | .bool a, .bool b => a == b
  | _, _ => false
theorem eqGives {G : PH} {σ : Addr} {y x : D} {vy vx : Value} {b : Bool} (hy : R G σ y vy) (hx : R G σ x vx) (e : eqD y x = some b) (A : Around) (s : Shared) : SeqAt.EqAt A s vy vx (valEq vx vy) ∧ valEq vx vy = b := by
  revert hy hx
  apply eqD_e e <;> clear e
  · intro a c e hy hx
    apply hy.int_e; intro t; apply hx.int_e; intro u
    exact ⟨(MeetsSeq.EqGives.int _ _ _ _).at A s, e⟩
  · intro a c e hy hx
    apply hy.str_e; intro t; apply hx.str_e; intro u
    exact ⟨(SeqRoads2.EqGives.str _ _ _ _).at A s, e⟩
  · intro a c e hy hx
    apply hy.raw_e; apply hx.raw_e
    exact ⟨SeqAt.EqAt.bool_bool _ _, e⟩
theorem anyGives {G : PH} {σ : Addr} {x : D} {vx : Value} (hx : R G σ x vx) (A : Around) (s : Shared) {ds : List D} {vs : List Value} (h : RL G σ ds vs) : ∀ {b : Bool}, anyEq x ds = some b → (∀ y ∈ vs, SeqAt.EqAt A s y vx (valEq vx y)) ∧ vs.any (valEq vx) = b :=
  h.ind (P := fun ds vs => ∀ {b : Bool}, anyEq x ds = some b → (∀ y ∈ vs, SeqAt.EqAt A s y vx (valEq vx y)) ∧ vs.any (valEq vx) = b) (fun e => ⟨nofun, Option.some.inj e⟩) fun d v ds vs h _ ih {b} e => by
    apply bs_e e; clear e; intro b1 e1 e
    apply ms_e e; clear e; intro c1 e2 e
    have k := eqGives h hx e1 A s
    have z := ih e2
    refine ⟨fun y hy => ?_, by rw [List.any_cons, z.2, k.2]; exact e⟩
    rcases List.mem_cons.mp hy with q | hy
    · rw [q]; exact k.1
    · exact z.1 y hy

section
variable {C : Cx} (ok : C.Ok) {A : Around} {G : PH} {σ : Addr} {s : Shared}
include ok
omit ok in
theorem R.tup_at (g : Go C G s) {ds : List D} {v : Value} (h : R G σ (.tup ds) v) : ∃ a vs, v = .ref a ∧ s.heap.IsTuple a vs.toArray ∧ RL G σ ds vs := by
  cases h with
  | tup ho hc hd hr => exact ⟨_, _, rfl, ⟨_, g.le _ _ ho, hc, _, hd⟩, hr⟩
theorem in_ok {x c : D} {vx vc : Value} {b : Bool} (g : Go C G s) (hx : R G σ x vx) (hc : R G σ c vc) (e : inD x c = some b) :
    EvE C A (compareOp .In vx vc) G σ (.raw (.bool b)) s ∧ EvE C A (compareOp .NotIn vx vc) G σ (.raw (.bool !b)) s := by
  have w : ∀ (b : Bool) {Q : Value → Shared → Prop}, (∀ v s' G', Step C G s G' s' → R G' σ (.raw (.bool b)) v → Q v s') → Q (.bool b) s := fun b {Q} h => h _ _ G (Step.refl g) (.raw _)
  have many : ∀ {l : List D} {vs : List Value}, RL G σ l vs → anyEq x l = some b → (∀ y, y ∈ vs.toArray → SeqAt.EqAt A.in1 s y vx (valEq vx y)) ∧ vs.toArray.any (valEq vx) = b := fun hr e =>
    have k := anyGives hx A.in1 s hr e
    ⟨fun y hy => k.1 y (List.mem_toArray.mp hy), (List.any_toArray ..).trans k.2⟩
  cases c with
  | str z =>
    apply ms_e e; clear e; intro y q e
    rw [strOf_i q] at hx
    apply hx.str_e; intro t; apply hc.str_e; intro u
    rw [← e]
    refine ⟨fun Q E h => P.in_str ?_, fun Q E h => P.notIn_str ?_⟩
    · have := w _ h
      unfold strIn at this
      rw [← List.size_toArray] at this
      exact this
    · have := w _ h
      unfold strIn at this
      rw [← List.size_toArray] at this
      exact this
  | lst l =>
    obtain ⟨a, vs, rfl, hl, hr⟩ := hc.list_at g
    have k := many hr e
    exact ⟨fun Q E h => SeqAt.in_listAt _ hl k.1 (k.2 ▸ w _ h), fun Q E h => SeqAt.notIn_listAt _ hl k.1 (k.2 ▸ w _ h)⟩
  | tup l =>
    obtain ⟨a, vs, rfl, hl, hr⟩ := hc.tup_at g
    have k := many hr e
    exact ⟨fun Q E h => SeqAt.in_tupleAt _ hl k.1 (k.2 ▸ w _ h), fun Q E h => SeqAt.notIn_tupleAt _ hl k.1 (k.2 ▸ w _ h)⟩
  | _ => exact no_some e
theorem is_ok {x c : D} {vx vc : Value} {b : Bool} (g : Go C G s) (hx : R G σ x vx) (hc : R G σ c vc) (e : isD x c = some b) :
    EvE C A (compareOp .Is vx vc) G σ (.raw (.bool b)) s ∧ EvE C A (compareOp .IsNot vx vc) G σ (.raw (.bool !b)) s := by
  have w : ∀ (b : Bool) {Q : Value → Shared → Prop}, (∀ v s' G', Step C G s G' s' → R G' σ (.raw (.bool b)) v → Q v s') → Q (.bool b) s := fun b {Q} h => h _ _ G (Step.refl g) (.raw _)
  cases x with
  | star =>
    apply ms_e e; clear e; intro y q e
    rw [starOf_i q] at hc
    rw [← e]
    cases hx; cases hc
    exact ⟨fun Q E h => wpAny_is_ref_self (w _ h), fun Q E h => wpAny_isNot_ref_self (w _ h)⟩
  | str l =>
    apply ms_e e; clear e; intro y q e
    rw [starOf_i q] at hc
    rw [← e]
    apply hx.str_e; intro t; cases hc
    exact ⟨fun Q E h => wpAny_is_other rfl (by nofun) (w _ h), fun Q E h => wpAny_isNot_other rfl (by nofun) (w _ h)⟩
  | raw v =>
    apply bs_e e; clear e; intro a q e
    rw [vB_some q] at hx
    apply ms_e e; clear e; intro y q e
    rw [rawB_i q] at hc
    rw [← e]
    apply hx.raw_e; apply hc.raw_e
    exact ⟨fun Q E h => is_bool (w _ h), fun Q E h => isnot_bool (w _ h)⟩
  | _ => exact no_some e
theorem cmp_ok {op : CmpOp} {x y : D} {vx vy : Value} {b : Bool} (g : Go C G s) (hx : R G σ x vx) (hy : R G σ y vy) (e : cmpD op x y = some b) : EvE C A (compareOp op vx vy) G σ (.raw (.bool b)) s := by
  have w : ∀ (b : Bool) {Q : Value → Shared → Prop}, (∀ v s' G', Step C G s G' s' → R G' σ (.raw (.bool b)) v → Q v s') → Q (.bool b) s := fun b {Q} h => h _ _ G (Step.refl g) (.raw _)
  have t : ∀ {op : CmpOp} {fi : Int → Int → Bool} {fs : List Nat → List Nat → Option Bool}, cmpT fi fs x y = some b → (∀ p q t u, EvE C A (compareOp op (.int p t) (.int q u)) G σ (.raw (.bool (fi p q))) s) → (∀ p q t u, fs p q = some b → EvE C A (compareOp op (.str ⟨p.toArray⟩ t) (.str ⟨q.toArray⟩ u)) G σ (.raw (.bool b)) s) → EvE C A (compareOp op vx vy) G σ (.raw (.bool b)) s := fun e h1 h2 => by
    revert hx hy
    apply cmpT_e e
    · intro p q e hx hy; apply hx.int_e; intro t; apply hy.int_e; intro u; rw [← e]; exact h1 p q t u
    · intro p q e hx hy; apply hx.str_e; intro t; apply hy.str_e; intro u; exact h2 p q t u e
  cases op with
  | Eq => exact t e (fun p q t u Q E h => P.eq_int (w _ h)) fun p q t u e Q E h => P.eq_str (w _ (Option.some.inj e ▸ h))
  | NotEq =>
    apply ms_e e; clear e; intro c e q
    rw [← q]
    clear t q
    revert hx hy
    apply eqD_e e
    · intro p q e hx hy; rw [← e]; apply hx.int_e; intro t; apply hy.int_e; intro u; exact fun Q E h => P.ne_int (w _ h)
    · intro p q e hx hy; rw [← e]; apply hx.str_e; intro t; apply hy.str_e; intro u; exact fun Q E h => P.ne_str (w _ h)
    · intro p q e hx hy; rw [← e]; apply hx.raw_e; apply hy.raw_e; exact fun Q E h => ne_bool (w _ h)
  | Lt => exact t e (fun p q t u Q E h => P.lt_int (w _ h)) fun p q t u e => no_some e
  | LtE => exact t e (fun p q t u Q E h => P.le_int (w _ h)) fun p q t u e Q E h => P.le_str (w _ (Option.some.inj e ▸ h))
  | Gt => exact t e (fun p q t u Q E h => P.gt_int (w _ h)) fun p q t u e Q E h => P.gt_str (w _ (Option.some.inj e ▸ h))
  | GtE => exact t e (fun p q t u Q E h => P.ge_int (w _ h)) fun p q t u e => no_some e
  | In => exact (in_ok ok g hx hy e).1
  | NotIn =>
    apply ms_e e; clear e; intro c e q
    rw [← q]
    exact (in_ok ok g hx hy e).2
  | Is => exact (is_ok ok g hx hy e).1
  | IsNot =>
    apply ms_e e; clear e; intro c e q
    rw [← q]
    exact (is_ok ok g hx hy e).2
end
end Mine
end TA3
section TA4
open PySem PySem.W PyProof.Rows PySem.Calls
namespace Mine

noncomputable def fit {α : Type} (l : List α) : Bool := Nat.ble l.length 16777216
theorem fit_iff {α : Type} {l : List α} : fit l = true ↔ l.length ≤ 16777216 := ⟨Nat.le_of_ble_eq_true, Nat.ble_eq_true_of_le⟩
noncomputable def truthD : D → Option Bool
  | .raw (.bool b) => some b
  | .int i => some (i != 0)
  | .str l => if fit l then some (!l.isEmpty) else none
  | .lst l => if fit l then some (!l.isEmpty) else none
  | .tup l => if fit l then some (!l.isEmpty) else none
  | _ => none
noncomputable def pick {α : Type} (l : List α) (i : Int) : Option α :=
  if 0 ≤ i then (if i < 9223372036854775808 then l[i.toNat]? else none) else if -(l.length : Int) ≤ i ∧ -9223372036854775808 ≤ i then l[(i + l.length).toNat]? else none
noncomputable def idxD : D → Int → Option D
  | .str l, i => (pick l i).map fun c => .str [c]
  | .lst l, i => pick l i
  | .tup l, i => pick l i
  | _, _ => none
noncomputable def cut {α : Type} (l : List α) (lo hi : Option Int) : List α :=
  (l.drop (lo.elim 0 (clipAt l.length))).take (hi.elim l.length (clipAt l.length) - lo.elim 0 (clipAt l.length))
noncomputable def sliceD : D → Option Int → Option Int → Option D
  | .str l, lo, hi => if fit l then some (.str (cut l lo hi)) else none
  | .lst l, lo, hi => if fit l then some (.lst (cut l lo hi)) else none
  | _, _, _ => none

theorem pick_seqIndex {α : Type} {l : List α} {i : Int} {x : α} (h : pick l i = some x) : ∃ j, seqIndex? i l.length = some j ∧ l[j]? = some x ∧ -(2 ^ 63) ≤ i ∧ i < 2 ^ 63 := by
  unfold pick at h
  unfold seqIndex?
  split at h
  · split at h
    · rename_i h0 h1
      have hlt : i.toNat < l.length := (List.getElem?_eq_some_iff.mp h).1
      refine ⟨i.toNat, ?_, h, by lia, by lia⟩
      simp only [show ¬ i < 0 by lia, if_false]
      rw [if_pos (by simp; lia)]
    · cases h
  · split at h
    · rename_i h0 h1
      have hlt := (List.getElem?_eq_some_iff.mp h).1
      refine ⟨(i + l.length).toNat, ?_, h, by lia, by lia⟩
      simp only [show i < 0 by lia, if_true]
      rw [if_pos (by simp; lia)]
    · cases h
theorem strSlice_plain (lo hi : Option Int) (n : Nat) : Builtin.Str.strSliceIndices lo hi 1 n = sliceRange ((lo.elim 0 (clipAt n) : Nat) : Int) ((hi.elim n (clipAt n) : Nat) : Int) 1 := by
  cases lo <;> cases hi <;> simp [Builtin.Str.strSliceIndices, clipAt_cast]
theorem strSlice_pick (l : List Nat) (lo hi : Option Int) : (Builtin.Str.strSliceIndices lo hi 1 l.length).filterMap (l.toArray[·]?) = cut l lo hi := by
  rw [strSlice_plain]
  simp only [sliceRange_one, pick_run]
  rfl

section
variable {C : Cx} (ok : C.Ok) {A : Around} {G : PH} {σ : Addr} {s : Shared} {env : Env}
include ok

theorem truth_ok {d : D} {v : Value} {b : Bool} (g : Go C G s) (hr : R G σ d v) (e : truthD d = some b) : EvB C A (truthy v) G b s := fun Q E h => by
  unfold truthD at e
  split at e
  · cases e; cases hr
    exact wpAny_truthy_bool (h s G (Step.refl g))
  · cases e; cases hr
    exact P.truthy_int (h s G (Step.refl g))
  · split at e <;> cases e
    rename_i l hf
    have hf := fit_iff.mp hf
    cases hr
    refine P.truthy_str (by simp [Str.length]; lia) ?_
    have : ((((⟨l.toArray⟩ : Str).length : Nat) : Int) != 0) = !l.isEmpty := by
      cases l <;> simp [Str.length]
      lia
    rw [this]
    exact h _ G (Step.tick (ht := by first | exact Nat.le_refl _ | exact Nat.le_succ _ | omega) ok g)
  · split at e <;> cases e
    rename_i l hf
    have hf := fit_iff.mp hf
    obtain ⟨a, vs, rfl, hl, hr'⟩ := hr.list_at g
    refine wpAny_truthy_list hl (by simp [hr'.length]; lia) ?_
    have : (!vs.toArray.isEmpty) = !l.isEmpty := by
      have := hr'.length
      cases l <;> cases vs <;> simp_all
    rw [this]
    exact h _ G (Step.tick (ht := by first | exact Nat.le_refl _ | exact Nat.le_succ _ | omega) ok g)
  · split at e <;> cases e
    rename_i l hf
    have hf := fit_iff.mp hf
    obtain ⟨a, vs, rfl, hl, hr'⟩ := hr.tup_at g
    refine truthy_tuple hl (by simp [hr'.length]; lia) ?_
    have : (!vs.toArray.isEmpty) = !l.isEmpty := by
      have := hr'.length
      cases l <;> cases vs <;> simp_all
    rw [this]
    exact h _ G (Step.tick (ht := by first | exact Nat.le_refl _ | exact Nat.le_succ _ | omega) ok g)
  · cases e

theorem getItem_ok {d r : D} {v : Value} {i : Int} {t : Tok} (g : Go C G s) (hr : R G σ d v) (e : idxD d i = some r) : EvE C A (getItem v (.int i t)) G σ r s ∧ ∃ T id, s.TypeIs v T ∧ typeLookup (.type T) "__getitem__" = pure (some (.builtin id)) := by
  unfold idxD at e
  split at e
  · rename_i l i
    obtain ⟨c, hc, rfl⟩ := Option.map_eq_some_iff.mp e
    cases hr
    obtain ⟨j, hj, hx, h1, h2⟩ := pick_seqIndex hc
    refine ⟨fun Q E h => P.getItem_str (c := c) (by simp; lia) ?_ ?_, "str", _, typeIs_str _ _ _, F.slot_str_getitem.lookup⟩
    · simp only [Str.length, List.size_toArray]
      rw [hj]
      simpa using hx
    · have := h _ _ G (Step.tick (ht := by first | exact Nat.le_refl _ | exact Nat.le_succ _ | omega) ok g (tk := s.toks + 1)) (.str [c] s.toks)
      exact this
  · obtain ⟨a, vs, rfl, hl, hr'⟩ := hr.list_at g
    rename_i l i
    refine ⟨fun Q E h => ?_, "list", _, hl.typeIs, slot_list_getitem.lookup⟩
    unfold pick at e
    split at e
    · split at e
      · obtain ⟨v, hv, rv⟩ := hr'.get e
        exact wpAny_getItem_list hl (by lia) (by lia) (by simpa using hv) (h _ _ G (Step.refl g) rv)
      · cases e
    · split at e
      · obtain ⟨v, hv, rv⟩ := hr'.get e
        exact wpAny_getItem_list_neg hl (by lia) (by simp [hr'.length]; lia) (by lia) (by simpa [hr'.length] using hv) (h _ _ G (Step.refl g) rv)
      · cases e
  · obtain ⟨a, vs, rfl, hl, hr'⟩ := hr.tup_at g
    obtain ⟨j, hj, hx, h1, h2⟩ := pick_seqIndex e
    obtain ⟨v, hv, rv⟩ := hr'.get hx
    exact ⟨fun Q E h => getItem_tuple hl h1 h2 (by simpa [hr'.length] using hj) (by simpa using hv) (h _ _ G (Step.refl g) rv), "tuple", _, ⟨_, hl.choose_spec.1, hl.choose_spec.2.1⟩, slot_tuple_getitem.lookup⟩
  · cases e

/-- an item -/
theorem e_idx {value slice : Expr} {pos : Pos} {a r : D} {i : Int} (hv : EvE C A (eval value env) G σ a s) (hi : ∀ G' s', Step C G s G' s' → EvE C A (eval slice env) G' σ (.int i) s')
    (hs : ∀ o x, subscripted slice false o x = operate [o, x] (getItem o x)) (e : idxD a i = some r) : EvE C A (eval (.Subscript value slice pos) env) G σ r s := fun Q E h =>
  Subscript_ (hv _ _ fun va s1 G1 S1 ra => hi G1 s1 S1 _ _ fun vi s2 G2 S2 ri => by
    cases ri
    obtain ⟨z, T, id, hT, hl⟩ := getItem_ok ok (t := ‹Tok›) (A := A) S2.go (ra.mono S2.le) e
    exact tail_any hT hl (z _ _ fun v s3 G3 S3 r3 => h v s3 G3 (S1.trans (S2.trans S3)) r3) (hs _ _))

/-- a test by a comparison, a value by a comparison -/
theorem e_cmp {l r : Expr} {op : CmpOp} {pos : Pos} {a b : D} {c : Bool} (hl : EvE C A (eval l env) G σ a s) (hr : ∀ G' s', Step C G s G' s' → EvE C A (eval r env) G' σ b s') (e : cmpD op a b = some c)
    (hm : behindInMarks op r = false) : EvE C A (eval (.Compare l [op] [r] pos) env) G σ (.raw (.bool c)) s := fun Q E h =>
  wpAny_Compare1 (hl _ _ fun va s1 G1 S1 ra => hr G1 s1 S1 _ _ fun vb s2 G2 S2 rb => cmp_ok ok S2.go (ra.mono S2.le) rb e _ _ fun v s3 G3 S3 r => h v s3 G3 (S1.trans (S2.trans S3)) r) hm
theorem t_cmp {l r : Expr} {op : CmpOp} {pos : Pos} {a b : D} {c : Bool} {whole : Sem Value} (hl : EvE C A (eval l env) G σ a s) (hr : ∀ G' s', Step C G s G' s' → EvE C A (eval r env) G' σ b s') (e : cmpD op a b = some c)
    (hm : behindInMarks op r = false) : EvB C A (isTrue (.Compare l [op] [r] pos) env whole) G c s := fun Q E h =>
  wpAny_isTrue_Compare1 (hl _ _ fun va s1 G1 S1 ra => hr G1 s1 S1 _ _ fun vb s2 G2 S2 rb => cmp_ok ok S2.go (ra.mono S2.le) rb e _ _ fun v s3 G3 S3 r => by
    cases r
    exact wpAny_truthy_bool (h s3 G3 (S1.trans (S2.trans S3)))) hm
/-- a test by a value's truth -/
theorem t_val {e : Expr} {d : D} {b : Bool} (he : EvE C A (eval e env) G σ d s) (ht : truthD d = some b)
    (hw : isTrue e env (eval e env) = (do let v ← eval e env; standAt e.pos; holding [v] (truthy v))) : EvB C A (isTrue e env (eval e env)) G b s := fun Q E h => by
  rw [hw]
  exact wpAny_bind (he _ _ fun v s1 G1 S1 r1 => wpAny_bind (wpAny_standAt (wpAny_holding (truth_ok ok S1.go r1 ht _ _ fun s2 G2 S2 => h s2 G2 (S1.trans S2)))))
theorem t_not {x : Expr} {pos : Pos} {b : Bool} {whole : Sem Value} (hx : EvB C A (isTrue x env (eval x env)) G b s) : EvB C A (isTrue (.UnaryOp .Not x pos) env whole) G (!b) s := fun Q E h =>
  wpAny_isTrue_Not (hx _ _ fun s1 G1 S1 => h s1 G1 S1)
theorem t_and2 {x y : Expr} {pos : Pos} {a b : Bool} {whole : Sem Value} (hx : EvB C A (isTrue x env (eval x env)) G a s) (hy : a = true → ∀ G' s', Step C G s G' s' → EvB C A (isTrue y env (eval y env)) G' b s') :
    EvB C A (isTrue (.BoolOp .And [x, y] pos) env whole) G (a && b) s := fun Q E h => by
  show wpAny _ A (allTrue .And [x, y] env) Q E s
  show wpAny _ A (do
    match BoolOp.And, ← isTrue x env (eval x env) with
    | .And, false => pure false
    | .Or, true => pure true
    | _, _ => allTrue .And [y] env) Q E s
  refine wpAny_bind (hx _ _ fun s1 G1 S1 => ?_)
  cases a with
  | false => exact wpAny_pure (h s1 G1 S1)
  | true =>
    show wpAny _ A (do
      match BoolOp.And, ← isTrue y env (eval y env) with
      | .And, false => pure false
      | .Or, true => pure true
      | _, _ => allTrue .And [] env) Q E s1
    refine wpAny_bind (hy rfl G1 s1 S1 _ _ fun s2 G2 S2 => ?_)
    cases b with
    | false => exact wpAny_pure (h s2 G2 (S1.trans S2))
    | true => exact wpAny_pure (h s2 G2 (S1.trans S2))
theorem t_or2 {x y : Expr} {pos : Pos} {a b : Bool} {whole : Sem Value} (hx : EvB C A (isTrue x env (eval x env)) G a s) (hy : a = false → ∀ G' s', Step C G s G' s' → EvB C A (isTrue y env (eval y env)) G' b s') :
    EvB C A (isTrue (.BoolOp .Or [x, y] pos) env whole) G (a || b) s := fun Q E h => by
  show wpAny _ A (do
    match BoolOp.Or, ← isTrue x env (eval x env) with
    | .And, false => pure false
    | .Or, true => pure true
    | _, _ => allTrue .Or [y] env) Q E s
  refine wpAny_bind (hx _ _ fun s1 G1 S1 => ?_)
  cases a with
  | true => exact wpAny_pure (h s1 G1 S1)
  | false =>
    show wpAny _ A (do
      match BoolOp.Or, ← isTrue y env (eval y env) with
      | .And, false => pure false
      | .Or, true => pure true
      | _, _ => allTrue .Or [] env) Q E s1
    refine wpAny_bind (hy rfl G1 s1 S1 _ _ fun s2 G2 S2 => ?_)
    cases b with
    | false => exact wpAny_pure (h s2 G2 (S1.trans S2))
    | true => exact wpAny_pure (h s2 G2 (S1.trans S2))
theorem e_ite {test body orelse : Expr} {pos : Pos} {b : Bool} {d : D} (ht : EvB C A (isTrue test env (eval test env)) G b s)
    (h1 : ∀ G' s', Step C G s G' s' → if b then EvE C A (eval body env) G' σ d s' else EvE C A (eval orelse env) G' σ d s') : EvE C A (eval (.IfExp test body orelse pos) env) G σ d s := fun Q E h =>
  wpAny_IfExp (ht _ _ fun s1 G1 S1 => by
    have z := h1 G1 s1 S1
    cases b with
    | true => exact z _ _ fun v s2 G2 S2 r => h v s2 G2 (S1.trans S2) r
    | false => exact z _ _ fun v s2 G2 S2 r => h v s2 G2 (S1.trans S2) r)
end
end Mine
end TA4
section TA5
open PySem PySem.W PyProof.Rows PySem.Calls
namespace Mine

noncomputable def EvL (C : Cx) (A : Around) (t : Sem (List Value)) (G : PH) (σ : Addr) (ds : List D) (s : Shared) : Prop :=
  ∀ (Q : List Value → Shared → Prop) (E : Value → Shared → Prop), (∀ vs s' G', Step C G s G' s' → RL G' σ ds vs → Q vs s') → wpAny (model C.prog C.w) A t Q E s
noncomputable def notStar : Expr → Bool
  | .Starred .. => false
  | _ => true
theorem starEach_cons {e : Expr} {rest : List Expr} {env : Env} (h : notStar e = true) : starEach (e :: rest) env = (false, eval e env) :: starEach rest env := by
  cases e <;> first | rfl | cases h
noncomputable def plainBase (o : Expr) : Bool := xName o (fun _ _ => true) || xConstant o (fun _ _ _ => true) || xCall o (fun f _ _ _ => xAttribute f fun _ _ _ => true)
theorem attrBase_plain {o : Expr} {a : Str} {env : Env} {w : Sem Value} (h : plainBase o = true) : attributeBase o a env w = w := by
  rcases Bool.or_eq_true_iff.mp h with h | h
  · rcases Bool.or_eq_true_iff.mp h with h | h
    · apply xName_e h; intro x p _; rfl
    · apply xConstant_e h; intro c n p _; rfl
  · apply xCall_e h; intro f a w p h
    apply xAttribute_e h; intro v m q _; rfl
theorem cut_le {α : Type} (l : List α) (lo hi : Option Int) : (cut l lo hi).length ≤ l.length :=
  Nat.le_trans (List.length_take_le' ..) (Nat.le_trans (Nat.le_of_eq List.length_drop) (Nat.sub_le ..))
theorem cut_whole {l : List Nat} {lo hi : Option Int} (h : (Builtin.Str.strSliceIndices lo hi 1 l.length).length = l.length) : cut l lo hi = l := by
  rw [strSlice_plain, sliceRange_one, List.length_map, List.length_range] at h
  have h1 : hi.elim l.length (clipAt l.length) ≤ l.length := by
    cases hi with
    | none => exact Nat.le_refl _
    | some x => have := clipAt_cast l.length x; simp only [Option.elim]; omega
  unfold cut
  generalize hi.elim l.length (clipAt l.length) = b at h h1 ⊢
  generalize lo.elim 0 (clipAt l.length) = a at h ⊢
  cases l with
  | nil => rw [List.drop_nil, List.take_nil]
  | cons x l =>
    rw [show a = 0 by simp only [List.length_cons] at h h1; omega, List.drop_zero, List.take_of_length_le (by simp only [List.length_cons] at h h1 ⊢; omega)]

section
variable {C : Cx} (ok : C.Ok) {A : Around} {G : PH} {σ : Addr} {s : Shared} {env : Env}
include ok

theorem l_nil {pos : Pos} (g : Go C G s) : EvL C A (spliced (backTo pos (starEach [] env))) G σ [] s := fun Q E h => spliced_nil (h _ _ G (Step.refl g) .nil)
theorem l_cons {e : Expr} {rest : List Expr} {pos : Pos} {d : D} {ds : List D} (hn : notStar e = true) (he : EvE C A (eval e env) G σ d s)
    (hr : ∀ G' s', Step C G s G' s' → EvL C A (spliced (backTo pos (starEach rest env))) G' σ ds s') : EvL C A (spliced (backTo pos (starEach (e :: rest) env))) G σ (d :: ds) s := fun Q E h =>
  args_cons (he _ _ fun v s1 G1 S1 r1 => hr G1 s1 S1 _ _ fun vs s2 G2 S2 r2 => h _ s2 G2 (S1.trans S2) (.cons (r1.mono S2.le) r2)) (starEach_cons hn)
theorem e_tup {elts : List Expr} {k : Nat} {pos : Pos} {ds : List D} (h : EvL C A (spliced (backTo pos (starEach elts env))) G σ ds s) (hf : fit ds = true) : EvE C A (eval (.Tuple elts k pos) env) G σ (.tup ds) s := fun Q E hQ =>
  wpAny_Tuple (h _ _ fun vs s1 G1 S1 r1 => ⟨by rw [r1.length]; exact fit_iff.mp hf, hQ _ _ _ (S1.trans (Step.push (ht := by first | exact Nat.le_refl _ | exact Nat.le_succ _ | omega) ok S1.go (tk := s1.toks) rfl)) (.tup (PH.put_self ..) rfl rfl (r1.mono (Step.push (ht := by first | exact Nat.le_refl _ | exact Nat.le_succ _ | omega) ok S1.go (tk := s1.toks) (o := { cls := .type "tuple", data := .seq vs.toArray }) rfl).le))⟩)
theorem e_lst {elts : List Expr} {pos : Pos} {ds : List D} (h : EvL C A (spliced (backTo pos (starEach elts env))) G σ ds s) (hf : fit ds = true) : EvE C A (eval (.List elts pos) env) G σ (.lst ds) s := fun Q E hQ =>
  wpAny_List (h _ _ fun vs s1 G1 S1 r1 => ⟨by rw [r1.length]; exact fit_iff.mp hf, hQ _ _ _ (S1.trans (Step.push (ht := by first | exact Nat.le_refl _ | exact Nat.le_succ _ | omega) ok S1.go (tk := s1.toks) rfl)) (.lst (PH.put_self ..) rfl rfl (r1.mono (Step.push (ht := by first | exact Nat.le_refl _ | exact Nat.le_succ _ | omega) ok S1.go (tk := s1.toks) (o := { cls := .type "list", data := .seq vs.toArray }) rfl).le))⟩)

/-- a slice's part -/
noncomputable def EvP (C : Cx) (A : Around) (t : Sem Value) (G : PH) (p : Option Int) (s : Shared) : Prop :=
  ∀ (Q E : Value → Shared → Prop), (∀ s' G' l, Step C G s G' s' → l.map (·.1) = p → Q (partValue l) s') → wpAny (model C.prog C.w) A t Q E s
theorem p_none (g : Go C G s) : EvP C A (evalPart none env) G none s := fun Q E h => wpAny_pure (h s G none (Step.refl g) rfl)
theorem p_some {e : Expr} {i : Int} (he : EvE C A (eval e env) G σ (.int i) s) : EvP C A (evalPart (some e) env) G (some i) s := fun Q E h =>
  he _ _ fun v s1 G1 S1 r1 => by cases r1; exact h s1 G1 (some (i, _)) S1 rfl
theorem e_sl_str {value : Expr} {lower upper : Option Expr} {p pos : Pos} {l : List Nat} {lo hi : Option Int} (hv : EvE C A (eval value env) G σ (.str l) s) (hl : ∀ G' s', Step C G s G' s' → EvP C A (evalPart lower env) G' lo s')
    (hu : ∀ G' s', Step C G s G' s' → EvP C A (evalPart upper env) G' hi s') (hf : l.length ≤ 16777216) (ht : ∀ o r, letTemporaryGo value o r = pure ()) : EvE C A (eval (.Subscript value (.Slice lower upper none p) pos) env) G σ (.str (cut l lo hi)) s := fun Q E h => by
  refine wpAny_Subscript_str_slice (hv _ _ fun v s1 G1 S1 r1 => hl G1 s1 S1 _ _ fun s2 G2 l2 S2 e2 => hu G2 s2 (S1.trans S2) _ _ fun s3 G3 l3 S3 e3 => ?_) ht
  apply R.str_e r1; intro t
  refine ⟨⟨l.toArray⟩, t, l2, l3, rfl, rfl, rfl, ?_⟩
  unfold sliceMade slicePicked
  simp only [Option.map_none, Option.getD_none, e2, e3]
  rw [show (⟨l.toArray⟩ : Str).length = l.length from List.size_toArray, strSlice_pick]
  have P1 := S1.trans (S2.trans S3)
  have P2 := P1.trans (Step.push (ht := Nat.le_refl _) ok P1.go (tk := s3.toks) (o := { cls := .type "slice", data := .fields #[partValue l2, partValue l3, .none] }) rfl)
  split
  · rename_i hc
    rw [cut_whole (beq_iff_eq.mp hc)] at h
    exact h _ _ _ P2 (.str _ _)
  · exact ⟨Nat.le_trans (Nat.le_of_eq List.size_toArray) (Nat.le_trans (cut_le _ _ _) hf), h _ _ _ (P2.trans (Step.tick (ht := Nat.le_succ _) ok P2.go)) (.str _ _)⟩
theorem e_sl_lst {value : Expr} {lower upper : Option Expr} {p pos : Pos} {l : List D} {lo hi : Option Int} (hv : EvE C A (eval value env) G σ (.lst l) s) (hl : ∀ G' s', Step C G s G' s' → EvP C A (evalPart lower env) G' lo s')
    (hu : ∀ G' s', Step C G s G' s' → EvP C A (evalPart upper env) G' hi s') (hf : l.length ≤ 16777216) (ht : ∀ o r, letTemporaryGo value o r = pure ()) : EvE C A (eval (.Subscript value (.Slice lower upper none p) pos) env) G σ (.lst (cut l lo hi)) s := fun Q E h => by
  refine wpAny_Subscript_list_slice (hv _ _ fun v s1 G1 S1 r1 => hl G1 s1 S1 _ _ fun s2 G2 l2 S2 e2 => hu G2 s2 (S1.trans S2) _ _ fun s3 G3 l3 S3 e3 => ?_) ht
  have P1 := S2.trans S3
  obtain ⟨a, vs, rfl, hla, ra⟩ := (r1.mono P1.le).list_at P1.go
  have part : ∀ l : Option (Int × Tok), IsPart (partValue l) (l.map (·.1)) := fun l => by cases l with
    | none => exact .none
    | some x => exact .int _ _
  refine ⟨a, vs.toArray, _, _, rfl, hla, Nat.le_trans (Nat.le_of_eq (List.size_toArray.trans ra.length)) hf, part l2, part l3, ?_⟩
  have P3 := Step.push (ht := Nat.le_refl _) ok P1.go (tk := s3.toks) (o := { cls := .type "slice", data := .fields #[partValue l2, partValue l3, .none] }) rfl
  have P4 := Step.push (ht := Nat.le_refl _) ok P3.go (tk := s3.toks) (o := { cls := .type "list", data := .seq (slicePick vs.toArray (l2.map (·.1)) (l3.map (·.1)) none) }) rfl
  rw [show s3.heap.objs.size + 1 = (s3.heap.push { cls := .type "slice", data := .fields #[partValue l2, partValue l3, .none] }).objs.size from (Heap.size_push ..).symm]
  refine h _ _ _ (S1.trans (P1.trans (P3.trans P4))) (.lst (vs := cut vs (l2.map (·.1)) (l3.map (·.1))) (n := 0) (PH.put_self ..) rfl ?_ ?_)
  · simp only [slicePick_plain]
    simp [cut]
  · unfold cut
    rw [← e2, ← e3, ra.length]
    exact ((ra.drop _).take _).mono fun a o e => P4.le _ _ (P3.le _ _ e)
theorem e_slice {value : Expr} {lower upper : Option Expr} {p pos : Pos} {d r : D} {lo hi : Option Int} (hv : EvE C A (eval value env) G σ d s) (hl : ∀ G' s', Step C G s G' s' → EvP C A (evalPart lower env) G' lo s')
    (hu : ∀ G' s', Step C G s G' s' → EvP C A (evalPart upper env) G' hi s') (e : sliceD d lo hi = some r) (ht : ∀ o r, letTemporaryGo value o r = pure ()) : EvE C A (eval (.Subscript value (.Slice lower upper none p) pos) env) G σ r s := by
  have k : ∀ {l : List Nat}, EvE C A (eval value env) G σ (.str l) s → (if fit l then some (.str (cut l lo hi)) else none) = some r → EvE C A (eval (.Subscript value (.Slice lower upper none p) pos) env) G σ r s := fun hv e => ite_e e fun hf e =>
    Option.some.inj e ▸ e_sl_str ok hv hl hu (fit_iff.mp hf) ht
  have k2 : ∀ {l : List D}, EvE C A (eval value env) G σ (.lst l) s → (if fit l then some (.lst (cut l lo hi)) else none) = some r → EvE C A (eval (.Subscript value (.Slice lower upper none p) pos) env) G σ r s := fun hv e => ite_e e fun hf e =>
    Option.some.inj e ▸ e_sl_lst ok hv hl hu (fit_iff.mp hf) ht
  cases d <;> first | exact no_some e | exact k hv e | exact k2 hv e
end
end Mine
end TA5
section TA6
open PySem PySem.W PyProof.Rows PySem.Calls
namespace Mine

theorem trees_plain {pos : Pos} {env : Env} : ∀ {args : List Expr}, args.all notStar = true → (backTo pos (starEach args env)).all (fun x => !x.1) = true
  | [], _ => rfl
  | e :: r, h => by
    rw [List.all_cons, Bool.and_eq_true] at h
    rw [starEach_cons h.1]
    show (!false && (backTo pos (starEach r env)).all (fun x => !x.1)) = true
    rw [trees_plain h.2]; rfl
theorem trees_any {pos : Pos} {env : Env} {args : List Expr} (h : args.all notStar = true) : (backTo pos (starEach args env)).any (·.1) = false := by
  have := trees_plain (pos := pos) (env := env) h
  rw [List.any_eq_false]
  intro x hx
  have := List.all_eq_true.mp this x hx
  simpa using this

section
variable {C : Cx} (ok : C.Ok) {A : Around} {G : PH} {σ : Addr} {s : Shared} {env : Env}
include ok

theorem e_chain2 {l r1 r2 : Expr} {o1 o2 : CmpOp} {pos : Pos} {a b c : D} {c1 c2 : Bool} (hl : EvE C A (eval l env) G σ a s) (h1 : ∀ G' s', Step C G s G' s' → EvE C A (eval r1 env) G' σ b s')
    (e1 : cmpD o1 a b = some c1) (h2 : c1 = true → ∀ G' s', Step C G s G' s' → EvE C A (eval r2 env) G' σ c s') (e2 : c1 = true → cmpD o2 b c = some c2) (hm : behindInMarks o2 r2 = false) :
    EvE C A (eval (.Compare l [o1, o2] [r1, r2] pos) env) G σ (.raw (.bool (c1 && c2))) s := fun Q E h => by
  show wpAny _ A (do compareChain pos (← eval l env) [o1, o2] [eval r1 env, markedBehindIn o2 r2 (eval r2 env)]) Q E s
  rw [markedBehindIn_of_false hm]
  refine wpAny_bind (hl _ _ fun va s1 G1 S1 ra => ?_)
  show wpAny _ A (do
    let rv ← holding [va] (eval r1 env)
    standAt pos
    let c ← holding [va, rv] (compareOp o1 va rv)
    release [va, rv] [c]
    if ← holding [c, rv] (truthy c) then compareChain pos rv [o2] [eval r2 env] else pure c) Q E s1
  refine wpAny_bind (wpAny_holding (h1 G1 s1 S1 _ _ fun vb s2 G2 S2 rb => wpAny_bind (wpAny_standAt (wpAny_bind (wpAny_holding (cmp_ok ok S2.go (ra.mono S2.le) rb e1 _ _ fun v s3 G3 S3 r3 => ?_))))))
  cases r3
  refine wpAny_bind (wpAny_release (wpAny_bind (wpAny_holding (wpAny_truthy_bool ?_))))
  cases c1 with
  | false => exact wpAny_pure (h _ _ G3 (S1.trans (S2.trans S3)) (.raw _))
  | true =>
    show wpAny _ A (do
      let rv ← holding [vb] (eval r2 env)
      standAt pos
      operate [vb, rv] (compareOp o2 vb rv)) Q E s3
    refine wpAny_bind (wpAny_holding (h2 rfl G3 s3 (S1.trans (S2.trans S3)) _ _ fun vc s4 G4 S4 rc => wpAny_bind (wpAny_standAt (wpAny_operating (cmp_ok ok S4.go (rb.mono (S3.trans S4).le) rc (e2 rfl) _ _ fun v s5 G5 S5 r5 => h v s5 G5 (S1.trans (S2.trans (S3.trans (S4.trans S5)))) (by simpa using r5))))))

/-- the parts of a formatted text -/
noncomputable def EvJ (C : Cx) (A : Around) (ts : List (Sem Value)) (G : PH) (l : List Nat) (s : Shared) : Prop :=
  ∀ (acc : Str) (Q : Str → Shared → Prop) (E : Value → Shared → Prop), acc.length + l.length ≤ 16777216 → (∀ s' G', Step C G s G' s' → Q (acc ++ ⟨l.toArray⟩) s') → Joins (model C.prog C.w) A E ts acc Q s
theorem str_app (a b : List Nat) : ((⟨a.toArray⟩ : Str) ++ (⟨b.toArray⟩ : Str)) = ⟨(a ++ b).toArray⟩ := by
  show Str.append _ _ = _
  simp [Str.append]
omit ok in
theorem app_len (x : Str) (l : List Nat) : (x ++ (⟨l.toArray⟩ : Str)).length = x.length + l.length := by
  show (Str.append _ _).length = _
  simp [Str.append, Str.length]
theorem j_nil (g : Go C G s) : EvJ C A [] G [] s := fun acc Q E hl h => by
  have := h s G (Step.refl g)
  have e : acc ++ (⟨([] : List Nat).toArray⟩ : Str) = acc := by
    show Str.append _ _ = _
    simp [Str.append]
  rw [e] at this
  exact this
theorem j_cons {t : Sem Value} {ts : List (Sem Value)} {a l : List Nat} (ht : EvE C A t G σ (.str a) s) (hr : ∀ G' s', Step C G s G' s' → EvJ C A ts G' l s') : EvJ C A (t :: ts) G (a ++ l) s := fun acc Q E hl h => by
  refine ht _ _ fun v s1 G1 S1 r1 => ?_
  (first | (apply R.int_e r1; intro _) | (apply R.str_e r1; intro _) | apply R.raw_e r1)
  rw [List.length_append] at hl
  refine ⟨_, _, rfl, by rw [app_len]; show _ ≤ 2 ^ 24; lia, hr G1 s1 S1 _ _ _ (by rw [app_len]; lia) fun s2 G2 S2 => ?_⟩
  have e : acc ++ (⟨a.toArray⟩ : Str) ++ ⟨l.toArray⟩ = acc ++ ⟨(a ++ l).toArray⟩ := by
    rw [← str_app ok]
    exact Str.append_assoc _ _ _
  rw [e]
  exact h s2 G2 (S1.trans S2)
theorem e_join {v1 v2 : Expr} {rest : List Expr} {pos : Pos} {l : List Nat} (h : EvJ C A (evalEach (v1 :: v2 :: rest) env) G l s) (hf : fit l = true) : EvE C A (eval (.JoinedStr (v1 :: v2 :: rest) pos) env) G σ (.str l) s := fun Q E hQ =>
  wpAny_JoinedStr (h _ _ _ (by show 0 + l.length ≤ _; have := fit_iff.mp hf; lia) fun s1 G1 S1 => by
    have e : Str.empty ++ (⟨l.toArray⟩ : Str) = ⟨l.toArray⟩ := by
      show Str.append _ _ = _
      simp [Str.append, Str.empty]
    rw [e]
    exact ⟨by have := fit_iff.mp hf; show l.toArray.size ≤ sizeLine; simp [sizeLine]; lia, hQ _ _ _ (S1.trans (Step.tick (ht := by first | exact Nat.le_refl _ | exact Nat.le_succ _ | omega) ok S1.go)) (.str _ _)⟩)
theorem e_fmt {value : Expr} {pos : Pos} {l : List Nat} (h : EvE C A (eval value env) G σ (.str l) s) (hf : fit l = true) : EvE C A (eval (.FormattedValue value (-1) none pos) env) G σ (.str l) s := fun Q E hQ =>
  wpAny_FormattedValue_plain (h _ _ fun v s1 G1 S1 r1 => by
    (first | (apply R.int_e r1; intro _) | (apply R.str_e r1; intro _) | apply R.raw_e r1)
    exact wpAny_formatField_str (hQ _ _ G1 S1 (.str _ _)) (hQ _ _ G1 (S1.trans (Step.tick (ht := by first | exact Nat.le_refl _ | exact Nat.le_succ _ | omega) ok S1.go)) (.str _ _)) (by have := fit_iff.mp hf; show l.toArray.size ≤ sizeLine; simp [sizeLine]; lia))

/-- a method of a text -/
theorem e_strmeth {o e : Expr} {rest : List Expr} {name : Str} {apos pos : Pos} {id : String} {l : List Nat} {ds : List D} {r : D} (slot : Slot "str" name id) (hty : typeOf (.builtin id) = pure (.type "method_descriptor"))
    (hb : plainBase o = true) (hline : (apos.endLine == pos.line) = true) (ha : (e :: rest).all notStar = true) (hlen : rest.length < 20)
    (ho : EvE C A (eval o env) G σ (.str l) s) (hl : ∀ G' s', Step C G s G' s' → EvL C A (spliced (backTo pos (starEach (e :: rest) env))) G' σ ds s')
    (hc : ∀ G' s' t vs, Step C G s G' s' → RL G' σ ds vs → EvE C A (call (.builtin id) (.str ⟨l.toArray⟩ t :: vs)) G' σ r s') :
    EvE C A (eval (.Call (.Attribute o name apos) (e :: rest) [] pos) env) G σ r s := fun Q E h => by
  refine wpAny_Call_method (T := "str") (id := id) (attrBase_plain hb) ?_ hline F.plainAttrs_str slot hty (ho _ _ fun v s1 G1 S1 r1 => ?_)
  · rw [trees_plain ha]
    have : decide ((e :: rest).length + ([] : List Keyword).length + (if ([] : List Keyword).isEmpty then 0 else 1) < 30) = true := by simp; lia
    rw [this]; rfl
  · (first | (apply R.int_e r1; intro _) | (apply R.str_e r1; intro _) | apply R.raw_e r1)
    refine ⟨typeIs_str _ _ _, fun a h => (nomatch h), callWith_builtin (trees_any ha) ?_⟩
    have hn : notStar e = true := by rw [List.all_cons, Bool.and_eq_true] at ha; exact ha.1
    have hl' := hl G1 s1 S1
    rw [starEach_cons hn] at hl' ⊢
    exact evalArgs_plain (hl' _ _ fun vs s2 G2 S2 r2 => hc G2 s2 _ vs (S1.trans S2) r2 _ _ fun v s3 G3 S3 r3 => h v s3 G3 (S1.trans (S2.trans S3)) r3)

/-- a call of a built-in by its name -/
theorem e_callb {f e : Expr} {rest : List Expr} {pos : Pos} {id : String} {ds : List D} {r : D} (hcall : eval (.Call f (e :: rest) [] pos) env = (do callWith pos (← eval f env) [] (backTo pos (starEach (e :: rest) env)) (backToKw pos (keywordEach [] env))))
    (ha : (e :: rest).all notStar = true) (hf : EvE C A (eval f env) G σ (.raw (.builtin id)) s) (hl : ∀ G' s', Step C G s G' s' → EvL C A (spliced (backTo pos (starEach (e :: rest) env))) G' σ ds s')
    (hc : ∀ G' s' vs, Step C G s G' s' → RL G' σ ds vs → EvE C A (call (.builtin id) vs) G' σ r s') : EvE C A (eval (.Call f (e :: rest) [] pos) env) G σ r s := fun Q E h => by
  refine Call_ (hf _ _ fun v s1 G1 S1 r1 => ?_) hcall
  (first | (apply R.int_e r1; intro _) | (apply R.str_e r1; intro _) | apply R.raw_e r1)
  refine callWith_builtin (trees_any ha) ?_
  have hn : notStar e = true := by rw [List.all_cons, Bool.and_eq_true] at ha; exact ha.1
  have hl' := hl G1 s1 S1
  rw [starEach_cons hn] at hl' ⊢
  exact evalArgs_plain (hl' _ _ fun vs s2 G2 S2 r2 => hc G2 s2 vs (S1.trans S2) r2 _ _ fun v s3 G3 S3 r3 => h v s3 G3 (S1.trans (S2.trans S3)) r3)

/-- a call of a def -/
theorem e_calld {f e : Expr} {rest : List Expr} {pos : Pos} {a : Addr} {o : Obj} {fd : FuncData} {ds : List D} {r : D} (hcall : eval (.Call f (e :: rest) [] pos) env = (do callWith pos (← eval f env) [] (backTo pos (starEach (e :: rest) env)) (backToKw pos (keywordEach [] env))))
    (ha : (e :: rest).all notStar = true) (ho : C.hb.get? a = some o) (hT : a ∉ C.T) (hd : o.data = .func fd) (hf : EvE C A (eval f env) G σ (.raw (.ref a)) s) (hl : ∀ G' s', Step C G s G' s' → EvL C A (spliced (backTo pos (starEach (e :: rest) env))) G' σ ds s')
    (hc : ∀ G' s' vs, Step C G s G' s' → RL G' σ ds vs → EvE C A (call (.ref a) vs) G' σ r s') : EvE C A (eval (.Call f (e :: rest) [] pos) env) G σ r s := fun Q E h => by
  refine Call_ (hf _ _ fun v s1 G1 S1 r1 => ?_) hcall
  (first | (apply R.int_e r1; intro _) | (apply R.str_e r1; intro _) | apply R.raw_e r1)
  have hn : notStar e = true := by rw [List.all_cons, Bool.and_eq_true] at ha; exact ha.1
  have hl' := hl G1 s1 S1
  refine callWith_def hd (hl' _ _ fun vs s2 G2 S2 r2 => ⟨S2.go.sok.keep _ _ ho hT, hc G2 s2 vs (S1.trans S2) r2 _ _ fun v s3 G3 S3 r3 => h v s3 G3 (S1.trans (S2.trans S3)) r3⟩) (starEach_cons hn)
end
end Mine
end TA6
section TA7
open PySem PySem.W PyProof.Rows PySem.Calls
namespace Mine

noncomputable def lenD : D → Option D
  | .str l => if fit l then some (.int l.length) else none
  | .lst l => if fit l then some (.int l.length) else none
  | .tup l => if fit l then some (.int l.length) else none
  | _ => none
noncomputable def replL (x y z : List Nat) : List Nat := (Txt.replace ⟨x.toArray⟩ ⟨y.toArray⟩ ⟨z.toArray⟩).cps.toList
noncomputable def replD (y z : List Nat) (d : D) : Option D := (strOf d).bind fun x => if x.length + (x.length + 1) * z.length ≤ 16777216 ∧ y ≠ z then some (.str (replL x y z)) else none
noncomputable def findL (x y : List Nat) (i j : Int) : Int :=
  match Builtin.Str.occurrences ⟨x.toArray⟩ ⟨y.toArray⟩ (fromIndex x.length i) (min (fromIndex x.length j) x.length) 1 with | k :: _ => (k : Int) | [] => -1
noncomputable def strsD : List D → Option (List (List Nat))
  | [] => some []
  | .str x :: r => (strsD r).map (x :: ·)
  | _ :: _ => none
noncomputable def joinL (sep : List Nat) : List (List Nat) → List Nat
  | [] => []
  | [x] => x
  | x :: r => x ++ sep ++ joinL sep r
noncomputable def joinD (sep : List Nat) : D → Option D
  | .lst l => (strsD l).bind fun xs => if (xs.map List.length).sum + xs.length * sep.length ≤ 16777216 then some (.str (joinL sep xs)) else none
  | _ => none
noncomputable def anyB : List D → Option Bool
  | [] => some false
  | .raw (.bool b) :: r => (anyB r).map (b || ·)
  | _ :: _ => none
noncomputable def anyD : D → Option D
  | .lst l => (anyB l).map fun b => .raw (.bool b)
  | _ => none

theorem joinL_str (sep : List Nat) : ∀ xs : List (List Nat), Str.join ⟨sep.toArray⟩ (xs.map fun x => (⟨x.toArray⟩ : Str)) = ⟨(joinL sep xs).toArray⟩
  | [] => rfl
  | [x] => rfl
  | x :: y :: r => by
    have ih := joinL_str sep (y :: r)
    show Str.append (Str.append _ _) _ = _
    rw [show Str.join ⟨sep.toArray⟩ (List.map (fun x => (⟨x.toArray⟩ : Str)) (y :: r)) = ⟨(joinL sep (y :: r)).toArray⟩ from ih]
    simp [Str.append, joinL]
theorem gives_find4 (x y : Str) (i j : Int) (t u v w : Tok) : Gives (Builtin.«str.find» ⟨[.str x t, .str y u, .int i v, .int j w], []⟩)
    (.int (match Builtin.Str.occurrences x y (fromIndex x.length i) (min (fromIndex x.length j) x.length) 1 with | k :: _ => (k : Int) | [] => -1)) := by
  show Gives (match Builtin.Str.occurrences x y (fromIndex x.length i) (min (fromIndex x.length j) x.length) 1 with | k :: _ => retInt k | [] => (do rule "str.find.not-found"; retInt (-1))) _
  cases Builtin.Str.occurrences x y (fromIndex x.length i) (min (fromIndex x.length j) x.length) 1 with
  | nil => exact .rule (.of_eq rfl)
  | cons k r => exact .of_eq rfl
theorem strs_of {G : PH} {σ : Addr} : ∀ {ds : List D} {vs : List Value}, RL G σ ds vs → ∀ {xs : List (List Nat)}, strsD ds = some xs → ∃ l : List (Str × Tok), strValues l = vs ∧ l.map (·.1) = xs.map fun x => (⟨x.toArray⟩ : Str)
  | _, _, .nil, xs, e => by cases e; exact ⟨[], rfl, rfl⟩
  | _, _, .cons h hr, xs, e => by
    unfold strsD at e
    split at e
    · rename_i q; cases q
    · rename_i x r q
      cases q
      obtain ⟨ys, e', rfl⟩ := Option.map_eq_some_iff.mp e
      obtain ⟨l, h1, h2⟩ := strs_of hr e'
      cases h
      rename_i tk
      exact ⟨(⟨x.toArray⟩, tk) :: l, by rw [← h1]; rfl, by simp [h2]⟩
    · cases e

section
variable {C : Cx} (ok : C.Ok) {A : Around} {G : PH} {σ : Addr} {s : Shared} {env : Env}
include ok

theorem c_len {d r : D} {vs : List Value} (g : Go C G s) (hr : RL G σ [d] vs) (e : lenD d = some r) : EvE C A (call (.builtin "len") vs) G σ r s := fun Q E h => by
  apply RL.cons_e hr; clear hr; intro _ _ hd hn
  cases hn
  unfold lenD at e
  split at e
  · split at e <;> cases e
    rename_i l hf
    have hf := fit_iff.mp hf
    cases hd
    refine P.len_str (by simp [Str.length]; omega) ?_
    have : (((⟨l.toArray⟩ : Str).length : Nat) : Int) = l.length := by simp [Str.length]
    rw [this]
    exact h _ _ G (Step.tick (ht := by first | exact Nat.le_refl _ | exact Nat.le_succ _ | omega) ok g) (.int _ _)
  · split at e <;> cases e
    rename_i l hf
    have hf := fit_iff.mp hf
    obtain ⟨a, ws, rfl, hl, hw⟩ := hd.list_at g
    refine len_list hl (by simp [hw.length]; omega) ?_
    have : ((ws.toArray.size : Nat) : Int) = l.length := by simp [hw.length]
    rw [this]
    exact h _ _ G (Step.tick (ht := by first | exact Nat.le_refl _ | exact Nat.le_succ _ | omega) ok g) (.int _ _)
  · split at e <;> cases e
    rename_i l hf
    have hf := fit_iff.mp hf
    obtain ⟨a, ws, rfl, hl, hw⟩ := hd.tup_at g
    refine len_tuple hl (by simp [hw.length]; omega) ?_
    have : ((ws.toArray.size : Nat) : Int) = l.length := by simp [hw.length]
    rw [this]
    exact h _ _ G (Step.tick (ht := by first | exact Nat.le_refl _ | exact Nat.le_succ _ | omega) ok g) (.int _ _)
  · cases e

theorem c_replace {x y z : List Nat} {r : D} {t u v : Tok} (g : Go C G s) (hu : 0 < u) (hv : 0 < v) (huv : u ≠ v) (e : replD y z (.str x) = some r) : EvE C A (call (.builtin "str.replace") [.str ⟨x.toArray⟩ t, .str ⟨y.toArray⟩ u, .str ⟨z.toArray⟩ v]) G σ r s := fun Q E h => by
  have e : (if x.length + (x.length + 1) * z.length ≤ 16777216 ∧ y ≠ z then some (D.str (replL x y z)) else none) = some r := e
  apply ite_e e; clear e; intro hc e
  replace h := Option.some.inj e ▸ h
  clear e
  have e1 : (⟨x.toArray⟩ : Str).length = x.length := by simp [Str.length]
  have e2 : (⟨z.toArray⟩ : Str).length = z.length := by simp [Str.length]
  refine wpAny_with_toks (n := s.toks) (Nat.le_refl _) (SC.replace (Nat.ne_of_gt hu) (Nat.ne_of_gt hv) huv ?_ (by rw [e1, e2]; exact hc.1) fun t' k hk => ?_)
  · rw [beq_eq_false_iff_ne]
    intro q
    exact hc.2 (by simpa using q)
  · refine h _ _ G (Step.tick ok g hk) ?_
    have := R.str (G := G) (σ := σ) (replL x y z) t'
    simpa [replL] using this

theorem c_find {x y : List Nat} {i j : Int} {t u v w : Tok} (g : Go C G s) : EvE C A (call (.builtin "str.find") [.str ⟨x.toArray⟩ t, .str ⟨y.toArray⟩ u, .int i v, .int j w]) G σ (.int (findL x y i j)) s := fun Q E h => by
  refine call_gives F.slot_str_find (typeIs_str _ _ _) F.entry_str_find (F.args_str_find_4 _ _ _ _) (gives_find4 _ _ i j t u v w) ?_
  have e1 : (⟨x.toArray⟩ : Str).length = x.length := by simp [Str.length]
  rw [e1]
  exact h _ _ G (Step.tick (ht := by first | exact Nat.le_refl _ | exact Nat.le_succ _ | omega) ok g) (.int _ _)

theorem c_join {sep : List Nat} {d r : D} {vs : List Value} {t : Tok} (g : Go C G s) (hr : RL G σ [d] vs) (e : joinD sep d = some r) : EvE C A (call (.builtin "str.join") (.str ⟨sep.toArray⟩ t :: vs)) G σ r s := fun Q E h => by
  apply RL.cons_e hr; clear hr; intro _ _ hd hn
  cases hn
  unfold joinD at e
  split at e
  · obtain ⟨xs, e1, e2⟩ := Option.bind_eq_some_iff.mp e
    split at e2 <;> cases e2
    rename_i hc
    obtain ⟨a, ws, rfl, hl, hw⟩ := hd.list_at g
    obtain ⟨l, rfl, h2⟩ := strs_of hw e1
    refine wpAny_with_toks (n := s.toks) (Nat.le_refl _) (SC.join hl h2 (joinOk_of ?_) fun t' k hk => ?_)
    · have : (⟨sep.toArray⟩ : Str).length = sep.length := by simp [Str.length]
      rw [this, List.map_map, List.length_map]
      have : (Str.length ∘ fun x : List Nat => (⟨x.toArray⟩ : Str)) = List.length := by funext x; simp [Str.length]
      rw [this]
      exact hc
    · refine h _ _ G (Step.tick ok g hk) ?_
      have : Txt.join ⟨sep.toArray⟩ (xs.map fun x => (⟨x.toArray⟩ : Str)) = ⟨(joinL sep xs).toArray⟩ := by
        rw [← joinL_str]
        exact beq_iff_eq.mp (join_plain_closes _ _)
      rw [this]
      exact .str _ _
  · cases e

theorem anyB_of {A' : Around} : ∀ {ds : List D} {vs : List Value}, RL G σ ds vs → ∀ {b : Bool}, anyB ds = some b → (∀ (i : Nat) (v : Value), vs[i]? = some v → ∃ c, v = Value.bool c) ∧ (List.range vs.length).any (fun i : Nat => vs[i]? == some (Value.bool true)) = b
  | _, _, .nil, b, e => by cases e; exact ⟨fun i v h => by simp at h, rfl⟩
  | _, _, .cons h hr, b, e => by
    unfold anyB at e
    split at e
    · rename_i q; cases q
    · rename_i c r q
      cases q
      obtain ⟨b', e', rfl⟩ := Option.map_eq_some_iff.mp e
      obtain ⟨h1, h2⟩ := anyB_of (A' := A') hr e'
      cases h
      refine ⟨fun i v hv => ?_, ?_⟩
      · cases i with
        | zero => simp at hv; exact ⟨c, hv.symm⟩
        | succ i => exact h1 i v (by simpa using hv)
      · rw [List.length_cons, List.range_succ_eq_map, List.any_cons, List.any_map]
        rw [← h2]
        congr 1
        cases c <;> rfl
    · cases e

theorem c_any {d r : D} {vs : List Value} (hh : A.handled = none) (g : Go C G s) (hr : RL G σ [d] vs) (e : anyD d = some r) : EvE C A (call (.builtin "any") vs) G σ r s := fun Q E h => by
  apply RL.cons_e hr; clear hr; intro _ _ hd hn
  cases hn
  unfold anyD at e
  split at e
  · obtain ⟨b, e1, rfl⟩ := Option.map_eq_some_iff.mp e
    obtain ⟨a, ws, rfl, hl, hw⟩ := hd.list_at g
    obtain ⟨h1, h2⟩ := anyB_of ok (A' := A) hw e1
    refine wpAny_with_toks (n := s.toks) (Nat.le_refl _) (call_any_walk (wpAny_pyIter_list hl ?_))
    have hlt := Heap.lt_size hl.choose_spec.1
    refine ⟨s.heap.objs.size, _, _, _, _, _, fun i => ws[i]? == some (.bool true), rfl, Walks.list (A := A.in1) hh s.heap.objs.size a (Nat.ne_of_lt hlt) ws.toArray, ⟨⟨_, Heap.get?_push_size _ rfl, rfl, rfl⟩, hl.push _⟩, ?_, fun h' tk hk ht => ?_⟩
    · intro i v s Q E hP hQ
      have hP' : ws[i]? = some v := by simpa using hP
      obtain ⟨c, rfl⟩ := h1 i v hP'
      refine wpAny_truthy_bool ?_
      dsimp only at hQ; rw [hP'] at hQ
      cases c <;> exact hQ
    · have : (List.range ws.toArray.size).any (fun i => ws[i]? == some (.bool true)) = b := by simpa using h2
      rw [this]
      refine h _ _ G (Step.keeps ok g (fun b o e => hk b o ?_ (Heap.get?_push_of_some _ e)) ht) (.raw _)
      intro q
      have := List.mem_singleton.mp q
      exact Nat.lt_irrefl _ (this ▸ Heap.lt_size e)
  · cases e
end
end Mine
end TA7
section TA8
open PySem PySem.W PyProof.Rows PySem.Calls
namespace Mine

noncomputable def vis (env : Env) (x : Str) : Prop := env.kindOf x = some .local ∨ env.kindOf x = some .cell ∨ env.kindOf x = some .free
noncomputable def Reads (env : Env) (V : Str → Option D) (G : PH) (σ : Addr) (s : Shared) : Prop := ∀ x d, V x = some d → vis env x → ∃ v, Look env s.heap x v ∧ R G σ d v
noncomputable def updV (V : Str → Option D) (x : Str) (d : Option D) : Str → Option D := fun y => if y = x then d else V y

/-- the block's own places -/
structure Frm (C : Cx) (env : Env) (G : PH) (s : Shared) : Prop where
  ns : ∃ m, s.heap.Ns env.locals m
  gl : G env.locals = none
  cell : ∀ x c, env.cells.lookup x = some c → (∃ v, s.heap.IsCell c v) ∧ G c = none ∧ c ≠ env.locals ∧ c ∉ C.T
  inj : ∀ x y c, env.cells.lookup x = some c → env.cells.lookup y = some c → x = y
  full : ∀ x, env.kindOf x = some .cell ∨ env.kindOf x = some .free → ∃ c, env.cells.lookup x = some c

theorem Step.old {C : Cx} {G G' : PH} {s s' : Shared} (S : Step C G s G' s') {a : Addr} {o : Obj} (h : s.heap.get? a = some o) (hG : G a = none) : G' a = none := by
  cases q : G' a with
  | none => rfl
  | some o' =>
    rcases S.fresh a o' q with z | z
    · rw [hG] at z; cases z
    · rw [h] at z; cases z
theorem ns_keep {h h' : Heap} {a : Addr} {m : Str → Option Value} (n : h.Ns a m) (k : ∀ o, h.get? a = some o → h'.get? a = some o) : h'.Ns a m := n.at' k
theorem Look.step {C : Cx} {env : Env} {G G' : PH} {s s' : Shared} (eo : EnvOk C env) (S : Step C G s G' s') {x : Str} {v : Value} (l : Look env s.heap x v) : Look env s'.heap x v := by
  rcases l with ⟨hk, m, hm, hv⟩ | ⟨hk, c, hc, o, ho, hd⟩
  · exact .inl ⟨hk, m, hm.at' fun o e => S.keep _ o e eo.lT, hv⟩
  · exact .inr ⟨hk, c, hc, o, S.keep _ o ho (eo.cT _ _ hc), hd⟩
theorem Reads.step {C : Cx} {env : Env} {V : Str → Option D} {G G' : PH} {σ : Addr} {s s' : Shared} (eo : EnvOk C env) (S : Step C G s G' s') (r : Reads env V G σ s) : Reads env V G' σ s' := fun x d h hv =>
  let ⟨v, l, rr⟩ := r x d h hv
  ⟨v, l.step eo S, rr.mono S.le⟩
theorem Frm.step {C : Cx} {env : Env} {G G' : PH} {s s' : Shared} (eo : EnvOk C env) (S : Step C G s G' s') (f : Frm C env G s) : Frm C env G' s' := by
  obtain ⟨m, hm⟩ := f.ns
  refine ⟨⟨m, hm.at' fun o e => S.keep _ o e eo.lT⟩, ?_, fun x c hc => ?_, f.inj, f.full⟩
  · obtain ⟨o, _, _, ho, _⟩ := hm
    exact S.old ho f.gl
  · obtain ⟨⟨v, o, ho, hd⟩, h1, h2, h3⟩ := f.cell x c hc
    exact ⟨⟨v, o, S.keep _ o ho h3, hd⟩, S.old ho h1, h2, h3⟩

/-- one fresh place is changed -/
theorem Step.but {C : Cx} (ok : C.Ok) {G₀ G : PH} {s₀ s : Shared} (k₀ : Sok C s₀) (S : Step C G₀ s₀ G s) {a : Addr} {h' : Heap} {tk : Nat} (hf : s₀.heap.get? a = none) (hT : a ∉ C.T) (hG : G a = none)
    (hk : ∀ b o, b ≠ a → s.heap.get? b = some o → h'.get? b = some o) (ht : s.toks ≤ tk) : Step C G₀ s₀ G { s with heap := h', toks := tk } := by
  have hbase : C.hb.get? a = none := by
    cases q : C.hb.get? a with
    | none => rfl
    | some o => rw [k₀.keep a o q hT] at hf; cases hf
  refine ⟨fun b o e n => hk b o (fun q => ?_) (S.keep b o e n), S.le, S.fresh, ⟨⟨fun b o e n => hk b o (fun q => ?_) (S.go.sok.keep b o e n), S.go.sok.gens, S.go.sok.os, Nat.lt_of_lt_of_le S.go.sok.toks ht⟩,
    ok.ti _ _ _ _ S.go.ti (fun _ _ _ e => e) (fun b hb => ?_), fun b o e => hk b o (fun q => ?_) (S.go.le b o e), S.go.noT⟩, Nat.le_trans S.toks ht⟩
  · subst q; rw [hf] at e; cases e
  · subst q; rw [hbase] at e; cases e
  · obtain ⟨o, e⟩ := ok.tt _ _ S.go.ti b hb
    rw [e]
    exact hk b o (fun q => hT (q ▸ hb)) e
  · subst q; rw [hG] at e; cases e

noncomputable def Own (env : Env) (b : Addr) : Prop := b = env.locals ∨ ∃ y, env.cells.lookup y = some b
noncomputable def FreshLoc (env : Env) (s₀ : Shared) (x : Str) : Prop :=
  (env.kindOf x = some .local ∧ s₀.heap.get? env.locals = none) ∨ (env.kindOf x = some .cell ∧ ∃ c, env.cells.lookup x = some c ∧ s₀.heap.get? c = none)

/-- a block's state -/
structure At (C : Cx) (env : Env) (G₀ : PH) (s₀ : Shared) (V : Str → Option D) (G : PH) (σ : Addr) (s : Shared) : Prop where
  st : Step C G₀ s₀ G s
  fr : Frm C env G s
  rd : Reads env V G σ s

section
variable {C : Cx} (ok : C.Ok) {A : Around} {G G₀ : PH} {σ : Addr} {s s₀ : Shared} {env : Env} {V : Str → Option D}
include ok

theorem At.step (eo : EnvOk C env) (a : At C env G₀ s₀ V G σ s) {G' : PH} {s' : Shared} (S : Step C G s G' s') : At C env G₀ s₀ V G' σ s' := ⟨a.st.trans S, a.fr.step eo S, a.rd.step eo S⟩

theorem st_look {x : Str} {v : Value} (k₀ : Sok C s₀) (eo : EnvOk C env) (st : Step C G₀ s₀ G s) (fr : Frm C env G s) (hl : FreshLoc env s₀ x) {Q : Unit → Shared → Prop} {E : Value → Shared → Prop}
    (h : ∀ s', Step C G₀ s₀ G s' → Frm C env G s' → Look env s'.heap x v → (∀ y w, y ≠ x → Look env s.heap y w → Look env s'.heap y w) → (∀ b o, ¬ Own env b → s.heap.get? b = some o → s'.heap.get? b = some o) → s.toks ≤ s'.toks → Q () s') :
    wpAny (model C.prog C.w) A (storeName env x v) Q E s := by
  rcases hl with ⟨hk, hf⟩ | ⟨hk, c, hc, hf⟩
  · obtain ⟨m, hm⟩ := fr.ns
    refine wpAny_storeName_local hk hm (fun h' hn hs => ?_) (by rw [eo.kind]; rfl)
    have hkb : ∀ b o, b ≠ env.locals → s.heap.get? b = some o → h'.get? b = some o := fun b o hb e => (hs.2 b hb).trans e
    refine h _ (Step.but ok k₀ st hf eo.lT fr.gl hkb (Nat.le_succ _)) ⟨⟨_, hn⟩, fr.gl, fun y c hc => ?_, fr.inj, fr.full⟩ (.inl ⟨hk, _, hn, by simp⟩) (fun y w hy l => ?_) (fun b o hb e => hkb b o (fun q => hb (.inl q)) e) (Nat.le_succ _)
    · obtain ⟨⟨w, o, ho, hd⟩, h1, h2, h3⟩ := fr.cell y c hc
      exact ⟨⟨w, o, hkb _ _ h2 ho, hd⟩, h1, h2, h3⟩
    · rcases l with ⟨hk', m', hm', hv'⟩ | ⟨hk', c, hc, o, ho, hd'⟩
      · refine .inl ⟨hk', _, hn, ?_⟩
        rw [if_neg hy]
        obtain ⟨o1, es1, ep1, q1, q2, q3, q4⟩ := hm
        obtain ⟨o2, es2, ep2, p1, p2, p3, p4⟩ := hm'
        rw [q1] at p1; cases p1
        rw [q2] at p2; cases p2
        rw [← q4 y, p4 y]; exact hv'
      · exact .inr ⟨hk', c, hc, o, hkb _ _ (fr.cell y c hc).2.2.1 ho, hd'⟩
  · obtain ⟨⟨w, hw⟩, h1, h2, h3⟩ := fr.cell x c hc
    refine wpAny_storeName_cell eo.kind hk hc hw fun h' hn hs => ?_
    have hkb : ∀ b o, b ≠ c → s.heap.get? b = some o → h'.get? b = some o := fun b o hb e => (hs.2 b hb).trans e
    obtain ⟨m, hm⟩ := fr.ns
    refine h _ (Step.but ok k₀ st hf h3 h1 hkb (Nat.le_refl _)) ⟨⟨m, hm.at' fun o e => hkb _ o (Ne.symm h2) e⟩, fr.gl, fun y c' hc' => ?_, fr.inj, fr.full⟩ (.inr ⟨.inl hk, c, hc, hn⟩) (fun y w hy l => ?_) (fun b o hb e => hkb b o (fun q => hb (.inr ⟨x, q ▸ hc⟩)) e) (Nat.le_refl _)
    · obtain ⟨⟨w', o, ho, hd⟩, g1, g2, g3⟩ := fr.cell y c' hc'
      by_cases q : c' = c
      · subst q
        obtain ⟨o', ho', hd'⟩ := hn
        exact ⟨⟨_, o', ho', hd'⟩, g1, g2, g3⟩
      · exact ⟨⟨w', o, hkb _ _ q ho, hd⟩, g1, g2, g3⟩
    · rcases l with ⟨hk', m', hm', hv'⟩ | ⟨hk', c', hc', o, ho, hd'⟩
      · exact .inl ⟨hk', m', hm'.at' fun o e => hkb _ o (Ne.symm h2) e, hv'⟩
      · exact .inr ⟨hk', c', hc', o, hkb _ _ (fun q => hy (fr.inj y x c' hc' (q ▸ hc))) ho, hd'⟩

theorem Reads.upd {x : Str} {d : Option D} {v : Value} {s' : Shared} (r : Reads env V G σ s) (hx : ∀ d', d = some d' → Look env s'.heap x v ∧ R G σ d' v) (hy : ∀ y w, y ≠ x → Look env s.heap y w → Look env s'.heap y w) : Reads env (updV V x d) G σ s' := fun y d' hd hv => by
  unfold updV at hd
  split at hd
  · rename_i e
    subst e
    exact ⟨v, hx d' hd⟩
  · rename_i e
    obtain ⟨w, l, rw'⟩ := r y d' hd hv
    exact ⟨w, hy y w e l, rw'⟩
theorem st_store {x : Str} {d : D} {v : Value} (k₀ : Sok C s₀) (eo : EnvOk C env) (a : At C env G₀ s₀ V G σ s) (hl : FreshLoc env s₀ x) (hr : R G σ d v) {Q : Unit → Shared → Prop} {E : Value → Shared → Prop}
    (h : ∀ s', At C env G₀ s₀ (updV V x (some d)) G σ s' → (∀ b o, ¬ Own env b → s.heap.get? b = some o → s'.heap.get? b = some o) → s.toks ≤ s'.toks → Q () s') : wpAny (model C.prog C.w) A (storeName env x v) Q E s :=
  st_look ok k₀ eo a.st a.fr hl fun s' st fr lx ly hk ht => h s' ⟨st, fr, a.rd.upd ok (fun d' e => by cases e; exact ⟨lx, hr⟩) ly⟩ hk ht
end
end Mine
end TA8
section TA9
open PySem PySem.W PyProof.Rows PySem.Calls
namespace Mine

set_option genCtorIdx true in
set_option genInjectivity true in
inductive B where
  | none | val (d : D) | mu (ds : List D) | app (x : Str)
noncomputable def B.val? : B → Option D
  | .val d => some d
  | _ => Option.none
noncomputable abbrev St := Str → B
noncomputable def vals (S : St) : Str → Option D := fun x => (S x).val?
noncomputable def upS (S : St) (x : Str) (b : B) : St := fun y => if y = x then b else S y
theorem val_i {S : St} {x : Str} {d : D} (h : vals S x = some d) : S x = .val d := by
  have k : ∀ b : B, b.val? = some d → b = .val d := fun b h => by
    cases b <;> first | exact congrArg B.val (Option.some.inj h) | exact no_some h
  exact k _ h
theorem vals_upS (S : St) (x : Str) (b : B) : vals (upS S x b) = updV (vals S) x b.val? := by
  funext y
  unfold vals upS updV
  split <;> rfl

noncomputable def MuL (h : Heap) (a : Addr) (vs : List Value) : Prop := ∃ n, h.get? a = some { cls := .type "list", data := .seq vs.toArray n }
theorem MuL.at {h h' : Heap} {a : Addr} {vs : List Value} (x : MuL h a vs) (e : ∀ o, h.get? a = some o → h'.get? a = some o) : MuL h' a vs := let ⟨n, q⟩ := x; ⟨n, e _ q⟩
theorem MuL.list {h : Heap} {a : Addr} {vs : List Value} (x : MuL h a vs) : h.IsList a vs.toArray := let ⟨n, q⟩ := x; ⟨_, q, rfl, n, rfl⟩
noncomputable def methO (f self : Value) (o : Obj) : Prop := o.cls = .type "builtin_function_or_method" ∧ o.data = .fields #[f, self]

/-- a function's state: its values, its own lists -/
structure AtM (C : Cx) (env : Env) (G₀ : PH) (s₀ : Shared) (S : St) (G : PH) (σ : Addr) (M : Addr → Prop) (s : Shared) : Prop where
  at0 : At C env G₀ s₀ (vals S) G σ s
  mus : ∃ adr : Str → Addr, (∀ x ds, S x = .mu ds → ∃ vs, Look env s.heap x (.ref (adr x)) ∧ MuL s.heap (adr x) vs ∧ RL G σ ds vs ∧ M (adr x)) ∧
    (∀ x y ds ds', S x = .mu ds → S y = .mu ds' → adr x = adr y → x = y) ∧
    (∀ x y, S x = .app y → ∃ b o, Look env s.heap x (.ref b) ∧ G b = some o ∧ methO (.builtin "list.append") (.ref (adr y)) o ∧ ∃ ds, S y = .mu ds)
  off : ∀ b, M b → G b = none ∧ b ∉ C.T ∧ s₀.heap.get? b = none ∧ ¬ Own env b ∧ ∃ o, s.heap.get? b = some o

structure Kp (C : Cx) (env : Env) (G : PH) (M : Addr → Prop) (s : Shared) (G' : PH) (M' : Addr → Prop) (s' : Shared) : Prop where
  keep : ∀ b o, ¬ Own env b → ¬ M b → b ∉ C.T → s.heap.get? b = some o → s'.heap.get? b = some o
  new : ∀ b, M' b → M b ∨ (s.heap.get? b = none ∧ b ∉ C.T ∧ ¬ Own env b)
  toks : s.toks ≤ s'.toks
  gn : ∀ b o, G' b = some o → G b = some o ∨ M b ∨ s.heap.get? b = none
  gt : ∀ b o, G' b = some o → b ∉ C.T ∧ ¬ Own env b
theorem AtM.gt {C : Cx} {env : Env} {G₀ G : PH} {s₀ s : Shared} {S : St} {σ : Addr} {M : Addr → Prop} (a : AtM C env G₀ s₀ S G σ M s) : ∀ b o, G b = some o → b ∉ C.T ∧ ¬ Own env b := fun b o e => by
  refine ⟨fun q => ?_, ?_⟩
  · rw [a.at0.st.go.noT b q] at e; cases e
  · rintro (rfl | ⟨y, hy⟩)
    · rw [a.at0.fr.gl] at e; cases e
    · rw [(a.at0.fr.cell y b hy).2.1] at e; cases e
theorem Kp.refl {C : Cx} {env : Env} {G₀ G : PH} {s₀ s : Shared} {S : St} {σ : Addr} {M : Addr → Prop} (a : AtM C env G₀ s₀ S G σ M s) : Kp C env G M s G M s := ⟨fun _ _ _ _ _ e => e, fun _ h => .inl h, Nat.le_refl _, fun _ _ e => .inl e, a.gt⟩
theorem Kp.trans {C : Cx} {env : Env} {G G' G'' : PH} {M M' M'' : Addr → Prop} {s s' s'' : Shared} (a : Kp C env G M s G' M' s') (b : Kp C env G' M' s' G'' M'' s'') : Kp C env G M s G'' M'' s'' := by
  refine ⟨fun x o h1 h2 h3 e => b.keep x o h1 (fun q => ?_) h3 (a.keep x o h1 h2 h3 e), fun x h => ?_, Nat.le_trans a.toks b.toks, fun x o h => ?_, b.gt⟩
  · rcases a.new x q with z | z
    · exact h2 z
    · rw [e] at z; cases z.1
  · rcases b.new x h with z | z
    · exact a.new x z
    · by_cases hm : M x
      · exact .inl hm
      · refine .inr ⟨?_, z.2⟩
        cases q : s.heap.get? x with
        | none => rfl
        | some o =>
          have := a.keep x o z.2.2 hm z.2.1 q
          rw [z.1] at this; cases this
  · rcases b.gn x o h with z | z | z
    · exact a.gn x o z
    · rcases a.new x z with y | y
      · exact .inr (.inl y)
      · exact .inr (.inr y.1)
    · by_cases hm : M x
      · exact .inr (.inl hm)
      · refine .inr (.inr ?_)
        cases q : s.heap.get? x with
        | none => rfl
        | some o' =>
          have := a.keep x o' (b.gt x o h).2 hm (b.gt x o h).1 q
          rw [z] at this; cases this

section
variable {C : Cx} (ok : C.Ok) {A : Around} {G G₀ : PH} {σ : Addr} {s s₀ : Shared} {env : Env} {S : St} {M : Addr → Prop}
include ok

theorem AtM.step (eo : EnvOk C env) (a : AtM C env G₀ s₀ S G σ M s) {G' : PH} {s' : Shared} (p : Step C G s G' s') : AtM C env G₀ s₀ S G' σ M s' := by
  obtain ⟨adr, h1, h2, h3⟩ := a.mus
  refine ⟨a.at0.step ok eo p, ⟨adr, fun x ds hx => ?_, h2, fun x y hx => ?_⟩, fun b hb => ?_⟩
  · obtain ⟨vs, l, hl, hr, hm⟩ := h1 x ds hx
    exact ⟨vs, l.step eo p, hl.at fun o e => p.keep _ o e (a.off _ hm).2.1, hr.mono p.le, hm⟩
  · obtain ⟨b, o, l, hb, hm, hy⟩ := h3 x y hx
    exact ⟨b, o, l.step eo p, p.le _ _ hb, hm, hy⟩
  · obtain ⟨k1, k2, k3, k4, o, k5⟩ := a.off b hb
    exact ⟨p.old k5 k1, k2, k3, k4, o, p.keep _ o k5 k2⟩

theorem Step.kp {G' : PH} {s' : Shared} (eo : EnvOk C env) (a : AtM C env G₀ s₀ S G σ M s) (p : Step C G s G' s') : Kp C env G M s G' M s' :=
  ⟨fun b o _ _ hT e => p.keep b o e hT, fun _ h => .inl h, p.toks, fun b o e => (p.fresh b o e).imp id .inr, (a.step ok eo p).gt⟩

/-- something is bound to a name -/
theorem st_any {x : Str} {b : B} {v : Value} (k₀ : Sok C s₀) (eo : EnvOk C env) (a : AtM C env G₀ s₀ S G σ M s) (hl : FreshLoc env s₀ x) (hna : ∀ y, S y ≠ .app x) {Q : Unit → Shared → Prop} {E : Value → Shared → Prop}
    (hb : ∀ s' : Shared, Look env s'.heap x v → (∀ b o, ¬ Own env b → s.heap.get? b = some o → s'.heap.get? b = some o) → match b with
      | .val d => R G σ d v
      | .none => True
      | .app y => y ≠ x ∧ ∃ ds bb o, S y = B.mu ds ∧ v = Value.ref bb ∧ G bb = some o ∧ ∀ a, Look env s.heap y (.ref a) → methO (.builtin "list.append") (.ref a) o
      | .mu ds => False)
    (h : ∀ s', AtM C env G₀ s₀ (upS S x b) G σ M s' → Kp C env G M s G M s' → Q () s') : wpAny (model C.prog C.w) A (storeName env x v) Q E s := by
  have hvis : vis env x := by rcases hl with ⟨hk, _⟩ | ⟨hk, _⟩ <;> simp [vis, hk]
  refine st_look ok k₀ eo a.at0.st a.at0.fr hl fun s' st fr lx ly hk ht => ?_
  have hb' := hb s' lx hk
  have hat : AtM C env G₀ s₀ (upS S x b) G σ M s' := ⟨⟨st, fr, ?_⟩, ?_, ?_⟩
  exact h s' hat ⟨fun b o hb _ _ e => hk b o hb e, fun _ h => .inl h, ht, fun _ _ e => .inl e, hat.gt⟩
  · rw [vals_upS]
    refine a.at0.rd.upd ok (v := v) (fun d' e => ⟨lx, ?_⟩) ly
    cases b <;> simp [B.val?] at e
    subst e
    exact hb'
  · obtain ⟨adr, h1, h2, h3⟩ := a.mus
    have hS : ∀ y, y ≠ x → upS S x b y = S y := fun y hy => by simp [upS, hy]
    refine ⟨adr, fun y ds hy => ?_, fun y z ds ds' hy hz => ?_, fun y z hy => ?_⟩
    · by_cases q : y = x
      · subst q
        simp [upS] at hy
        subst hy
        exact hb'.elim
      · rw [hS y q] at hy
        obtain ⟨vs, l, hl, hr, hm⟩ := h1 y ds hy
        exact ⟨vs, ly _ _ q l, hl.at fun o e => hk _ o (a.off _ hm).2.2.2.1 e, hr, hm⟩
    · by_cases q : y = x
      · subst q
        simp [upS] at hy
        subst hy
        exact hb'.elim
      · by_cases q' : z = x
        · subst q'
          simp [upS] at hz
          subst hz
          exact hb'.elim
        · rw [hS y q] at hy
          rw [hS z q'] at hz
          exact h2 y z ds ds' hy hz
    · by_cases q : y = x
      · subst q
        simp [upS] at hy
        subst hy
        obtain ⟨hne, ds, bb, o, e1, rfl, e3, e4⟩ := hb'
        refine ⟨bb, o, lx, e3, ?_, ds, by rw [hS z hne]; exact e1⟩
        obtain ⟨vs, l, _⟩ := h1 z ds e1
        exact e4 _ l
      · rw [hS y q] at hy
        obtain ⟨bb, o, l, e1, e2, ds, e3⟩ := h3 y z hy
        have hz : z ≠ x := fun q => hna y (q ▸ hy)
        exact ⟨bb, o, ly _ _ q l, e1, e2, ds, by rw [hS z hz]; exact e3⟩
  · intro bb hbb
    obtain ⟨k1, k2, k3, k4, o, k5⟩ := a.off bb hbb
    exact ⟨k1, k2, k3, k4, o, hk _ o k4 k5⟩
theorem st_bind {x : Str} {d : D} {v : Value} (k₀ : Sok C s₀) (eo : EnvOk C env) (a : AtM C env G₀ s₀ S G σ M s) (hl : FreshLoc env s₀ x) (hna : ∀ y, S y ≠ .app x) (hr : R G σ d v) {Q : Unit → Shared → Prop} {E : Value → Shared → Prop}
    (h : ∀ s', AtM C env G₀ s₀ (upS S x (.val d)) G σ M s' → Kp C env G M s G M s' → Q () s') : wpAny (model C.prog C.w) A (storeName env x v) Q E s :=
  st_any ok (b := .val d) k₀ eo a hl hna (fun _ _ _ => hr) h
/-- a new list is bound to a name -/
theorem st_new {x : Str} {ds : List D} {vs : List Value} {a₀ : Addr} (k₀ : Sok C s₀) (eo : EnvOk C env) (a : AtM C env G₀ s₀ S G σ M s) (hl : FreshLoc env s₀ x) (hna : ∀ y, S y ≠ .app x)
    (hL : MuL s.heap a₀ vs) (hr : RL G σ ds vs) (hM : ¬ M a₀) (hG : G a₀ = none) (hT : a₀ ∉ C.T) (hs₀ : s₀.heap.get? a₀ = none) (hO : ¬ Own env a₀) {Q : Unit → Shared → Prop} {E : Value → Shared → Prop}
    (h : ∀ s', AtM C env G₀ s₀ (upS S x (.mu ds)) G σ (fun b => M b ∨ b = a₀) s' → (∀ b o, ¬ Own env b → s.heap.get? b = some o → s'.heap.get? b = some o) → s.toks ≤ s'.toks → Q () s') : wpAny (model C.prog C.w) A (storeName env x (.ref a₀)) Q E s := by
  refine st_look ok k₀ eo a.at0.st a.at0.fr hl fun s' st fr lx ly hk ht => ?_
  refine h s' ⟨⟨st, fr, ?_⟩, ?_, ?_⟩ hk ht
  · rw [vals_upS]
    exact a.at0.rd.upd ok (v := .ref a₀) (fun d' e => by simp [B.val?] at e) ly
  · obtain ⟨adr, h1, h2, h3⟩ := a.mus
    have hS : ∀ y, y ≠ x → upS S x (.mu ds) y = S y := fun y hy => by simp [upS, hy]
    have hA : ∀ y, y ≠ x → (fun z => if z = x then a₀ else adr z) y = adr y := fun y hy => by simp [hy]
    refine ⟨fun z => if z = x then a₀ else adr z, fun y ds' hy => ?_, fun y z ds1 ds2 hy hz e => ?_, fun y z hy => ?_⟩
    · by_cases q : y = x
      · subst q
        simp [upS] at hy
        subst hy
        have e0 : (fun z => if z = y then a₀ else adr z) y = a₀ := by simp
        rw [e0]
        exact ⟨vs, lx, hL.at fun o e => hk _ o hO e, hr, .inr rfl⟩
      · rw [hS y q] at hy
        obtain ⟨ws, l, hl, hr, hm⟩ := h1 y ds' hy
        rw [hA y q]
        exact ⟨ws, ly _ _ q l, hl.at fun o e => hk _ o (a.off _ hm).2.2.2.1 e, hr, .inl hm⟩
    · by_cases q : y = x
      · by_cases q' : z = x
        · rw [q, q']
        · rw [hS z q'] at hz
          have e' : a₀ = adr z := by simpa [q, q'] using e
          obtain ⟨ws, l, hl, hr, hm⟩ := h1 z ds2 hz
          exact absurd (e' ▸ hm) hM
      · by_cases q' : z = x
        · rw [hS y q] at hy
          have e' : adr y = a₀ := by simpa [q, q'] using e
          obtain ⟨ws, l, hl, hr, hm⟩ := h1 y ds1 hy
          exact absurd (e' ▸ hm) hM
        · rw [hS y q] at hy
          rw [hS z q'] at hz
          have e' : adr y = adr z := by simpa [q, q'] using e
          exact h2 y z ds1 ds2 hy hz e'
    · by_cases q : y = x
      · subst q
        simp [upS] at hy
      · rw [hS y q] at hy
        obtain ⟨bb, o, l, e1, e2, ds, e3⟩ := h3 y z hy
        have hz : z ≠ x := fun q => hna y (q ▸ hy)
        exact ⟨bb, o, ly _ _ q l, e1, by rw [hA z hz]; exact e2, ds, by rw [hS z hz]; exact e3⟩
  · rintro bb (hbb | rfl)
    · obtain ⟨k1, k2, k3, k4, o, k5⟩ := a.off bb hbb
      exact ⟨k1, k2, k3, k4, o, hk _ o k4 k5⟩
    · obtain ⟨n, ho⟩ := hL
      exact ⟨hG, hT, hs₀, hO, _, hk _ _ hO ho⟩

/-- from now on a list of the function's is held -/
theorem frz {x : Str} {ds : List D} (a : AtM C env G₀ s₀ S G σ M s) (hx : S x = .mu ds) (hna : ∀ y, S y ≠ .app x) :
    ∃ G' M', AtM C env G₀ s₀ (upS S x (.val (.lst ds))) G' σ M' s ∧ (∀ b o, G b = some o → G' b = some o) ∧ (∀ b, M' b → M b) ∧ (∀ b o, G' b = some o → G b = some o ∨ M b) := by
  obtain ⟨adr, h1, h2, h3⟩ := a.mus
  obtain ⟨vs, l, ⟨n, ho⟩, hr, hm⟩ := h1 x ds hx
  generalize ho' : ({ cls := .type "list", data := .seq vs.toArray n } : Obj) = o at ho
  have hc : o.cls = .type "list" := by rw [← ho']
  have hd : o.data = .seq vs.toArray n := by rw [← ho']
  obtain ⟨k1, k2, k3, k4, _⟩ := a.off _ hm
  have le : ∀ b p, G b = some p → G.put (adr x) o b = some p := fun b p e => by
    unfold PH.put; split
    · rename_i q; subst q; rw [k1] at e; cases e
    · exact e
  have hS : ∀ y, y ≠ x → upS S x (.val (.lst ds)) y = S y := fun y hy => by simp [upS, hy]
  have nx : ∀ b, b ≠ adr x → G.put (adr x) o b = G b := fun b hb => by simp [PH.put, hb]
  refine ⟨G.put (adr x) o, fun b => M b ∧ b ≠ adr x, ⟨⟨⟨a.at0.st.keep, fun b p e => le _ _ (a.at0.st.le b p e), fun b p e => ?_, ⟨a.at0.st.go.sok, ok.ti _ _ _ _ a.at0.st.go.ti (fun a o _ e => le a o e) (fun _ _ => rfl), fun b p e => ?_, fun b hb => ?_⟩, a.at0.st.toks⟩, ⟨a.at0.fr.ns, ?_, fun y c hc => ?_, a.at0.fr.inj, a.at0.fr.full⟩, ?_⟩, ⟨adr, fun y ds' hy => ?_, fun y z ds1 ds2 hy hz e => ?_, fun y z hy => ?_⟩, ?_⟩, le, fun b h => h.1, fun b p e => ?_⟩
  · unfold PH.put at e; split at e
    · rename_i q; subst q; exact .inr k3
    · exact a.at0.st.fresh b p e
  · unfold PH.put at e; split at e
    · rename_i q; subst q; cases e; exact ho
    · exact a.at0.st.go.le b p e
  · rw [nx b (fun q => k2 (q ▸ hb))]
    exact a.at0.st.go.noT b hb
  · rw [nx _ (fun q => k4 (.inl q.symm))]; exact a.at0.fr.gl
  · obtain ⟨e1, e2, e3, e4⟩ := a.at0.fr.cell y c hc
    exact ⟨e1, by rw [nx _ (fun q => k4 (.inr ⟨y, q ▸ hc⟩))]; exact e2, e3, e4⟩
  · rw [vals_upS]
    intro y d hd hv
    unfold updV at hd
    split at hd
    · rename_i e
      subst e
      simp [B.val?] at hd
      subst hd
      exact ⟨_, l, .lst (PH.put_self ..) hc hd (hr.mono le)⟩
    · obtain ⟨w, l', r'⟩ := a.at0.rd y d hd hv
      exact ⟨w, l', r'.mono le⟩
  · have q : y ≠ x := fun q => by subst q; simp [upS] at hy
    rw [hS y q] at hy
    obtain ⟨ws, l', hl', hr', hm'⟩ := h1 y ds' hy
    exact ⟨ws, l', hl', hr'.mono le, hm', fun e => q (h2 y x _ _ hy hx e)⟩
  · have q : y ≠ x := fun q => by subst q; simp [upS] at hy
    have q' : z ≠ x := fun q => by subst q; simp [upS] at hz
    rw [hS y q] at hy
    rw [hS z q'] at hz
    exact h2 y z _ _ hy hz e
  · have q : y ≠ x := fun q => by subst q; simp [upS] at hy
    rw [hS y q] at hy
    obtain ⟨bb, o', l', e1, e2, ds', e3⟩ := h3 y z hy
    have hz : z ≠ x := fun q => hna y (q ▸ hy)
    exact ⟨bb, o', l', le _ _ e1, e2, ds', by rw [hS z hz]; exact e3⟩
  · rintro bb ⟨hbb, hne⟩
    obtain ⟨k1', k2', k3', k4', o', k5'⟩ := a.off bb hbb
    exact ⟨by rw [nx bb hne]; exact k1', k2', k3', k4', o', k5'⟩
  · unfold PH.put at e; split at e
    · rename_i q; subst q; exact .inr hm
    · exact .inl e

/-- a list of the function's is changed -/
theorem mu_upd (k₀ : Sok C s₀) (eo : EnvOk C env) {x : Str} {ds ds' : List D} {vs' : List Value} {a₀ : Addr} (a : AtM C env G₀ s₀ S G σ M s) (hx : S x = .mu ds) (hl : Look env s.heap x (.ref a₀)) (hvis : vis env x) {h' : Heap} {tk : Nat}
    (hs : Heap.SameBut a₀ s.heap h') (hn : MuL h' a₀ vs') (hr : RL G σ ds' vs') (ht : s.toks ≤ tk) :
    AtM C env G₀ s₀ (upS S x (.mu ds')) G σ M { s with heap := h', toks := tk } ∧ Kp C env G M s G M { s with heap := h', toks := tk } := by
  obtain ⟨adr, h1, h2, h3⟩ := a.mus
  obtain ⟨vs₀, l₀, hL, hr₀, hm⟩ := h1 x ds hx
  have lu : ∀ {y : Str} {u v : Value}, Look env s.heap y u → Look env s.heap y v → u = v := fun lu lv => by
    rcases lu with ⟨hk, m, ⟨o1, es1, ep1, q1, q2, q3, q4⟩, hv⟩ | ⟨hk, c, hc, o, ho, hd⟩ <;> rcases lv with ⟨hk', m', ⟨o2, es2, ep2, p1, p2, p3, p4⟩, hv'⟩ | ⟨hk', c', hc', o', ho', hd'⟩
    · rw [q1] at p1; cases p1
      rw [q2] at p2; cases p2
      rw [← q4] at hv; rw [← p4] at hv'
      rw [hv] at hv'; exact Option.some.inj hv'
    · rcases hk' with z | z <;> rw [hk] at z <;> cases z
    · rcases hk with z | z <;> rw [hk'] at z <;> cases z
    · rw [hc] at hc'; cases hc'
      rw [ho] at ho'; cases ho'
      rw [hd] at hd'; cases hd'; rfl
  have ea : adr x = a₀ := by have := lu l₀ hl; cases this; rfl
  subst ea
  obtain ⟨k1, k2, k3, k4, _⟩ := a.off _ hm
  have hk : ∀ b o, b ≠ adr x → s.heap.get? b = some o → h'.get? b = some o := fun b o hb e => (hs.2 b hb).trans e
  have nl : env.locals ≠ adr x := fun q => k4 (.inl q.symm)
  have nc : ∀ y c, env.cells.lookup y = some c → c ≠ adr x := fun y c hc q => k4 (.inr ⟨y, q ▸ hc⟩)
  have lk : ∀ {y : Str} {u : Value}, Look env s.heap y u → Look env h' y u := fun l => by
    rcases l with ⟨hk', m, hm, hv⟩ | ⟨hk', c, hc, o, ho, hd⟩
    · exact .inl ⟨hk', m, hm.at' fun o e => hk _ o nl e, hv⟩
    · exact .inr ⟨hk', c, hc, o, hk _ o (nc _ _ hc) ho, hd⟩
  obtain ⟨m, hm'⟩ := a.at0.fr.ns
  have hS : ∀ y, y ≠ x → upS S x (.mu ds') y = S y := fun y hy => by simp [upS, hy]
  have hat : AtM C env G₀ s₀ (upS S x (.mu ds')) G σ M { s with heap := h', toks := tk } := ⟨⟨Step.but ok k₀ a.at0.st k3 k2 k1 hk ht, ⟨⟨m, hm'.at' fun o e => hk _ o nl e⟩, a.at0.fr.gl, fun y c hc => ?_, a.at0.fr.inj, a.at0.fr.full⟩, ?_⟩, ⟨adr, fun y ds1 hy => ?_, fun y z ds1 ds2 hy hz e => ?_, fun y z hy => ?_⟩, fun b hb => ?_⟩
  exact ⟨hat, ⟨fun b o _ hb _ e => hk b o (fun q => hb (q ▸ hm)) e, fun _ h => .inl h, ht, fun _ _ e => .inl e, hat.gt⟩⟩
  · obtain ⟨⟨w, o, ho, hd⟩, e2, e3, e4⟩ := a.at0.fr.cell y c hc
    exact ⟨⟨w, o, hk _ o (nc _ _ hc) ho, hd⟩, e2, e3, e4⟩
  · rw [vals_upS]
    exact a.at0.rd.upd ok (v := .ref (adr x)) (fun d' e => by simp [B.val?] at e) fun y w _ l => lk l
  · by_cases q : y = x
    · subst q
      simp [upS] at hy
      subst hy
      exact ⟨vs', lk l₀, hn, hr, hm⟩
    · rw [hS y q] at hy
      obtain ⟨ws, l, hl', hr', hm''⟩ := h1 y ds1 hy
      exact ⟨ws, lk l, hl'.at fun o e => hk _ o (fun z => q (h2 y x _ _ hy hx z)) e, hr', hm''⟩
  · have gy : ∃ d, S y = .mu d := by
      by_cases q : y = x
      · exact ⟨ds, q ▸ hx⟩
      · rw [hS y q] at hy; exact ⟨_, hy⟩
    have gz : ∃ d, S z = .mu d := by
      by_cases q : z = x
      · exact ⟨ds, q ▸ hx⟩
      · rw [hS z q] at hz; exact ⟨_, hz⟩
    exact h2 y z _ _ gy.choose_spec gz.choose_spec e
  · have q : y ≠ x := fun q => by subst q; simp [upS] at hy
    rw [hS y q] at hy
    obtain ⟨bb, o, l, e1, e2, ds1, e3⟩ := h3 y z hy
    refine ⟨bb, o, lk l, e1, e2, ?_⟩
    by_cases q' : z = x
    · exact ⟨ds', by simp [upS, q']⟩
    · exact ⟨ds1, by rw [hS z q']; exact e3⟩
  · obtain ⟨e1, e2, e3, e4, o, e5⟩ := a.off b hb
    by_cases q : b = adr x
    · obtain ⟨n, e⟩ := hn
      exact ⟨e1, e2, e3, e4, _, q ▸ e⟩
    · exact ⟨e1, e2, e3, e4, o, hk b o q e5⟩
end
end Mine
end TA9
section TB1
open PySem PySem.W PyProof.Rows PySem.Calls
namespace Mine

set_option genCtorIdx true in
set_option genInjectivity true in
inductive Fl where
  | next | brk | ret (d : D)
noncomputable def FlR (G : PH) (σ : Addr) : Fl → Flow → Prop
  | .next, .next => True
  | .brk, .brk => True
  | .ret d, .ret v => R G σ d v
  | _, _ => False
noncomputable abbrev Le (G G' : PH) : Prop := ∀ b o, G b = some o → G' b = some o

noncomputable def EvS (C : Cx) (A : Around) (env : Env) (G₀ : PH) (s₀ : Shared) (t : Sem Flow) (S : St) (G : PH) (σ : Addr) (M : Addr → Prop) (s : Shared) (f : Fl) (S' : St) : Prop :=
  ∀ (Q : Flow → Shared → Prop) (E : Value → Shared → Prop), (∀ fl s' G' M', AtM C env G₀ s₀ S' G' σ M' s' → Le G G' → Kp C env G M s G' M' s' → FlR G' σ f fl → Q fl s') → wpAny (model C.prog C.w) A t Q E s
noncomputable def EvA (C : Cx) (A : Around) (env : Env) (G₀ : PH) (s₀ : Shared) (t : Sem Unit) (S : St) (G : PH) (σ : Addr) (M : Addr → Prop) (s : Shared) (S' : St) : Prop :=
  ∀ (Q : Unit → Shared → Prop) (E : Value → Shared → Prop), (∀ s' G' M', AtM C env G₀ s₀ S' G' σ M' s' → Le G G' → Kp C env G M s G' M' s' → Q () s') → wpAny (model C.prog C.w) A t Q E s

set_option genCtorIdx true in
inductive Tg where
  | nm (x : Str) | tup (l : List Tg)
mutual
inductive IsTg : Expr → Tg → Prop
  | nm (x : Str) (pos : Pos) : IsTg (.Name x pos) (.nm x)
  | tup {elts : List Expr} {k : Nat} {pos : Pos} {ts : List Tg} (h : IsTgL elts ts) : IsTg (.Tuple elts k pos) (.tup ts)
inductive IsTgL : List Expr → List Tg → Prop
  | nil : IsTgL [] []
  | cons {e : Expr} {es : List Expr} {t : Tg} {ts : List Tg} (h : IsTg e t) (hr : IsTgL es ts) : IsTgL (e :: es) (t :: ts)
end
mutual
inductive Bd (env : Env) (s₀ : Shared) : Tg → D → St → St → Prop
  | nm {x : Str} {d : D} {S : St} (hl : FreshLoc env s₀ x) (hna : ∀ y, S y ≠ .app x) : Bd env s₀ (.nm x) d S (upS S x (.val d))
  | tup {ts : List Tg} {ds : List D} {S S' : St} (h : BdL env s₀ ts ds S S') : Bd env s₀ (.tup ts) (.tup ds) S S'
inductive BdL (env : Env) (s₀ : Shared) : List Tg → List D → St → St → Prop
  | nil {S : St} : BdL env s₀ [] [] S S
  | cons {t : Tg} {ts : List Tg} {d : D} {ds : List D} {S S' S'' : St} (h : Bd env s₀ t d S S') (hr : BdL env s₀ ts ds S' S'') : BdL env s₀ (t :: ts) (d :: ds) S S''
end

theorem IsTg.each {e : Expr} {t : Tg} (h : IsTg e t) (r : List Expr) (env : Env) : assignEach (e :: r) env = (false, assign e env) :: assignEach r env := by
  cases h <;> rfl
theorem IsTgL.len {es : List Expr} {ts : List Tg} (h : IsTgL es ts) (env : Env) : (assignEach es env).length = ts.length ∧ (assignEach es env).findIdx? (·.1) = none :=
  IsTgL.rec (motive_1 := fun _ _ _ => True) (motive_2 := fun es ts _ => (assignEach es env).length = ts.length ∧ (assignEach es env).findIdx? (·.1) = none) (fun _ _ => trivial) (fun _ _ => trivial) ⟨rfl, rfl⟩
    (fun h _ _ ih => by
      rw [h.each]
      exact ⟨congrArg Nat.succ ih.1, (List.findIdx?_cons ..).trans (congrArg (Option.map (· + 1)) ih.2)⟩) h
theorem Bd.nm_e {env : Env} {s₀ : Shared} {x : Str} {d : D} {S S' : St} {P : St → Prop} (h : Bd env s₀ (.nm x) d S S') (hp : FreshLoc env s₀ x → (∀ y, S y ≠ .app x) → P (upS S x (.val d))) : P S' := by
  cases h with | nm a b => exact hp a b
theorem Bd.tup_e {env : Env} {s₀ : Shared} {ts : List Tg} {d : D} {S S' : St} {P : D → Prop} (h : Bd env s₀ (.tup ts) d S S') (hp : ∀ ds, BdL env s₀ ts ds S S' → P (.tup ds)) : P d := by
  cases h with | tup a => exact hp _ a
theorem BdL.nil_e {env : Env} {s₀ : Shared} {ds : List D} {S S' : St} {P : List D → St → Prop} (h : BdL env s₀ [] ds S S') (hp : P [] S) : P ds S' := by
  cases h; exact hp
theorem BdL.cons_e {env : Env} {s₀ : Shared} {t : Tg} {ts : List Tg} {ds : List D} {S S' : St} {P : List D → Prop} (h : BdL env s₀ (t :: ts) ds S S') (hp : ∀ d r S1, Bd env s₀ t d S S1 → BdL env s₀ ts r S1 S' → P (d :: r)) : P ds := by
  cases h with | cons a b => exact hp _ _ _ a b
theorem BdL.len {env : Env} {s₀ : Shared} {ts : List Tg} : ∀ {ds : List D} {S S' : St}, BdL env s₀ ts ds S S' → ts.length = ds.length := by
  induction ts with
  | nil => exact fun h => h.nil_e (P := fun ds _ => _ = ds.length) rfl
  | cons t ts ih => exact fun h => h.cons_e (P := fun ds => _ = ds.length) fun d r S1 _ b => congrArg Nat.succ (ih b)

section
variable {C : Cx} (ok : C.Ok) {A : Around} {G₀ : PH} {σ : Addr} {s₀ : Shared} {env : Env} (k₀ : Sok C s₀) (eo : EnvOk C env) (hh : A.handled = none)
include ok k₀ eo hh

theorem extbut_keep {h h' : Heap} (e : Heap.ExtBut h.objs.size h h') : ∀ b o, h.get? b = some o → h'.get? b = some o := fun b o q => e b o (Nat.ne_of_lt (Heap.lt_size q)) q

theorem assign_ok {e : Expr} {t : Tg} (ht : IsTg e t) : ∀ {d : D} {S S' : St}, Bd env s₀ t d S S' → ∀ {G : PH} {M : Addr → Prop} {s : Shared}, AtM C env G₀ s₀ S G σ M s → ∀ {v : Value}, R G σ d v → EvA C A env G₀ s₀ (assign e env v) S G σ M s S' :=
  IsTg.rec (motive_1 := fun e t _ => ∀ {d : D} {S S' : St}, Bd env s₀ t d S S' → ∀ {G : PH} {M : Addr → Prop} {s : Shared}, AtM C env G₀ s₀ S G σ M s → ∀ {v : Value}, R G σ d v → EvA C A env G₀ s₀ (assign e env v) S G σ M s S')
    (motive_2 := fun es ts _ => ∀ {ds : List D} {S S' : St}, BdL env s₀ ts ds S S' → ∀ {G : PH} {M : Addr → Prop} {s : Shared}, AtM C env G₀ s₀ S G σ M s → ∀ {vs : List Value}, RL G σ ds vs → EvA C A env G₀ s₀ (assignInOrder ((assignEach es env).map (·.2)) vs.toArray.toList) S G σ M s S')
    (fun x pos {d S S'} hb {G M s} a {v} hr => by
      apply hb.nm_e; intro hl hna Q E h
      exact wpAny_assign_Name (st_bind ok k₀ eo a hl hna hr fun s' a' kp => h s' G M a' (fun _ _ e => e) kp))
    (fun {es k pos ts} hts ih {d S S'} hb {G M s} a {v} hr => by
      revert hr
      apply hb.tup_e; intro ds hbs hr Q E h
      obtain ⟨b, vs, rfl, hl, hvs⟩ := hr.tup_at a.at0.st.go
      obtain ⟨h1, h2⟩ := hts.len env
      refine wpAny_assign_Tuple hh hl (h1.trans (hbs.len.trans hvs.length.symm)) h2 fun h' hx => ?_
      have P := Step.keeps (ht := Nat.le_refl _) ok a.at0.st.go (tk := s.toks) (extbut_keep ok k₀ eo hh hx)
      exact ih hbs (a.step ok eo P) (hvs.mono P.le) _ _ fun s' G' M' a' le kp => h s' G' M' a' le ((Step.kp ok eo a P).trans kp))
    (fun {ds S S'} hb {G M s} a {vs} hr => by
      revert hr
      apply hb.nil_e (P := fun ds S' => RL G σ ds vs → EvA C A env G₀ s₀ _ S G σ M s S'); intro hr
      apply hr.nil_e; intro Q E h
      exact wpAny_assignInOrder_none (h s G M a (fun _ _ e => e) (.refl a)))
    (fun {e es t ts} h1 h2 ih1 ih2 {ds S S'} hb {G M s} a {vs} hr => by
      revert hr
      apply hb.cons_e; intro d r S1 b1 b2 hr
      apply hr.cons_e; intro v vs r1 r2 Q E h
      rw [h1.each]
      refine wpAny_assignInOrder_more (ih1 b1 a r1 _ _ fun s' G' M' a' le kp => ?_)
      exact ih2 b2 a' (r2.mono le) _ _ fun s'' G'' M'' a'' le' kp' => h s'' G'' M'' a'' (fun b o e => le' b o (le b o e)) (kp.trans kp')) ht
end
end Mine
end TB1
section TB2
open PySem PySem.W PyProof.Rows PySem.Calls
namespace Mine

noncomputable def notComp : Expr → Bool
  | .ListComp .. => false
  | .SetComp .. => false
  | .DictComp .. => false
  | _ => true
theorem swaps_plain {v : Expr} {t : Option Expr} {n : Nat} {env : Env} (h : notComp v = true) : swapsWith v t n env = pure false := by
  cases v <;> first | rfl | cases h
noncomputable def notTup : Expr → Bool
  | .Tuple .. => false
  | _ => true
theorem swapped_plain {elts : List Expr} {k : Nat} {p : Pos} {v : Expr} {env : Env} (h : notTup v = true) : swappedStores [.Tuple elts k p] v env = pure none := by
  cases v <;> first | rfl | cases h

section
variable {C : Cx} (ok : C.Ok) {A : Around} {G₀ G : PH} {σ : Addr} {s₀ s : Shared} {env : Env} (k₀ : Sok C s₀) (eo : EnvOk C env) {S S' S'' : St} {M : Addr → Prop}
include ok k₀ eo

theorem s_nil (a : AtM C env G₀ s₀ S G σ M s) : EvS C A env G₀ s₀ (execs [] env) S G σ M s .next S := fun Q E h => wpAny_execs_nil (h _ s G M a (fun _ _ e => e) (.refl a) trivial)
theorem s_cons {st : Stmt} {rest : List Stmt} {f : Fl} (h1 : EvS C A env G₀ s₀ (exec st env) S G σ M s .next S') (h2 : ∀ s' G' M', AtM C env G₀ s₀ S' G' σ M' s' → Le G G' → EvS C A env G₀ s₀ (execs rest env) S' G' σ M' s' f S'') :
    EvS C A env G₀ s₀ (execs (st :: rest) env) S G σ M s f S'' := fun Q E h => wpAny_execs_cons (h1 _ _ fun fl s' G' M' a le kp fr => by
  cases fl <;> first | exact fr.elim | skip
  exact h2 s' G' M' a le _ _ fun fl s'' G'' M'' a' le' kp' fr' => h fl s'' G'' M'' a' (fun b o e => le' b o (le b o e)) (kp.trans kp') fr')
theorem s_cons_stop {st : Stmt} {rest : List Stmt} {f : Fl} (hf : f ≠ .next) (h1 : EvS C A env G₀ s₀ (exec st env) S G σ M s f S') : EvS C A env G₀ s₀ (execs (st :: rest) env) S G σ M s f S' := fun Q E h => wpAny_execs_cons (h1 _ _ fun fl s' G' M' a le kp fr => by
  have q := h fl s' G' M' a le kp fr
  cases fl with
  | next => cases f <;> first | exact absurd rfl hf | exact fr.elim
  | brk => exact q
  | cont => exact q
  | ret v => exact q)
theorem s_assign {x : Str} {p' pos : Pos} {value : Expr} {d : D} (hn : notComp value = true) (a : AtM C env G₀ s₀ S G σ M s) (hl : FreshLoc env s₀ x) (hna : ∀ y, S y ≠ .app x) (hv : EvE C A (eval value env) G σ d s) :
    EvS C A env G₀ s₀ (exec (.Assign [.Name x p'] value pos) env) S G σ M s .next (upS S x (.val d)) := fun Q E h =>
  wpAny_Assign_Name (hv _ _ fun v s1 G1 S1 r1 => st_bind ok k₀ eo (a.step ok eo S1) hl hna r1 fun s' a' kp => h _ s' G1 M a' S1.le ((Step.kp ok eo a S1).trans kp) trivial) (swaps_plain hn)
theorem s_assign_tup {elts : List Expr} {k : Nat} {tp pos : Pos} {value : Expr} {ts : List Tg} {d : D} (hh : A.handled = none) (hn : notComp value = true) (hnt : notTup value = true) (ht : IsTgL elts ts) (hb : Bd env s₀ (.tup ts) d S S') (a : AtM C env G₀ s₀ S G σ M s)
    (hv : EvE C A (eval value env) G σ d s) : EvS C A env G₀ s₀ (exec (.Assign [.Tuple elts k tp] value pos) env) S G σ M s .next S' := fun Q E h =>
  PyProof.Rows.Assign_Tuple (hv _ _ fun v s1 G1 S1 r1 => assign_ok ok k₀ eo hh (.tup ht) hb (a.step ok eo S1) r1 _ _ fun s' G' M' a' le kp => h _ s' G' M' a' (fun b o e => le b o (S1.le b o e)) ((Step.kp ok eo a S1).trans kp) trivial) (by show swapsWith value (some (.Tuple elts k tp)) pos.line env = _; exact swaps_plain hn) (swapped_plain hnt)
theorem s_aug {x : Str} {p' pos : Pos} {op : Operator} {value : Expr} {d1 d2 d : D} (a : AtM C env G₀ s₀ S G σ M s) (hl : FreshLoc env s₀ x) (hna : ∀ y, S y ≠ .app x) (hx : S x = .val d1) (hop : op = .Add) (hi : ∃ i, d1 = .int i)
    (hv : ∀ G' s', Step C G s G' s' → EvE C A (eval value env) G' σ d2 s') (e : binD op d1 d2 = some d) :
    EvS C A env G₀ s₀ (exec (.AugAssign (.Name x p') op value pos) env) S G σ M s .next (upS S x (.val d)) := fun Q E h => by
  have hvis : vis env x := by rcases hl with ⟨hk, _⟩ | ⟨hk, _⟩ <;> simp [vis, hk]
  obtain ⟨w, l, rw'⟩ := a.at0.rd x d1 (by simp [vals, hx, B.val?]) hvis
  have ld : ∀ {Q' : Value → Shared → Prop} {E' : Value → Shared → Prop}, Q' w s → wpAny (model C.prog C.w) A (loadName env x) Q' E' s := fun q => by
    rcases l with ⟨hk, m, hm, hv⟩ | ⟨hk, c, hc, hv⟩
    · exact wpAny_loadName_local eo.kind hk hm hv q
    · rcases hl with ⟨hk', _⟩ | ⟨hk', _⟩
      · rcases hk with hk | hk <;> rw [hk] at hk' <;> cases hk'
      · exact wpAny_loadName_cell eo.kind hk' hc hv q
  refine wpAny_AugAssign_Name (ld ?_)
  refine hv G s (Step.refl a.at0.st.go) _ _ fun v s1 G1 S1 r1 => ?_
  subst hop
  obtain ⟨i, rfl⟩ := hi
  cases d2 <;> simp [binD, addD] at e
  subst e
  cases rw'
  (first | (apply R.int_e r1; intro _) | (apply R.str_e r1; intro _) | apply R.raw_e r1 | (apply RL.nil_e r1; clear r1) | cases r1)
  refine P.iadd_int (st_bind ok k₀ eo ((a.step ok eo S1).step ok eo (Step.tick (ht := by first | exact Nat.le_refl _ | exact Nat.le_succ _ | omega) ok S1.go)) hl hna (.int _ _) fun s' a' kp => h _ s' G1 M a' S1.le ((Step.kp ok eo a (S1.trans (Step.tick (ht := by first | exact Nat.le_refl _ | exact Nat.le_succ _ | omega) ok S1.go))).trans kp) trivial)
theorem s_if {test : Expr} {body orelse : List Stmt} {pos : Pos} {b : Bool} {f : Fl} (a : AtM C env G₀ s₀ S G σ M s) (ht : EvB C A (isTrue test env (eval test env)) G b s)
    (hb : ∀ s' G', AtM C env G₀ s₀ S G' σ M s' → Le G G' → EvS C A env G₀ s₀ (execs (if b then body else orelse) env) S G' σ M s' f S') : EvS C A env G₀ s₀ (exec (.If test body orelse pos) env) S G σ M s f S' := fun Q E h =>
  wpAny_If (ht _ _ fun s1 G1 S1 => by
    have z := hb s1 G1 (a.step ok eo S1) S1.le Q E fun fl s2 G2 M2 a2 le kp fr => h fl s2 G2 M2 a2 (fun b o e => le b o (S1.le b o e)) ((Step.kp ok eo a S1).trans kp) fr
    cases b <;> exact z)
theorem s_ret {e : Expr} {pos : Pos} {d : D} (a : AtM C env G₀ s₀ S G σ M s) (he : EvE C A (eval e env) G σ d s) : EvS C A env G₀ s₀ (exec (.Return (some e) pos) env) S G σ M s (.ret d) S := fun Q E h =>
  wpAny_Return_some (he _ _ fun v s1 G1 S1 r1 => h _ s1 G1 M (a.step ok eo S1) S1.le (Step.kp ok eo a S1) r1)
theorem s_brk {pos : Pos} (a : AtM C env G₀ s₀ S G σ M s) : EvS C A env G₀ s₀ (exec (.Break pos) env) S G σ M s .brk S := fun Q E h => wpAny_Break (h _ s G M a (fun _ _ e => e) (.refl a) trivial)
theorem s_assert {test : Expr} {msg : Option Expr} {pos : Pos} (a : AtM C env G₀ s₀ S G σ M s) (ht : EvB C A (isTrue test env (eval test env)) G true s) : EvS C A env G₀ s₀ (exec (.Assert test msg pos) env) S G σ M s .next S := fun Q E h =>
  wpAny_Assert_holds (ht _ _ fun s1 G1 S1 => ⟨rfl, h _ s1 G1 M (a.step ok eo S1) S1.le (Step.kp ok eo a S1) trivial⟩)

/-- a while loop: the turns, counted -/
inductive Wh (test : St → Bool → Prop) (body : St → Fl → St → Prop) : Nat → St → Fl → St → Prop
  | stop {n : Nat} {S : St} (h : test S false) : Wh test body n S .next S
  | turn {n : Nat} {S S' S'' : St} {f : Fl} (h : test S true) (hb : body S .next S') (hr : Wh test body n S' f S'') : Wh test body (n + 1) S f S''
  | brk {n : Nat} {S S' : St} (h : test S true) (hb : body S .brk S') : Wh test body (n + 1) S .next S'
  | ret {n : Nat} {S S' : St} {d : D} (h : test S true) (hb : body S (.ret d) S') : Wh test body (n + 1) S (.ret d) S'

theorem s_while {test : Expr} {body : List Stmt} {pos : Pos} {T : St → Bool → Prop} {Bo : St → Fl → St → Prop} {f : Fl} (hh : A.handled = none)
    (hT : ∀ S b, T S b → ∀ s G M, AtM C env G₀ s₀ S G σ M s → EvB C A (isTrue test env (eval test env)) G b s)
    (hB : ∀ S f S', Bo S f S' → ∀ s G M, AtM C env G₀ s₀ S G σ M s → EvS C A env G₀ s₀ (execs body env) S G σ M s f S')
    {n : Nat} (w : Wh T Bo n S f S') (a : AtM C env G₀ s₀ S G σ M s) : EvS C A env G₀ s₀ (exec (.While test body [] pos) env) S G σ M s f S' := fun Q E h => by
  refine wpAny_While ?_
  have hA : A.mark none = A := by cases A; rfl
  refine codeAny_whileLoop (fun n' s' => ∃ S1 G1 M1, Wh T Bo n' S1 f S' ∧ AtM C env G₀ s₀ S1 G1 σ M1 s' ∧ Le G G1 ∧ Kp C env G M s G1 M1 s') (fun n' s1 hI => ?_) n ⟨S, G, M, w, a, fun _ _ e => e, .refl a⟩
  obtain ⟨S1, G1, M1, w1, a1, le1, kp1⟩ := hI
  cases w1 with
  | stop ht =>
    refine hT _ _ ht _ _ _ a1 _ _ fun s2 G2 S2 => ?_
    exact wpAny_execs_nil (h _ s2 G2 M1 (a1.step ok eo S2) (fun b o e => S2.le b o (le1 b o e)) (kp1.trans (Step.kp ok eo a1 S2)) trivial)
  | turn ht hb hr =>
    refine hT _ _ ht _ _ _ a1 _ _ fun s2 G2 S2 => ?_
    simp only [if_true]
    refine hB _ _ _ hb _ _ _ (a1.step ok eo S2) _ _ fun fl s3 G3 M3 a3 le3 kp3 fr => ?_
    cases fl <;> first | exact fr.elim | skip
    exact ⟨_, Nat.lt_succ_self _, _, G3, M3, hr, a3, fun b o e => le3 b o (S2.le b o (le1 b o e)), kp1.trans ((Step.kp ok eo a1 S2).trans kp3)⟩
  | brk ht hb =>
    refine hT _ _ ht _ _ _ a1 _ _ fun s2 G2 S2 => ?_
    simp only [if_true]
    refine hB _ _ _ hb _ _ _ (a1.step ok eo S2) _ _ fun fl s3 G3 M3 a3 le3 kp3 fr => ?_
    cases fl <;> first | exact fr.elim | skip
    exact h _ s3 G3 M3 a3 (fun b o e => le3 b o (S2.le b o (le1 b o e))) (kp1.trans ((Step.kp ok eo a1 S2).trans kp3)) trivial
  | ret ht hb =>
    refine hT _ _ ht _ _ _ a1 _ _ fun s2 G2 S2 => ?_
    simp only [if_true]
    refine hB _ _ _ hb _ _ _ (a1.step ok eo S2) _ _ fun fl s3 G3 M3 a3 le3 kp3 fr => ?_
    cases fl <;> first | exact fr.elim | skip
    exact h _ s3 G3 M3 a3 (fun b o e => le3 b o (S2.le b o (le1 b o e))) (kp1.trans ((Step.kp ok eo a1 S2).trans kp3)) fr
end
end Mine
end TB2
section TB3
open PySem PySem.W PyProof.Rows PySem.Calls
namespace Mine

section
variable {C : Cx} (ok : C.Ok) {A : Around} {G₀ G : PH} {σ : Addr} {s₀ s : Shared} {env : Env} (k₀ : Sok C s₀) (eo : EnvOk C env) {S S' S'' : St} {M : Addr → Prop}
include ok k₀ eo

theorem s_frz {t : Sem Flow} {x : Str} {ds : List D} {f : Fl} (a : AtM C env G₀ s₀ S G σ M s) (hx : S x = .mu ds) (hna : ∀ y, S y ≠ .app x)
    (h : ∀ G' M', AtM C env G₀ s₀ (upS S x (.val (.lst ds))) G' σ M' s → Le G G' → EvS C A env G₀ s₀ t (upS S x (.val (.lst ds))) G' σ M' s f S') : EvS C A env G₀ s₀ t S G σ M s f S' := fun Q E hq => by
  obtain ⟨G', M', a', le, hm, hg⟩ := frz ok a hx hna
  exact h G' M' a' le _ _ fun fl s' G'' M'' a'' le' kp fr => hq fl s' G'' M'' a'' (fun b o e => le' b o (le b o e)) ⟨fun b o h1 h2 h3 e => kp.keep b o h1 (fun q => h2 (hm b q)) h3 e, fun b hb => (kp.new b hb).imp (hm b) id, kp.toks, fun b o e => (kp.gn b o e).elim (fun z => (hg b o z).imp id .inl) fun z => .inr (z.imp (hm b) id), kp.gt⟩ fr

/-- a name is read -/
theorem ev_name {x : Str} {pos : Pos} {v : Value} (l : Look env s.heap x v) (hd : (x == ("__debug__" : Str)) = false) (hn : (x == ("__classdict__" : Str)) = false) {Q : Value → Shared → Prop} {E : Value → Shared → Prop} (h : Q v s) :
    wpAny (model C.prog C.w) A (eval (.Name x pos) env) Q E s := by
  rcases l with ⟨hk, m, hm, hv⟩ | ⟨hk, c, hc, hv⟩
  · exact wpAny_Name (wpAny_loadName_local eo.kind hk hm hv h) hd
  · rcases hk with hk | hk
    · exact wpAny_Name (wpAny_loadName_cell eo.kind hk hc hv h) hd
    · exact wpAny_Name (wpAny_loadName_free eo.kind hk hc hv h hn) hd

theorem s_newlist {x : Str} {p' lp pos : Pos} {elts : List Expr} {ds : List D} (a : AtM C env G₀ s₀ S G σ M s) (hl : FreshLoc env s₀ x) (hna : ∀ y, S y ≠ .app x) (hf : fit ds = true) (hv : EvL C A (spliced (backTo lp (starEach elts env))) G σ ds s) :
    EvS C A env G₀ s₀ (exec (.Assign [.Name x p'] (.List elts lp) pos) env) S G σ M s .next (upS S x (.mu ds)) := fun Q E h => by
  refine wpAny_Assign_Name (wpAny_List (hv _ _ fun vs s1 G1 S1 r1 => ⟨by rw [r1.length]; exact fit_iff.mp hf, ?_⟩)) (swaps_plain rfl)
  have a1 := a.step ok eo S1
  have hk : ∀ b o, s1.heap.get? b = some o → (s1.heap.push { cls := .type "list", data := .seq vs.toArray }).get? b = some o := fun b o e => Heap.get?_push_of_some _ e
  have P := Step.keeps (ht := by first | exact Nat.le_refl _ | exact Nat.le_succ _ | omega) ok S1.go (tk := s1.toks) hk
  have a2 := a1.step ok eo P
  have hn : s1.heap.get? s1.heap.objs.size = none := get_size _
  have key : ∀ b, (∃ o, s1.heap.get? b = some o) → s1.heap.objs.size ≠ b := fun b ⟨o, e⟩ q => by rw [← q, hn] at e; cases e
  have hG : G1 s1.heap.objs.size = none := by
    cases q : G1 s1.heap.objs.size with
    | none => rfl
    | some o => exact absurd rfl (key _ ⟨o, S1.go.le _ _ q⟩)
  have hT : s1.heap.objs.size ∉ C.T := S1.go.notT ok hn
  have hs₀ : s₀.heap.get? s1.heap.objs.size = none := by
    cases q : s₀.heap.get? s1.heap.objs.size with
    | none => rfl
    | some o => exact absurd rfl (key _ ⟨o, a1.at0.st.keep _ o q hT⟩)
  have hO : ¬ Own env s1.heap.objs.size := by
    rintro (q | ⟨y, q⟩)
    · obtain ⟨m, o, _, _, e, _⟩ := a1.at0.fr.ns
      exact key _ ⟨o, e⟩ q
    · obtain ⟨⟨w, o, e, _⟩, _⟩ := a1.at0.fr.cell y _ q
      exact key _ ⟨o, e⟩ rfl
  have hM : ¬ M s1.heap.objs.size := fun q => by
    obtain ⟨_, _, _, _, o, e⟩ := a1.off _ q
    exact key _ ⟨o, e⟩ rfl
  refine st_new ok k₀ eo a2 hl hna (vs := vs) ⟨0, Heap.get?_push_size _ rfl⟩ r1 hM hG hT hs₀ hO fun s' a' hkk ht => h _ s' G1 _ a' S1.le ?_ trivial
  refine (Step.kp ok eo a S1).trans ⟨fun b o h1 h2 h3 e => hkk b o h1 (hk b o e), fun b hb => ?_, ht, fun _ _ e => .inl e, a'.gt⟩
  rcases hb with hb | rfl
  · exact .inl hb
  · exact .inr ⟨hn, hT, hO⟩

/-- x.append(e) -/
theorem s_append {x : Str} {xp apos cpos pos : Pos} {e : Expr} {ds : List D} {d : D} (a : AtM C env G₀ s₀ S G σ M s) (hx : S x = .mu ds) (hvis : vis env x) (hd1 : (x == ("__debug__" : Str)) = false) (hd2 : (x == ("__classdict__" : Str)) = false)
    (hi : interactive env = false) (hline : (apos.endLine == cpos.line) = true) (hn : notStar e = true) (hf : fit ds = true) (he : EvE C A (eval e env) G σ d s) :
    EvS C A env G₀ s₀ (exec (.Expr (.Call (.Attribute (.Name x xp) "append" apos) [e] [] cpos) pos) env) S G σ M s .next (upS S x (.mu (ds ++ [d]))) := fun Q E h => by
  obtain ⟨adr, h1, h2, h3⟩ := a.mus
  obtain ⟨vs, l, ⟨n, hL⟩, hr, hm⟩ := h1 x ds hx
  refine wpAny_Expr ?_ hi (swaps_plain rfl)
  refine wpAny_Call_method (T := "list") (id := "list.append") (attrBase_plain rfl) ?_ hline F.plainAttrs_list F.slot_list_append F.type_list_append (ev_name ok k₀ eo l hd1 hd2 ⟨⟨_, hL, rfl⟩, fun b hb => ?_, ?_⟩)
  · rw [trees_plain (by simp [hn])]; rfl
  · cases hb; exact ⟨_, hL, rfl⟩
  · refine callWith_builtin (trees_any (by simp [hn])) ?_
    rw [starEach_cons hn]
    refine evalArgs_plain (spliced_cons (he _ _ fun v s1 G1 S1 r1 => spliced_nil ?_))
    have a1 := a.step ok eo S1
    have hL1 := S1.keep _ _ hL (a.off _ hm).2.1
    refine append_at hL1 (fun h' hs ho => ?_) (by rw [List.size_toArray, hr.length]; exact fit_iff.mp hf)
    obtain ⟨a2, kp⟩ := mu_upd ok k₀ eo a1 hx (l.step eo S1) hvis (vs' := vs ++ [v]) (ds' := ds ++ [d]) (tk := s1.toks) hs ⟨n + 1, by rw [ho]; simp⟩ ((hr.mono S1.le).append (.cons r1 .nil)) (Nat.le_refl _)
    exact h _ _ G1 M a2 S1.le ((Step.kp ok eo a S1).trans kp) trivial
end
end Mine
end TB3
section TB4
open PySem PySem.W PyProof.Rows PySem.Calls
namespace Mine

noncomputable def itemsD : D → Option (List D)
  | .lst l => some l
  | .tup l => some l
  | .str l => some (l.map fun c => .str [c])
  | _ => none
noncomputable def goers : List String := ["enumerate", "zip", "dict_itemiterator", "dict_reverseitemiterator", "odict_iterator", "itertools.zip_longest", "itertools.pairwise"]
structure ItOk (C : Cx) (I : Addr) (fp : List Addr) (ds : List D) (P : Nat → Value → Prop) (T : Nat → Heap → Prop) (G : PH) (σ : Addr) : Prop where
  W : ∀ A : Around, A.handled = none → Walks C.prog C.w A I fp [I] ds.length P T
  fp : ∀ b ∈ fp, b = I ∨ ∃ o, G b = some o
  val : ∀ i v, P i v → ∃ d, ds[i]? = some d ∧ R G σ d v
  cls : ∀ i h, T i h → ∃ o n, h.get? I = some o ∧ o.cls = .type n ∧ goers.contains n = false
theorem ItOk.mono {C : Cx} {I : Addr} {fp : List Addr} {ds : List D} {P : Nat → Value → Prop} {T : Nat → Heap → Prop} {G G' : PH} {σ : Addr} (x : ItOk C I fp ds P T G σ) (le : Le G G') : ItOk C I fp ds P T G' σ :=
  ⟨x.W, fun b hb => (x.fp b hb).imp id fun ⟨o, e⟩ => ⟨o, le _ _ e⟩, fun i v h => let ⟨d, e, r⟩ := x.val i v h; ⟨d, e, r.mono le⟩, x.cls⟩

theorem letOwn_ok {M : Model} {A : Around} {E : Value → Shared → Prop} {s : Shared} {Q : Unit → Shared → Prop} {target : Expr} {I : Addr} {v : Value} {o : Obj} {n : String} (ho : s.heap.get? I = some o) (hc : o.cls = .type n) (hn : goers.contains n = false) (h : Q () s) :
    wpAny M A (letOwnedTupleGo target (.ref I) v) Q E s := by
  have key : ∀ a, wpAny M A (do
      let o ← load I
      match o.cls, o.data with
      | .type n, .fields vs =>
        if ["enumerate", "zip", "dict_itemiterator", "dict_reverseitemiterator", "odict_iterator", "itertools.zip_longest", "itertools.pairwise"].contains n && vs[0]? == some (rawInt a) then
          rule "for.unpacks-the-owned-tuple"
          updateField I 0 .none
      | _, _ => pure () : Sem Unit) Q E s := fun a => by
    refine wpAny_bind (wpAny_load ho ?_)
    rw [hc]
    have hn' : ["enumerate", "zip", "dict_itemiterator", "dict_reverseitemiterator", "odict_iterator", "itertools.zip_longest", "itertools.pairwise"].contains n = false := hn
    cases o.data <;> first
      | exact wpAny_pure h
      | (simp only [hn', Bool.false_and, Bool.false_eq_true, if_false]; exact wpAny_pure h)
  unfold letOwnedTupleGo
  split
  · split
    · rename_i r a q
      cases q
      exact key _
    · exact wpAny_pure h
  · split
    · rename_i r a q
      cases q
      exact key _
    · exact wpAny_pure h
  · exact wpAny_pure h

section
variable {C : Cx} (ok : C.Ok) {A : Around} {G : PH} {σ : Addr} {s : Shared}
include ok

theorem iter_ok {d : D} {v : Value} {ds : List D} (g : Go C G s) (hr : R G σ d v) (hi : itemsD d = some ds) {Q : Value → Shared → Prop} {E : Value → Shared → Prop}
    (h : ∀ fp P T o, ItOk C s.heap.objs.size fp ds P T G σ → T 0 (s.heap.push o) → o.isFreed = false → Q (.ref s.heap.objs.size) { s with heap := s.heap.push o }) : wpAny (model C.prog C.w) A (pyIter v) Q E s := by
  unfold itemsD at hi
  split at hi <;> cases hi
  · rename_i l
    cases hr with
    | lst ho hc hd hl =>
    rename_i a o n vs
    have hL : s.heap.IsList a vs.toArray := ⟨_, g.le _ _ ho, hc, _, hd⟩
    have hlt := Heap.lt_size (g.le _ _ ho)
    have W := fun (A' : Around) (hA : A'.handled = none) => Walks.list (prog := C.prog) (w := C.w) hA s.heap.objs.size a (Nat.ne_of_lt hlt) vs.toArray
    have e0 : vs.toArray.size = ds.length := by simp [hl.length]
    rw [e0] at W
    refine wpAny_pyIter_list hL (h [s.heap.objs.size, a] (fun i v => vs.toArray[i]? = some v) (fun i h => h.IsListIter s.heap.objs.size a i ∧ h.IsList a vs.toArray) _ ⟨W, fun b hb => ?_, fun i v hv => ?_, fun i h' hT => ?_⟩ ⟨⟨_, Heap.get?_push_size _ rfl, rfl, rfl⟩, hL.push _⟩ rfl)
    · rcases List.mem_cons.mp hb with e | hb
      · exact .inl e
      · rw [List.mem_singleton.mp hb]; exact .inr ⟨_, ho⟩
    · have hv' : vs[i]? = some v := by simpa using hv
      have hlt : i < ds.length := by rw [← hl.length]; exact (List.getElem?_eq_some_iff.mp hv').1
      obtain ⟨w, e1, e2⟩ := hl.get (List.getElem?_eq_getElem hlt)
      rw [hv'] at e1; cases e1
      exact ⟨_, List.getElem?_eq_getElem hlt, e2⟩
    · obtain ⟨⟨o, ho, hc, _⟩, _⟩ := hT
      exact ⟨o, _, ho, hc, by decide⟩
  · rename_i l
    cases hr with
    | tup ho hc hd hl =>
    rename_i a o n vs
    have hL : s.heap.IsTuple a vs.toArray := ⟨_, g.le _ _ ho, hc, _, hd⟩
    have hlt := Heap.lt_size (g.le _ _ ho)
    have W := fun (A' : Around) (hA : A'.handled = none) => Walks.tuple (prog := C.prog) (w := C.w) hA s.heap.objs.size a (Nat.ne_of_lt hlt) vs.toArray
    have e0 : vs.toArray.size = ds.length := by simp [hl.length]
    rw [e0] at W
    refine wpAny_pyIter_tuple hL (h [s.heap.objs.size, a] (fun i v => vs.toArray[i]? = some v) (fun i h => h.IsTupleIter s.heap.objs.size a i ∧ h.IsTuple a vs.toArray) _ ⟨W, fun b hb => ?_, fun i v hv => ?_, fun i h' hT => ?_⟩ ⟨⟨_, Heap.get?_push_size _ rfl, rfl, rfl⟩, ⟨_, Heap.get?_push_of_some _ (g.le _ _ ho), hc, _, hd⟩⟩ rfl)
    · rcases List.mem_cons.mp hb with e | hb
      · exact .inl e
      · rw [List.mem_singleton.mp hb]; exact .inr ⟨_, ho⟩
    · have hv' : vs[i]? = some v := by simpa using hv
      have hlt : i < ds.length := by rw [← hl.length]; exact (List.getElem?_eq_some_iff.mp hv').1
      obtain ⟨w, e1, e2⟩ := hl.get (List.getElem?_eq_getElem hlt)
      rw [hv'] at e1; cases e1
      exact ⟨_, List.getElem?_eq_getElem hlt, e2⟩
    · obtain ⟨⟨o, ho, hc, _⟩, _⟩ := hT
      exact ⟨o, _, ho, hc, by decide⟩
  · rename_i l
    cases hr with
    | str _ t =>
    have hval : ∀ i v, SignAt ⟨l.toArray⟩ i v → ∃ d, (l.map fun c => D.str [c])[i]? = some d ∧ R G σ d v := fun i v hv => by
      obtain ⟨c, u, e, rfl⟩ := hv
      exact ⟨.str [c], by simpa using e, .str [c] u⟩
    cases ha : l.toArray.all (· < 128)
    · refine wpAny_pyIter_wide ha (h [s.heap.objs.size] (SignAt ⟨l.toArray⟩) (fun i h => h.IsStrIter s.heap.objs.size "str_iterator" ⟨l.toArray⟩ t i) _ ⟨fun A' hA => by have := Walks.strWide (prog := C.prog) (w := C.w) hA s.heap.objs.size ⟨l.toArray⟩ t; rw [show (⟨l.toArray⟩ : Str).cps.size = (l.map fun c => D.str [c]).length by simp] at this; exact this, fun b hb => .inl (List.mem_singleton.mp hb), hval, fun i h' hT => ?_⟩ ⟨_, Heap.get?_push_size _ rfl, rfl, rfl⟩ rfl)
      obtain ⟨o, ho, hc, _⟩ := hT
      exact ⟨o, _, ho, hc, by decide⟩
    · refine wpAny_pyIter_ascii ha (h [s.heap.objs.size] (SignAt ⟨l.toArray⟩) (fun i h => h.IsStrIter s.heap.objs.size "str_ascii_iterator" ⟨l.toArray⟩ t i) _ ⟨fun A' hA => by have := Walks.strAscii (prog := C.prog) (w := C.w) hA s.heap.objs.size ⟨l.toArray⟩ t; rw [show (⟨l.toArray⟩ : Str).cps.size = (l.map fun c => D.str [c]).length by simp] at this; exact this, fun b hb => .inl (List.mem_singleton.mp hb), hval, fun i h' hT => ?_⟩ ⟨_, Heap.get?_push_size _ rfl, rfl, rfl⟩ rfl)
      obtain ⟨o, ho, hc, _⟩ := hT
      exact ⟨o, _, ho, hc, by decide⟩
end
end Mine
end TB4
section TB5
open PySem PySem.W PyProof.Rows PySem.Calls
namespace Mine

section
variable {C : Cx} (ok : C.Ok) {A : Around} {G₀ G : PH} {σ : Addr} {s₀ s : Shared} {env : Env} (k₀ : Sok C s₀) (eo : EnvOk C env) {S S' S'' : St} {M : Addr → Prop}
include ok k₀ eo

/-- an object beside the state is changed -/
theorem AtM.but (a : AtM C env G₀ s₀ S G σ M s) {I : Addr} (hI0 : s₀.heap.get? I = none) (hIG : G I = none) (hIT : I ∉ C.T) (hIO : ¬ Own env I) (hIM : ¬ M I) {h' : Heap} {tk : Nat}
    (hk : ∀ b o, b ≠ I → s.heap.get? b = some o → h'.get? b = some o) (ht : s.toks ≤ tk) : AtM C env G₀ s₀ S G σ M { s with heap := h', toks := tk } := by
  have nl : env.locals ≠ I := fun q => hIO (.inl q.symm)
  have nc : ∀ y c, env.cells.lookup y = some c → c ≠ I := fun y c hc q => hIO (.inr ⟨y, q ▸ hc⟩)
  have lk : ∀ {y : Str} {u : Value}, Look env s.heap y u → Look env h' y u := fun l => by
    rcases l with ⟨hk', m, hm, hv⟩ | ⟨hk', c, hc, o, ho, hd⟩
    · exact .inl ⟨hk', m, hm.at' fun o e => hk _ o nl e, hv⟩
    · exact .inr ⟨hk', c, hc, o, hk _ o (nc _ _ hc) ho, hd⟩
  obtain ⟨m, hm'⟩ := a.at0.fr.ns
  obtain ⟨adr, h1, h2, h3⟩ := a.mus
  refine ⟨⟨Step.but ok k₀ a.at0.st hI0 hIT hIG hk ht, ⟨⟨m, hm'.at' fun o e => hk _ o nl e⟩, a.at0.fr.gl, fun y c hc => ?_, a.at0.fr.inj, a.at0.fr.full⟩, fun y d hd hv => ?_⟩, ⟨adr, fun y ds hy => ?_, h2, fun y z hy => ?_⟩, fun b hb => ?_⟩
  · obtain ⟨⟨w, o, ho, hd⟩, e2, e3, e4⟩ := a.at0.fr.cell y c hc
    exact ⟨⟨w, o, hk _ o (nc _ _ hc) ho, hd⟩, e2, e3, e4⟩
  · obtain ⟨w, l, r⟩ := a.at0.rd y d hd hv
    exact ⟨w, lk l, r⟩
  · obtain ⟨vs, l, hl, hr, hm⟩ := h1 y ds hy
    exact ⟨vs, lk l, hl.at fun o e => hk _ o (fun q => hIM (q ▸ hm)) e, hr, hm⟩
  · obtain ⟨bb, o, l, e⟩ := h3 y z hy
    exact ⟨bb, o, lk l, e⟩
  · obtain ⟨e1, e2, e3, e4, o, e5⟩ := a.off b hb
    exact ⟨e1, e2, e3, e4, o, hk b o (fun q => hIM (q ▸ hb)) e5⟩

inductive Fo (bind : D → St → St → Prop) (body : St → Fl → St → Prop) : List D → St → Fl → St → Prop
  | nil {S : St} : Fo bind body [] S .next S
  | turn {d : D} {r : List D} {S S1 S2 S3 : St} {f : Fl} (h1 : bind d S S1) (h2 : body S1 .next S2) (h3 : Fo bind body r S2 f S3) : Fo bind body (d :: r) S f S3
  | brk {d : D} {r : List D} {S S1 S2 : St} (h1 : bind d S S1) (h2 : body S1 .brk S2) : Fo bind body (d :: r) S .next S2
  | ret {d : D} {r : List D} {S S1 S2 : St} {x : D} (h1 : bind d S S1) (h2 : body S1 (.ret x) S2) : Fo bind body (d :: r) S (.ret x) S2

noncomputable def ForPost (Q : Flow → Shared → Prop) (J : Nat → Shared → Prop) (n : Nat) (fl : Flow) (s : Shared) : Prop := match fl with
  | .next | .cont => ∃ m, m < n ∧ J m s
  | .brk => Q .next s
  | .ret v => Q (.ret v) s

end
end Mine
end TB5
section TB6
open PySem PySem.W PyProof.Rows PySem.Calls
namespace Mine

/-- what a block closes over -/
noncomputable def closL (env : Env) : List (Str × NameKind) → List (Str × Addr) → List (Str × Addr)
  | [], acc => acc
  | (n, k) :: r, acc => if k == .free then closL env r ((n, (env.cells.lookup n).getD 0) :: acc) else closL env r acc
theorem closL_mem {env : Env} : ∀ {names : List (Str × NameKind)} {acc : List (Str × Addr)} {p : Str × Addr}, p ∈ closL env names acc ↔ p ∈ acc ∨ ((p.1, .free) ∈ names ∧ p.2 = (env.cells.lookup p.1).getD 0)
  | [], acc, p => by simp [closL]
  | (n, k) :: r, acc, p => by
    unfold closL
    split
    · rename_i h
      have hk : k = .free := by simpa using h
      subst hk
      rw [closL_mem, List.mem_cons, List.mem_cons]
      constructor
      · rintro ((rfl | h) | h)
        · exact .inr ⟨.inl rfl, rfl⟩
        · exact .inl h
        · exact .inr ⟨.inr h.1, h.2⟩
      · rintro (h | ⟨h | h, e⟩)
        · exact .inl (.inr h)
        · refine .inl (.inl ?_)
          cases h
          exact Prod.ext rfl e
        · exact .inr ⟨h, e⟩
    · rename_i h
      have hk : k ≠ .free := by simpa using h
      rw [closL_mem, List.mem_cons]
      constructor
      · rintro (h | h)
        · exact .inl h
        · exact .inr ⟨.inr h.1, h.2⟩
      · rintro (h | ⟨h | h, e⟩)
        · exact .inl h
        · cases h; exact absurd rfl hk
        · exact .inr ⟨h, e⟩
theorem closureFor_is {scope : Scope} {env : Env} (h : ∀ n, (n, NameKind.free) ∈ scope.names → ∃ c, env.cells.lookup n = some c) : closureFor scope env = pure (closL env scope.names []) := by
  have key : ∀ (names : List (Str × NameKind)) (acc : List (Str × Addr)), (∀ n, (n, NameKind.free) ∈ names → ∃ c, env.cells.lookup n = some c) →
      (forIn names acc (fun (x : Str × NameKind) (r : List (Str × Addr)) => (match x with | (name, kind) => if kind == .free then (do let c ← cellOf env name; pure (.yield ((name, c) :: r))) else pure (.yield r) : Sem (ForInStep (List (Str × Addr))))) : Sem _) = pure (closL env names acc) := by
    intro names
    induction names with
    | nil => intro acc _; rfl
    | cons x r ih =>
      intro acc hn
      obtain ⟨n, k⟩ := x
      rw [List.forIn_cons]
      unfold closL
      by_cases hk : (k == NameKind.free) = true
      · simp only [hk, if_true]
        have hk' : k = .free := by simpa using hk
        subst hk'
        obtain ⟨c, hc⟩ := hn n List.mem_cons_self
        have : cellOf env n = pure c := by unfold cellOf; rw [hc]
        rw [this, hc]
        exact ih _ fun m hm => hn m (List.mem_cons_of_mem _ hm)
      · simp only [hk]
        exact ih _ fun m hm => hn m (List.mem_cons_of_mem _ hm)
  unfold closureFor
  have e := key scope.names [] h
  simp only [bind_pure]
  exact e

/-- the cells that a new block gets -/
theorem cells_new : ∀ (names : List (Str × NameKind)) (h : Heap) (acc : List (Str × Addr)), (∀ p ∈ acc, p.2 < h.objs.size) → acc.Pairwise (fun x y => x.2 ≠ y.2) →
    (cellsFrom h.objs.size names acc).Pairwise (fun x y => x.2 ≠ y.2) ∧
    (∀ p ∈ cellsFrom h.objs.size names acc, p ∈ acc ∨ ((p.1, .cell) ∈ names ∧ h.objs.size ≤ p.2 ∧ (pushCells h names).IsCell p.2 none)) ∧
    (∀ p ∈ acc, p ∈ cellsFrom h.objs.size names acc) ∧ (∀ x, (x, NameKind.cell) ∈ names → ∃ c, (x, c) ∈ cellsFrom h.objs.size names acc)
  | [], h, acc, hlt, hp => ⟨hp, fun p hp => .inl hp, fun p hp => hp, fun x hx => nomatch hx⟩
  | (n, k) :: r, h, acc, hlt, hp => by
    unfold pushCells cellsFrom
    by_cases hk : (k == NameKind.cell) = true
    · rw [if_pos hk, if_pos hk]
      have hk' : k = .cell := by simpa using hk
      subst hk'
      have hs : (h.push { cls := .type "cell", data := .cell none }).objs.size = h.objs.size + 1 := Heap.size_push ..
      obtain ⟨h1, h2, h3, h4⟩ := cells_new r (h.push { cls := .type "cell", data := .cell none }) ((n, h.objs.size) :: acc)
        (fun p hp => by
          rw [hs]
          rcases List.mem_cons.mp hp with rfl | hp
          · exact Nat.lt_succ_self _
          · exact Nat.lt_succ_of_lt (hlt p hp))
        (List.pairwise_cons.mpr ⟨fun y hy e => Nat.lt_irrefl _ (by have := hlt y hy; rw [← e] at this; exact this), hp⟩)
      rw [hs] at h1 h2 h3 h4
      refine ⟨h1, fun p hp => ?_, fun p hp => h3 p (List.mem_cons_of_mem _ hp), fun x hx => ?_⟩
      · rcases h2 p hp with q | ⟨q1, q2, q3⟩
        · rcases List.mem_cons.mp q with rfl | q
          · exact .inr ⟨List.mem_cons_self, Nat.le_refl _, ⟨_, pushCells_keeps _ _ _ _ (Heap.get?_push_size _ rfl), rfl⟩⟩
          · exact .inl q
        · exact .inr ⟨List.mem_cons_of_mem _ q1, Nat.le_of_succ_le q2, q3⟩
      · rcases List.mem_cons.mp hx with e | hx
        · cases e; exact ⟨_, h3 _ List.mem_cons_self⟩
        · exact h4 x hx
    · rw [if_neg hk, if_neg hk]
      obtain ⟨h1, h2, h3, h4⟩ := cells_new r h acc hlt hp
      refine ⟨h1, fun p hp => (h2 p hp).imp id fun q => ⟨List.mem_cons_of_mem _ q.1, q.2⟩, h3, fun x hx => ?_⟩
      rcases List.mem_cons.mp hx with e | hx
      · cases e; exact absurd rfl hk
      · exact h4 x hx

noncomputable def compEnvF (scope : Scope) (cl : List (Str × Addr)) (L : Addr) (env : Env) : Env :=
  { scope := relabel scope env, locals := L, globals := env.globals, cells := cellsFrom (L + 1) scope.names cl, qual := env.qual, func := none, code := env.code, frame := env.frame, builtins := env.builtins }
theorem newEnv_comp {M : Model} {A : Around} {E : Value → Shared → Prop} {s : Shared} {scope : Scope} {cl : List (Str × Addr)} {env : Env} {Q : Env → Shared → Prop}
    (h : ∀ cenv, ({ cenv with scope := relabel scope env } : Env) = compEnvF scope cl s.heap.objs.size env → cenv.locals = s.heap.objs.size → Q cenv { s with heap := pushCells (s.heap.push { cls := .type "dict", data := .dict #[] }) scope.names }) :
    wpAny M A (newFunctionEnv scope env.globals cl [] env.qual none .none (some env)) Q E s := by
  simp only [newFunctionEnv, Option.isSome_some, if_true]
  refine wpAny_bind (wpAny_alloc ?_)
  refine wpAny_bind (wpAny_layCells _ (fun name kind cells => by cases hkc : kind == NameKind.cell <;> simp [hkc]) _ _ _ _ ?_)
  refine wpAny_bind (wpAny_pure (wpAny_pure (h _ ?_ rfl)))
  have hs : (s.heap.push { cls := .type "dict", data := .dict #[] }).objs.size = s.heap.objs.size + 1 := Heap.size_push ..
  simp only [compEnvF, hs]

theorem codeAny_comp_own {prog : Program} {w : World} {A : Around} {R : Result → Shared → Prop} {s : Shared} {elt target iter : Expr} {ifs : List Expr} {scope : Scope} {pos : Pos} {it acc : Value} {env : Env} (I : Nat → Shared → Prop)
    (turn : ∀ n s, I n s → wpAny (model prog w) A (pyNext it) (fun r s₁ => match r with
      | none => R (.ok .next) s₁
      | some v => wpAny (model prog w) A (letOwnedTupleGo target it v) (fun _ s₁' => wpAny (model prog w) A (assign target env v) (fun _ s₂ =>
          wpAny (model prog w) A (forIn ifs true fun c r => if r = true then do let ok ← isTrue c env (eval c env); pure (ForInStep.yield ok) else pure (ForInStep.yield r)) (fun ok s₃ =>
            if ok = true then wpAny (model prog w) A (eval elt env) (fun x s₄ =>
              wpAny (model prog w) A (call (.builtin "list.append") [acc, x]) (fun _ s₅ => ∃ m, m < n ∧ I m s₅) (notedBy (model prog w) A env fun e s' => R (.error e) s') s₄) (notedBy (model prog w) A env fun e s' => R (.error e) s') s₃
            else ∃ m, m < n ∧ I m s₃) (notedBy (model prog w) A env fun e s' => R (.error e) s') s₂) (notedBy (model prog w) A env fun e s' => R (.error e) s') s₁') (notedBy (model prog w) A env fun e s' => R (.error e) s') s₁) (notedBy (model prog w) A env fun e s' => R (.error e) s') s)
    (n : Nat) (h : I n s) :
    codeAny (model prog w) A (.compLoop (.ListComp elt [⟨target, iter, ifs, 0⟩] scope pos) 0 it acc env) R s := by
  refine codeAny_loop rfl I (fun n s hI => ?_) n h
  show wpAny _ A ((compTurn (.ListComp elt [⟨target, iter, ifs, 0⟩] scope pos) 0 it acc env).onRaise (fun x => do noteFrame x env; theTreesLotGoes x)) _ _ s
  refine wpAny_noted ?_
  rw [compTurn_list]
  refine wpAny_bind (wpAny_standAt (wpAny_bind (wpAny_mono (turn n s hI) (fun r s₁ h₁ => ?_) fun _ _ h' => h')))
  cases r with
  | none => exact wpAny_pure h₁
  | some v =>
    refine wpAny_bind (wpAny_mono h₁ (fun _ s₁' h₁' => ?_) fun _ _ h' => h')
    refine wpAny_bind (wpAny_mono h₁' (fun _ s₂ h₂ => wpAny_bind (wpAny_mono h₂ (fun ok s₃ h₃ => ?_) fun _ _ h' => h')) fun _ _ h' => h')
    cases ok with
    | false => exact wpAny_pure ⟨rfl, h₃⟩
    | true =>
      exact wpAny_bind (wpAny_bind (wpAny_mono h₃ (fun x s₄ h₄ => wpAny_bind (wpAny_mono h₄ (fun _ s₅ h₅ => wpAny_pure (wpAny_pure ⟨rfl, h₅⟩)) fun _ _ h' => h')) fun _ _ h' => h'))
end Mine
end TB6
section TB7
open PySem PySem.W PyProof.Rows PySem.Calls
namespace Mine

theorem lookup_mem {α : Type} {l : List (Str × α)} {x : Str} {v : α} (h : l.lookup x = some v) : (x, v) ∈ l := by
  induction l with
  | nil => simp at h
  | cons p r ih =>
    obtain ⟨n, k⟩ := p
    rw [List.lookup_cons] at h
    split at h
    · rename_i q
      have : x = n := by simpa using q
      subst this
      cases h
      exact List.mem_cons_self
    · exact List.mem_cons_of_mem _ (ih h)
theorem mem_lookup {α : Type} {l : List (Str × α)} {x : Str} {v : α} (h : (x, v) ∈ l) : ∃ w, l.lookup x = some w := by
  induction l with
  | nil => simp at h
  | cons p r ih =>
    obtain ⟨n, k⟩ := p
    rw [List.lookup_cons]
    split
    · exact ⟨_, rfl⟩
    · rename_i q
      rcases List.mem_cons.mp h with e | h
      · cases e; simp at q
      · exact ih h
theorem nodup_lookup {α : Type} {l : List (Str × α)} (hn : (l.map (·.1)).Nodup) {x : Str} {v : α} (h : (x, v) ∈ l) : l.lookup x = some v := by
  induction l with
  | nil => simp at h
  | cons p r ih =>
    obtain ⟨n, k⟩ := p
    rw [List.map_cons, List.nodup_cons] at hn
    rw [List.lookup_cons]
    rcases List.mem_cons.mp h with e | h
    · cases e; simp
    · have : x ≠ n := fun q => hn.1 (by rw [← q]; exact List.mem_map_of_mem (f := (·.1)) h)
      have : (x == n) = false := by simpa using this
      rw [this]
      exact ih hn.2 h

noncomputable def relF (env : Env) (p : Str × NameKind) : Str × NameKind := if (p.2 == .free && env.scope.kind == .function && env.kindOf p.1 == some .cell) then (p.1, .cell) else p
theorem relF_fst {env : Env} (p : Str × NameKind) : (relF env p).1 = p.1 := by unfold relF; split <;> rfl
theorem relabel_names {scope : Scope} {env : Env} : (relabel scope env).names = scope.names.map (relF env) := by
  unfold relabel relF
  rfl
theorem kind_rel {scope : Scope} {env cenv : Env} (hc : cenv.scope = relabel scope env) (hn : (scope.names.map (·.1)).Nodup) {x : Str} {k : NameKind} (h : (x, k) ∈ scope.names) :
    cenv.kindOf x = some (relF env (x, k)).2 := by
  unfold Env.kindOf
  rw [hc, relabel_names]
  refine nodup_lookup ?_ ?_
  · rw [List.map_map]
    have : ((fun x => x.1) ∘ relF env) = (fun x : Str × NameKind => x.1) := by funext p; exact relF_fst p
    rw [this]; exact hn
  · rw [show (x, (relF env (x, k)).2) = relF env (x, k) from Prod.ext (relF_fst (x, k)).symm rfl]
    exact List.mem_map_of_mem h
theorem kind_rel' {scope : Scope} {env cenv : Env} (hc : cenv.scope = relabel scope env) {x : Str} {k : NameKind} (h : cenv.kindOf x = some k) : ∃ k', (x, k') ∈ scope.names ∧ k = (relF env (x, k')).2 := by
  unfold Env.kindOf at h
  rw [hc, relabel_names] at h
  obtain ⟨p, hp, e⟩ := List.mem_map.mp (lookup_mem h)
  obtain ⟨y, k'⟩ := p
  have e1 : y = x := by have := congrArg Prod.fst e; rw [relF_fst] at this; exact this
  subst e1
  exact ⟨k', hp, (congrArg Prod.snd e).symm⟩

/-- what a block sees of its surroundings -/
noncomputable def compS (scope : Scope) (S : St) : St := fun x => if (x, NameKind.free) ∈ scope.names then (match S x with | .val d => .val d | _ => .none) else .none
theorem compS_val {scope : Scope} {S : St} {x : Str} {d : D} : compS scope S x = .val d ↔ (x, NameKind.free) ∈ scope.names ∧ S x = .val d := by
  unfold compS
  split
  · rename_i h
    cases hs : S x <;> simp [h]
  · rename_i h
    simp [h]
theorem compS_no {scope : Scope} {S : St} {x : Str} : (∀ ds, compS scope S x ≠ .mu ds) ∧ (∀ y, compS scope S x ≠ .app y) := by
  unfold compS
  constructor <;> intro q <;> split <;> (try split) <;> simp

section
variable {C : Cx} (ok : C.Ok) {A : Around} {G G₀ : PH} {σ : Addr} {s s₀ : Shared} {env : Env} {S : St} {M : Addr → Prop}
include ok
theorem AtM.weaken {S' : St} (a : AtM C env G₀ s₀ S G σ M s) (h : ∀ x d, S' x = .val d → vis env x → S x = .val d) (hm : ∀ x ds, S' x ≠ .mu ds) (ha : ∀ x y, S' x ≠ .app y) : AtM C env G₀ s₀ S' G σ M s := by
  refine ⟨⟨a.at0.st, a.at0.fr, fun x d hx hv => ?_⟩, ⟨fun _ => 0, fun x ds hx => absurd hx (hm x ds), fun x y ds _ hx => absurd hx (hm x ds), fun x y hx => absurd hx (ha x y)⟩, a.off⟩
  refine a.at0.rd x d ?_ hv
  unfold vals at hx ⊢
  have : S' x = .val d := by
    cases q : S' x <;> rw [q] at hx <;> simp [B.val?] at hx
    rw [hx]
  rw [h x d this hv]; rfl
end
end Mine
end TB7
section TB8
open PySem PySem.W PyProof.Rows PySem.Calls
namespace Mine

theorem pair_mem {l : List (Str × Addr)} (h : l.Pairwise fun x y => x.2 ≠ y.2) {p q : Str × Addr} (hp : p ∈ l) (hq : q ∈ l) (e : p.2 = q.2) : p = q := by
  induction h with
  | nil => cases hp
  | cons h1 h2 ih =>
    rcases List.mem_cons.mp hp with e1 | hp1
    · rcases List.mem_cons.mp hq with e2 | hq1
      · rw [e1, e2]
      · exact absurd (e1 ▸ e) (h1 _ hq1)
    · rcases List.mem_cons.mp hq with e2 | hq1
      · exact absurd (e2 ▸ e.symm) (h1 _ hp1)
      · exact ih hp1 hq1
theorem closL_apart {env : Env} (inj : ∀ x y c, env.cells.lookup x = some c → env.cells.lookup y = some c → x = y) : ∀ {names : List (Str × NameKind)} {acc : List (Str × Addr)}, (names.map (·.1)).Nodup →
    (∀ x, (x, NameKind.free) ∈ names → ∃ c, env.cells.lookup x = some c) → (∀ p ∈ acc, env.cells.lookup p.1 = some p.2 ∧ p.1 ∉ names.map (·.1)) → acc.Pairwise (fun x y => x.2 ≠ y.2) → (closL env names acc).Pairwise (fun x y => x.2 ≠ y.2)
  | [], acc, _, _, _, hp => hp
  | (n, k) :: r, acc, hn, hf, ha, hp => by
    rw [List.map_cons, List.nodup_cons] at hn
    unfold closL
    split
    · rename_i h
      have hk : k = .free := by simpa using h
      subst hk
      obtain ⟨c, hc⟩ := hf n List.mem_cons_self
      refine closL_apart inj hn.2 (fun x hx => hf x (List.mem_cons_of_mem _ hx)) (fun p hp => ?_) (List.pairwise_cons.mpr ⟨fun y hy => ?_, hp⟩)
      · rcases List.mem_cons.mp hp with rfl | hp
        · exact ⟨by simp [hc], hn.1⟩
        · exact ⟨(ha p hp).1, fun q => (ha p hp).2 (List.mem_cons_of_mem _ q)⟩
      · simp only [hc, Option.getD_some]
        intro e
        have h1 := (ha y hy).1
        rw [← e] at h1
        have := inj _ _ _ hc h1
        exact (ha y hy).2 (by rw [← this]; exact List.mem_cons_self)
    · exact closL_apart inj hn.2 (fun x hx => hf x (List.mem_cons_of_mem _ hx)) (fun p hp => ⟨(ha p hp).1, fun q => (ha p hp).2 (List.mem_cons_of_mem _ q)⟩) hp

section
variable {C : Cx} (ok : C.Ok) {A : Around} {G G₀ : PH} {σ : Addr} {s s₀ : Shared} {env : Env} {S : St} {M : Addr → Prop}
include ok

theorem comp_env (eo : EnvOk C env) (a : AtM C env G₀ s₀ S G σ M s) {scope : Scope} (hkind : scope.kind = .function) (hnd : (scope.names.map (·.1)).Nodup) (hfree : ∀ n, (n, NameKind.free) ∈ scope.names → env.kindOf n = some .cell ∨ env.kindOf n = some .free)
    {h2 : Heap} (hk : ∀ a o, s.heap.get? a = some o → h2.get? a = some o) (hsz : s.heap.objs.size ≤ h2.objs.size) {cenv : Env} (hc : cenv = compEnvF scope (closL env scope.names []) h2.objs.size env) :
    AtM C cenv G s (compS scope S) G σ (fun _ => False) { s with heap := pushCells (h2.push { cls := .type "dict", data := .dict #[] }) scope.names } ∧ EnvOk C cenv ∧
    (∀ x k, (x, k) ∈ scope.names → k = .local ∨ k = .cell → FreshLoc cenv s x) := by
  have hfull := a.at0.fr.full
  have hcl : ∀ n, (n, NameKind.free) ∈ scope.names → ∃ c, env.cells.lookup n = some c := fun n hn => hfull n (hfree n hn)
  generalize hH : h2.push { cls := .type "dict", data := .dict #[] } = H
  have hHs : H.objs.size = h2.objs.size + 1 := by rw [← hH]; exact Heap.size_push ..
  have hHk : ∀ a o, s.heap.get? a = some o → H.get? a = some o := fun a o e => hH ▸ Heap.get?_push_of_some _ (hk a o e)
  have hPk : ∀ a o, s.heap.get? a = some o → (pushCells H scope.names).get? a = some o := fun a o e => pushCells_keeps _ _ _ _ (hHk a o e)
  have hsE : cenv.scope = relabel scope env := by rw [hc]; rfl
  have hL : cenv.locals = h2.objs.size := by rw [hc]; rfl
  have hcE : cenv.cells = cellsFrom H.objs.size scope.names (closL env scope.names []) := by rw [hc, hHs]; rfl
  have clmem : ∀ p, p ∈ closL env scope.names [] → (p.1, NameKind.free) ∈ scope.names ∧ env.cells.lookup p.1 = some p.2 := fun p hp => by
    rcases closL_mem.mp hp with h | ⟨h1, h2⟩
    · cases h
    · obtain ⟨c, e⟩ := hcl _ h1
      exact ⟨h1, by rw [e] at h2 ⊢; rw [h2]; rfl⟩
  have fresh : ∀ b, s.heap.objs.size ≤ b → s.heap.get? b = none := fun b hb => by
    cases q : s.heap.get? b with
    | none => rfl
    | some o => exact absurd (Heap.lt_size q) (Nat.not_lt.mpr hb)
  have cold : ∀ p, p ∈ closL env scope.names [] → ∃ v o, s.heap.get? p.2 = some o ∧ s.heap.IsCell p.2 v := fun p hp => by
    obtain ⟨⟨v, o, ho, hd⟩, _⟩ := a.at0.fr.cell _ _ (clmem p hp).2
    exact ⟨v, o, ho, o, ho, hd⟩
  obtain ⟨n1, n2, n3, n4⟩ := cells_new scope.names H (closL env scope.names []) (fun p hp => by
    obtain ⟨v, o, ho, _⟩ := cold p hp
    exact Nat.lt_of_lt_of_le (Heap.lt_size ho) (by lia)) (closL_apart a.at0.fr.inj hnd hcl (fun p hp => nomatch hp) List.Pairwise.nil)
  rw [← hcE] at n1 n2 n3 n4
  have lk : ∀ x c, cenv.cells.lookup x = some c → (((x, NameKind.free) ∈ scope.names ∧ env.cells.lookup x = some c)) ∨ ((x, NameKind.cell) ∈ scope.names ∧ H.objs.size ≤ c ∧ (pushCells H scope.names).IsCell c none) := fun x c h =>
    (n2 _ (lookup_mem h)).imp (clmem _) id
  have hnoT : ∀ b, s.heap.get? b = none → b ∉ C.T := fun b hb => a.at0.st.go.notT ok hb
  have hnoG : ∀ b, s.heap.get? b = none → G b = none := fun b hb => by
    cases q : G b with
    | none => rfl
    | some o => rw [a.at0.st.go.le b o q] at hb; cases hb
  have hLf : s.heap.get? cenv.locals = none := by rw [hL]; exact fresh _ hsz
  have ce : EnvOk C cenv := by
    refine ⟨?_, by rw [hc]; exact eo.g, by rw [hc]; exact eo.b, hnoT _ hLf, fun x c h => ?_⟩
    · rw [hsE]; exact hkind
    · rcases lk x c h with ⟨_, h⟩ | ⟨_, h, _⟩
      · exact eo.cT x c h
      · exact hnoT _ (fresh _ (by lia))
  have P := Step.keeps (ht := by first | exact Nat.le_refl _ | exact Nat.le_succ _ | omega) ok a.at0.st.go (h' := pushCells H scope.names) (tk := s.toks) hPk
  refine ⟨⟨⟨P, ⟨⟨fun _ => none, ?_⟩, hnoG _ hLf, fun x c h => ?_, fun x y c h1 h2 => ?_, fun x hx => ?_⟩, fun x d hx hv => ?_⟩, ⟨fun _ => 0, fun x ds h => absurd h (compS_no.1 ds), fun x y ds _ h => absurd h (compS_no.1 ds), fun x y h => absurd h (compS_no.2 y)⟩, fun b hb => hb.elim⟩, ce, fun x k hx hk' => ?_⟩
  · rw [hL, ← hH]
    exact (Heap.Ns.new h2 (.type "dict")).at' fun o e => pushCells_keeps _ _ _ _ e
  · rcases lk x c h with ⟨_, h⟩ | ⟨_, h, h'⟩
    · obtain ⟨⟨v, o, ho, hd⟩, e2, e3, e4⟩ := a.at0.fr.cell x c h
      exact ⟨⟨v, o, hPk _ _ ho, hd⟩, e2, (fun q => by rw [← q, ho] at hLf; cases hLf), e4⟩
    · have : s.heap.get? c = none := fresh _ (by lia)
      exact ⟨⟨_, h'⟩, hnoG _ this, by rw [hL]; exact Nat.ne_of_gt (by lia), hnoT _ this⟩
  · have := pair_mem n1 (lookup_mem h1) (lookup_mem h2) rfl
    exact congrArg Prod.fst this
  · have : ∃ k', (x, k') ∈ scope.names ∧ (k' = .cell ∨ k' = .free) := by
      rcases hx with hx | hx <;> obtain ⟨k', h1, h2⟩ := kind_rel' hsE hx <;> refine ⟨k', h1, ?_⟩ <;> unfold relF at h2 <;> split at h2
      · rename_i q; simp at q; exact .inr q.1.1
      · exact .inl h2.symm
      · cases h2
      · exact .inr h2.symm
    obtain ⟨k', h1, rfl | rfl⟩ := this
    · obtain ⟨c, hc⟩ := n4 x h1
      exact mem_lookup hc
    · obtain ⟨c, hc⟩ := hcl x h1
      exact mem_lookup (n3 (x, c) (closL_mem.mpr (.inr ⟨h1, by simp [hc]⟩)))
  · have hx' : compS scope S x = .val d := by
      unfold vals at hx
      cases q : compS scope S x <;> rw [q] at hx <;> simp [B.val?] at hx
      rw [hx]
    obtain ⟨hm, hSx⟩ := compS_val.mp hx'
    have ho := hfree x hm
    obtain ⟨v, l, r⟩ := a.at0.rd x d (by simp [vals, hSx, B.val?]) (.inr ho)
    refine ⟨v, ?_, r⟩
    have hkc : cenv.kindOf x = some .cell ∨ cenv.kindOf x = some .free := by
      rw [kind_rel hsE hnd hm]
      unfold relF
      split
      · exact .inl rfl
      · exact .inr rfl
    obtain ⟨c, hc'⟩ := hfull x ho
    obtain ⟨c2, hc2⟩ := mem_lookup (n3 (x, c) (closL_mem.mpr (.inr ⟨hm, by simp [hc']⟩)))
    have : c2 = c := by
      rcases lk x c2 hc2 with ⟨_, h⟩ | ⟨h, _⟩
      · rw [hc'] at h; exact (Option.some.inj h).symm
      · have e1 := nodup_lookup hnd h
        have e2 := nodup_lookup hnd hm
        rw [e1] at e2; cases e2
    subst this
    rcases l with ⟨hk', _⟩ | ⟨_, c3, h3, o, ho3, hd3⟩
    · rcases ho with q | q <;> rw [q] at hk' <;> cases hk'
    · rw [hc'] at h3; cases h3
      exact .inr ⟨hkc, _, hc2, o, hPk _ _ ho3, hd3⟩
  · have hkx := kind_rel hsE hnd hx
    have hr : (relF env (x, k)).2 = k := by
      unfold relF
      rcases hk' with rfl | rfl <;> rfl
    rw [hr] at hkx
    rcases hk' with rfl | rfl
    · exact .inl ⟨hkx, hLf⟩
    · obtain ⟨c, hc'⟩ := n4 x hx
      obtain ⟨c2, hc2⟩ := mem_lookup hc'
      refine .inr ⟨hkx, c2, hc2, ?_⟩
      rcases lk x c2 hc2 with ⟨h, _⟩ | ⟨_, h, _⟩
      · have e1 := nodup_lookup hnd h
        have e2 := nodup_lookup hnd hx
        rw [e1] at e2; cases e2
      · exact fresh _ (by lia)
end
end Mine
end TB8
section TB9
open PySem PySem.W PyProof.Rows PySem.Calls
namespace Mine

theorem neA {a b : Nat} (h : a < b ∨ b < a) : a ≠ b := by lia
inductive Fm (It : D → Option D → Prop) : List D → List D → Prop
  | nil : Fm It [] []
  | keep {d y : D} {ds ys : List D} (h : It d (some y)) (hr : Fm It ds ys) : Fm It (d :: ds) (y :: ys)
  | skip {d : D} {ds ys : List D} (h : It d none) (hr : Fm It ds ys) : Fm It (d :: ds) ys
theorem Fm.len {It : D → Option D → Prop} {ds ys : List D} (h : Fm It ds ys) : ys.length ≤ ds.length := by
  induction h with
  | nil => simp
  | keep _ _ ih => simp; exact ih
  | skip _ _ ih => simp; lia

noncomputable abbrev testsOf (ifs : List Expr) (env : Env) : Sem Bool := forIn ifs true fun c r => if r = true then do let ok ← isTrue c env (eval c env); pure (ForInStep.yield ok) else pure (ForInStep.yield r)

/-- what a block's turn does -/
noncomputable def Turn (C : Cx) (A : Around) (env : Env) (scope : Scope) (σ : Addr) (tg : Tg) (elt : Expr) (ifs : List Expr) (S : St) (It : D → Option D → Prop) : Prop :=
  ∀ (cenv : Env) (s₁ : Shared) (G₁ : PH), EnvOk C cenv → cenv.scope = relabel scope env → Sok C s₁ → (∀ x k, (x, k) ∈ scope.names → k = .local ∨ k = .cell → FreshLoc cenv s₁ x) →
    ∀ d r, It d r → ∃ S1, Bd cenv s₁ tg d (compS scope S) S1 ∧ (∀ x e, compS scope S x = .val e → S1 x = .val e) ∧
      ∀ G2 M2 s2, AtM C cenv G₁ s₁ S1 G2 σ M2 s2 → EvB C A (testsOf ifs cenv) G2 r.isSome s2 ∧ ∀ y, r = some y → ∀ G3 s3, AtM C cenv G₁ s₁ S1 G3 σ M2 s3 → EvE C A (eval elt cenv) G3 σ y s3

noncomputable def CompInv (C : Cx) (cenv : Env) (G1 : PH) (s1 : Shared) (S0 : St) (σ : Addr) (I Da : Addr) (T : Nat → Heap → Prop) (ds outs : List D) (It : D → Option D → Prop) (n : Nat) (s3 : Shared) : Prop :=
  ∃ i G3 M3 vs done rest, n = ds.length - i ∧ i ≤ ds.length ∧ done.length ≤ i ∧ outs = done ++ rest ∧ Fm It (ds.drop i) rest ∧ AtM C cenv G1 s1 S0 G3 σ M3 s3 ∧ Le G1 G3 ∧ T i s3.heap ∧
    ¬ M3 I ∧ G3 I = none ∧ (∃ o, s3.heap.get? I = some o) ∧ ¬ M3 Da ∧ G3 Da = none ∧ MuL s3.heap Da vs ∧ RL G3 σ done vs

section
variable {C : Cx} (ok : C.Ok) {A : Around} {G G₀ : PH} {σ : Addr} {s s₀ : Shared} {env : Env} {S : St} {M : Addr → Prop}
include ok

theorem comp_core (eo : EnvOk C env) (a : AtM C env G₀ s₀ S G σ M s) (hh : A.handled = none) {elt target iter : Expr} {ifs : List Expr} {scope : Scope} {pos pos' : Pos} {tg : Tg} {d : D} {ds outs : List D} {It : D → Option D → Prop}
    (hkind : scope.kind = .function) (hnd : (scope.names.map (·.1)).Nodup) (hfree : ∀ n, (n, NameKind.free) ∈ scope.names → env.kindOf n = some .cell ∨ env.kindOf n = some .free)
    (hs : ∀ x, foldedSetIterable iter env x = pure x) (ht : IsTg target tg) (he : EvE C A (eval iter env) G σ d s) (hi : itemsD d = some ds) (hfit : fit ds = true)
    (hturn : Turn C A env scope σ tg elt ifs S It) (hm : Fm It ds outs)
    {use : Option (Value → Sem Unit)} {Q : Value → Shared → Prop} {E : Value → Shared → Prop}
    (hQ : ∀ Dv G' s' L m, Step C G s G' s' → R G' σ (.lst outs) Dv → s'.heap.Ns L m → L ∉ C.T → s.heap.get? L = none → G' L = none → compPost (model C.prog C.w) A E use Q Dv L (.ok .next) s') :
    wpAny (model C.prog C.w) A (comprehension (.ListComp elt [⟨target, iter, ifs, 0⟩] scope pos) scope env pos' (newList []) false (eval iter env) use) Q E s := by
  have hfit := fit_iff.mp hfit
  have hnames : ∀ x ∈ scope.names, x.2 = .local → scope.names.lookup x.1 = some .local := fun x hx hl => by rw [← hl]; exact nodup_lookup hnd hx
  refine wpAny_comprehension_free (use := use) rfl hs (closureFor_is fun n hn => a.at0.fr.full n (hfree n hn)) hkind hnames (he _ _ fun v s1 G1 S1 r1 => iter_ok ok S1.go r1 hi fun fp P T o X hT0 hfr => ?_)
  have a1 := a.step ok eo S1
  generalize hI : s1.heap.objs.size = I at X
  have hI' : @Eq Nat s1.heap.objs.size I := hI
  generalize hh1 : s1.heap.push o = h1 at *
  have h1s : h1.objs.size = I + 1 := by rw [← hh1, ← hI]; exact Heap.size_push ..
  refine wpAny_newObj_type (newEnv_comp fun cenv hce hcl => ?_)
  have hce' : ({ cenv with scope := relabel scope env } : Env).locals = cenv.locals := rfl
  generalize hcv : ({ cenv with scope := relabel scope env } : Env) = ce at *
  generalize hDa : h1.objs.size = Da at *
  have hDa' : @Eq Nat h1.objs.size Da := hDa
  dsimp only at hce hcl ⊢
  rw [show ([] : List Value).toArray = #[] from rfl] at *
  generalize hh2 : h1.push { cls := .type "list", dict := none, data := .seq #[] } = h2 at *
  have h2s : h2.objs.size = Da + 1 := by rw [← hh2, ← hDa]; exact Heap.size_push ..
  have hk1 : ∀ a o, s1.heap.get? a = some o → h1.get? a = some o := fun a o e => hh1 ▸ Heap.get?_push_of_some _ e
  have hk2 : ∀ a o, h1.get? a = some o → h2.get? a = some o := fun a o e => hh2 ▸ Heap.get?_push_of_some _ e
  obtain ⟨ac, eoc, hfl⟩ := comp_env ok eo a1 hkind hnd hfree (h2 := h2) (fun a o e => hk2 a o (hk1 a o e)) (by lia) hce
  generalize hsc : (pushCells (h2.push { cls := .type "dict", data := .dict #[] }) scope.names) = hc at *
  have hk3 : ∀ a o, h2.get? a = some o → hc.get? a = some o := fun a o e => hsc ▸ pushCells_keeps _ _ _ _ (Heap.get?_push_of_some _ e)
  have freshI : s1.heap.get? I = none := hI ▸ get_size _
  have freshD : s1.heap.get? Da = none := by
    cases q : s1.heap.get? Da with
    | none => rfl
    | some o => have : @LT.lt Nat _ Da s1.heap.objs.size := Heap.lt_size q; lia
  have hnoT : ∀ b, s1.heap.get? b = none → b ∉ C.T := fun b hb => S1.go.notT ok hb
  have hnoG : ∀ b, s1.heap.get? b = none → G1 b = none := fun b hb => by
    cases q : G1 b with
    | none => rfl
    | some o => rw [S1.go.le b o q] at hb; cases hb
  have hL : @Eq Nat ce.locals h2.objs.size := by rw [hce]; rfl
  have cellge : ∀ x c, ce.cells.lookup x = some c → c ≠ I ∧ c ≠ Da := fun x c hx => by
    rw [hce] at hx
    have hm := lookup_mem hx
    have := (cells_new scope.names (h2.push { cls := .type "dict", data := .dict #[] }) (closL env scope.names []) (fun p hp => ?_) (closL_apart a1.at0.fr.inj hnd (fun n hn => a.at0.fr.full n (hfree n hn)) (fun p hp => nomatch hp) List.Pairwise.nil)).2.1 (x, c) (by rw [show (h2.push { cls := .type "dict", data := .dict #[] }).objs.size = h2.objs.size + 1 from Heap.size_push ..]; exact hm)
    · rcases this with h | ⟨_, h, _⟩
      · rcases closL_mem.mp h with h | ⟨h3, h4⟩
        · cases h
        · obtain ⟨c', e⟩ := a.at0.fr.full _ (hfree _ h3)
          dsimp only at e h4
          rw [e] at h4
          simp only [Option.getD_some] at h4
          have h4' : @Eq Nat c c' := h4
          obtain ⟨⟨v, o, ho, _⟩, _⟩ := a1.at0.fr.cell _ _ e
          have : @LT.lt Nat _ c' s1.heap.objs.size := Heap.lt_size ho
          exact ⟨neA (by lia), neA (by lia)⟩
      · rw [show (h2.push { cls := .type "dict", data := .dict #[] }).objs.size = h2.objs.size + 1 from Heap.size_push ..] at h
        dsimp only at h
        exact ⟨neA (by lia), neA (by lia)⟩
    · rcases closL_mem.mp hp with h | ⟨h3, h4⟩
      · cases h
      · obtain ⟨c', e⟩ := a.at0.fr.full _ (hfree _ h3)
        rw [e] at h4
        simp only [Option.getD_some] at h4
        obtain ⟨⟨v, o, ho, _⟩, _⟩ := a1.at0.fr.cell _ _ e
        have : @LT.lt Nat _ c' s1.heap.objs.size := Heap.lt_size ho
        rw [h4, show (h2.push { cls := .type "dict", data := .dict #[] }).objs.size = h2.objs.size + 1 from Heap.size_push ..]
        exact (show @LT.lt Nat _ c' (h2.objs.size + 1) by lia)
  have offI : ¬ Own ce I := by
    rintro (q | ⟨y, q⟩)
    · have q' : @Eq Nat I ce.locals := q
      lia
    · exact (cellge _ _ q).1 rfl
  have offD : ¬ Own ce Da := by
    rintro (q | ⟨y, q⟩)
    · have q' : @Eq Nat Da ce.locals := q
      lia
    · exact (cellge _ _ q).2 rfl
  have hID : I ≠ Da := neA (by lia)
  have W := X.W A hh
  have k1 : Sok C s1 := S1.go.sok
  -- the loop
  have loop : codeAny (model C.prog C.w) A (.compLoop (.ListComp elt [⟨target, iter, ifs, 0⟩] scope pos) 0 (.ref I) (.ref Da) ce) (compPost (model C.prog C.w) A E use Q (.ref Da) cenv.locals) { s1 with heap := hc } := by
    refine codeAny_comp_own (CompInv C ce G1 s1 (compS scope S) σ I Da T ds outs It) (fun n s3 hInv => ?_) ds.length
      ⟨0, G1, _, [], [], outs, rfl, Nat.zero_le _, Nat.zero_le _, rfl, hm, ac, fun _ _ e => e, W.frame _ _ _ hT0 (fun b _ o e => hk3 _ _ (hk2 _ _ e)), id, hnoG _ freshI,
        ⟨o, hk3 _ _ (hk2 _ _ (by rw [← hh1, ← hI]; exact Heap.get?_push_size _ hfr))⟩, id, hnoG _ freshD, ⟨0, hk3 _ _ (by rw [← hh2, ← hDa]; exact Heap.get?_push_size _ rfl)⟩, .nil⟩
    obtain ⟨i, G3, M3, vs, done, rest, rfl, hile, hdl, houts, hfm, a3, le3, hT3, hMI, hGI, ⟨oI, hoI⟩, hMD, hGD, hmu, hrl⟩ := hInv
    by_cases hlt : i < ds.length
    · refine wpAny_with_toks (n := s3.toks) (Nat.le_refl _) (W.item i s3 _ _ hlt hT3 fun v h' tk hP hT4 hk htk => ?_)
      have hk' : ∀ b o, b ≠ I → s3.heap.get? b = some o → h'.get? b = some o := fun b o hb e => hk b o (by simpa using hb) e
      have a4 := a3.but ok k1 eoc freshI hGI (hnoT _ freshI) offI hMI (h' := h') (tk := tk) hk' htk
      obtain ⟨d', hd', rd'⟩ := X.val i v hP
      obtain ⟨o4, n4, ho4, hc4, hn4⟩ := X.cls _ _ hT4
      refine letOwn_ok (o := o4) (n := n4) ho4 hc4 hn4 ?_
      have hdr : ds.drop i = d' :: ds.drop (i + 1) := by
        rw [List.drop_eq_getElem_cons hlt]
        rw [List.getElem?_eq_getElem hlt] at hd'
        cases hd'; rfl
      rw [hdr] at hfm
      have hmu4 : MuL h' Da vs := hmu.at fun o e => hk' _ o (Ne.symm hID) e
      have main : ∀ r rest', It d' r → Fm It (ds.drop (i + 1)) rest' → rest = r.toList ++ rest' → wpAny (model C.prog C.w) A (assign target ce v) (fun _ s₂ =>
          wpAny (model C.prog C.w) A (testsOf ifs ce) (fun ok s₃ =>
            if ok = true then wpAny (model C.prog C.w) A (eval elt ce) (fun x s₄ =>
              wpAny (model C.prog C.w) A (call (.builtin "list.append") [.ref Da, x]) (fun _ s₅ => ∃ m, m < ds.length - i ∧ CompInv C ce G1 s1 (compS scope S) σ I Da T ds outs It m s₅) (notedBy (model C.prog C.w) A ce fun e s' => compPost (model C.prog C.w) A E use Q (.ref Da) cenv.locals (.error e) s') s₄) (notedBy (model C.prog C.w) A ce fun e s' => compPost (model C.prog C.w) A E use Q (.ref Da) cenv.locals (.error e) s') s₃
            else ∃ m, m < ds.length - i ∧ CompInv C ce G1 s1 (compS scope S) σ I Da T ds outs It m s₃) (notedBy (model C.prog C.w) A ce fun e s' => compPost (model C.prog C.w) A E use Q (.ref Da) cenv.locals (.error e) s') s₂) (notedBy (model C.prog C.w) A ce fun e s' => compPost (model C.prog C.w) A E use Q (.ref Da) cenv.locals (.error e) s') { s3 with heap := h', toks := tk } := by
        intro r rest' hIt hfm' hrest
        obtain ⟨Sx, hbd, hsub, hev⟩ := hturn ce s1 G1 eoc (by rw [hce]; rfl) k1 hfl d' r hIt
        refine assign_ok ok k1 eoc hh ht hbd a4 (rd'.mono le3) _ _ fun s5 G5 M5 a5 le5 kp5 => ?_
        obtain ⟨ht5, he5⟩ := hev G5 M5 s5 a5
        have stay : ∀ J, J ∉ C.T → ¬ Own ce J → ¬ M3 J → G3 J = none → (∃ o, h'.get? J = some o) → ¬ M5 J ∧ G5 J = none ∧ ∀ o, h'.get? J = some o → s5.heap.get? J = some o := fun J hJT hJO hJM hJG hJ => by
          refine ⟨fun z => ?_, ?_, fun o e => kp5.keep J o hJO hJM hJT e⟩
          · obtain ⟨o, e⟩ := hJ
            rcases kp5.new J z with y | y
            · exact hJM y
            · rw [show ({ s3 with heap := h', toks := tk } : Shared).heap.get? J = some o from e] at y; cases y.1
          · cases z : G5 J with
            | none => rfl
            | some o' =>
              obtain ⟨o, e⟩ := hJ
              rcases kp5.gn J o' z with y | y | y
              · rw [hJG] at y; cases y
              · exact absurd y hJM
              · rw [show ({ s3 with heap := h', toks := tk } : Shared).heap.get? J = some o from e] at y; cases y
        obtain ⟨sI1, sI2, sI3⟩ := stay I (hnoT _ freshI) offI hMI hGI ⟨o4, ho4⟩
        obtain ⟨sD1, sD2, sD3⟩ := stay Da (hnoT _ freshD) offD hMD hGD (let ⟨n, e⟩ := hmu4; ⟨_, e⟩)
        have hmu5 : MuL s5.heap Da vs := hmu4.at sD3
        have hT5 : T (i + 1) s5.heap := W.frame _ _ _ hT4 fun b hb o e => by
          rcases X.fp b hb with rfl | ⟨o', e'⟩
          · exact sI3 o e
          · have g5 := le5 _ _ (le3 _ _ e')
            have : h'.get? b = some o' := a4.at0.st.go.le b o' (le3 _ _ e')
            rw [this] at e; cases e
            exact a5.at0.st.go.le b _ g5
        have weak : ∀ {G6 s6}, AtM C ce G1 s1 Sx G6 σ M5 s6 → AtM C ce G1 s1 (compS scope S) G6 σ M5 s6 := fun a6 =>
          a6.weaken ok (fun x d hx _ => hsub x d hx) (fun x => compS_no.1) (fun x => compS_no.2)
        refine ht5 _ _ fun s6 G6 S6 => ?_
        have a6 := a5.step ok eoc S6
        have step6 : ∀ {G7 s7}, Step C G5 s5 G7 s7 → T (i + 1) s7.heap ∧ G7 I = none ∧ (∃ o, s7.heap.get? I = some o) ∧ G7 Da = none ∧ MuL s7.heap Da vs := fun {G7 s7} S7 => by
          obtain ⟨n, hn⟩ := id hmu5
          refine ⟨W.frame _ _ _ hT5 fun b hb o e => ?_, S7.old (sI3 _ ho4) sI2, ⟨_, S7.keep _ _ (sI3 _ ho4) (hnoT _ freshI)⟩, S7.old hn sD2, hmu5.at fun o e => S7.keep _ o e (hnoT _ freshD)⟩
          rcases X.fp b hb with rfl | ⟨o', e'⟩
          · exact S7.keep _ o e (hnoT _ freshI)
          · have g5 := le5 _ _ (le3 _ _ e')
            have : s5.heap.get? b = some o' := a5.at0.st.go.le b o' g5
            rw [this] at e; cases e
            exact S7.go.le b _ (S7.le _ _ g5)
        cases r with
        | none =>
          simp only [Option.isSome_none, Bool.false_eq_true, if_false]
          obtain ⟨t1, t2, t3, t4, t5⟩ := step6 S6
          exact ⟨ds.length - (i + 1), by lia, i + 1, G6, M5, vs, done, rest', rfl, hlt, by lia, by rw [houts, hrest]; simp, hfm', weak a6, fun b o e => S6.le _ _ (le5 _ _ (le3 _ _ e)), t1, sI1, t2, t3, sD1, t4, t5, hrl.mono fun b o e => S6.le _ _ (le5 _ _ e)⟩
        | some y =>
          simp only [Option.isSome_some, if_true]
          refine he5 y rfl G6 s6 a6 _ _ fun x s7 G7 S7 r7 => ?_
          obtain ⟨t1, t2, t3, t4, t5⟩ := step6 (S6.trans S7)
          obtain ⟨n, hn⟩ := id t5
          refine append_at hn (fun h8 hs8 ho8 => ?_) (by rw [List.size_toArray, hrl.length]; show _ ≤ 16777216; lia)
          have a7 := a6.step ok eoc S7
          have hk8 : ∀ b o, b ≠ Da → s7.heap.get? b = some o → h8.get? b = some o := fun b o hb e => (hs8.2 b hb).trans e
          have a8 := a7.but ok k1 eoc freshD t4 (hnoT _ freshD) offD sD1 (h' := h8) (tk := s7.toks) hk8 (Nat.le_refl _)
          obtain ⟨oI7, hoI7⟩ := t3
          refine ⟨ds.length - (i + 1), by lia, i + 1, G7, M5, vs ++ [x], done ++ [y], rest', rfl, hlt, by simp; lia, by rw [houts, hrest]; simp, hfm', weak a8, fun b o e => S7.le _ _ (S6.le _ _ (le5 _ _ (le3 _ _ e))), ?_, sI1, t2, ⟨oI7, hk8 _ _ hID hoI7⟩, sD1, t4, ⟨n + 1, by rw [ho8]; simp⟩,
            (hrl.mono fun b o e => S7.le _ _ (S6.le _ _ (le5 _ _ e))).append (.cons r7 .nil)⟩
          refine W.frame _ _ _ t1 fun b hb o e => hk8 _ _ ?_ e
          rcases X.fp b hb with rfl | ⟨o', e'⟩
          · exact hID
          · intro q
            rw [q] at e'
            rw [hnoG _ freshD] at e'; cases e'
      cases hfm with
      | keep h hr => exact main _ _ h hr rfl
      | skip h hr => exact main _ _ h hr rfl
    · have hi' : i = ds.length := by lia
      subst hi'
      rw [List.drop_length] at hfm
      cases hfm
      rw [List.append_nil] at houts
      subst houts
      refine wpAny_with_toks (n := s3.toks) (Nat.le_refl _) (W.done s3 _ _ hT3 fun h' tk hk htk => ?_)
      have hk' : ∀ b o, b ≠ I → s3.heap.get? b = some o → h'.get? b = some o := fun b o hb e => hk b o (by simpa using hb) e
      have a4 := a3.but ok k1 eoc freshI hGI (hnoT _ freshI) offI hMI (h' := h') (tk := tk) hk' htk
      obtain ⟨n, hn⟩ := hmu.at fun o e => hk' Da o (Ne.symm hID) e
      obtain ⟨m, hns⟩ := a4.at0.fr.ns
      generalize hob : ({ cls := .type "list", data := .seq vs.toArray n } : Obj) = ob at hn
      have le5 : Le G3 (G3.put Da ob) := fun b p e => by
        unfold PH.put; split
        · rename_i q; subst q; rw [hGD] at e; cases e
        · exact e
      have st := a4.at0.st
      have S5 : Step C G1 s1 (G3.put Da ob) { s3 with heap := h', toks := tk } := by
        refine ⟨st.keep, fun b p e => le5 _ _ (st.le _ _ e), fun b p e => ?_, ⟨st.go.sok, ok.ti _ _ _ _ st.go.ti (fun a o _ e => le5 a o e) (fun _ _ => rfl), fun b p e => ?_, fun b hb => ?_⟩, st.toks⟩
        · unfold PH.put at e; split at e
          · rename_i q; subst q; exact .inr freshD
          · exact st.fresh _ _ e
        · unfold PH.put at e; split at e
          · rename_i q; subst q; cases e; exact hn
          · exact st.go.le _ _ e
        · unfold PH.put; split
          · rename_i q; subst q; exact absurd hb (hnoT _ freshD)
          · exact st.go.noT b hb
      have hLo : cenv.locals = ce.locals := hce'.symm
      have hLf1 : s1.heap.get? ce.locals = none := by
        cases q : s1.heap.get? ce.locals with
        | none => rfl
        | some o => have : @LT.lt Nat _ ce.locals s1.heap.objs.size := Heap.lt_size q; lia
      refine hQ (.ref Da) _ _ cenv.locals m (S1.trans S5) (.lst (PH.put_self ..) (by rw [← hob]) (by rw [← hob]) (hrl.mono le5)) (by rw [hLo]; exact hns) (by rw [hLo]; exact hnoT _ hLf1) ?_ ?_
      · rw [hLo]
        cases q : s.heap.get? ce.locals with
        | none => rfl
        | some o => rw [S1.keep _ _ q (hnoT _ hLf1)] at hLf1; cases hLf1
      · rw [hLo]
        have : ce.locals ≠ Da := neA (by lia)
        unfold PH.put
        rw [if_neg this]
        exact a4.at0.fr.gl
  refine codeAny_compStart_list loop (W.self 0 _ _ _ (W.frame _ _ _ hT0 fun b _ o e => hk3 _ _ (hk2 _ _ e)) loop)
end
end Mine
end TB9
section TC1
open PySem PySem.W PyProof.Rows PySem.Calls
namespace Mine
section
variable {C : Cx} (ok : C.Ok) {A : Around} {G G₀ : PH} {σ : Addr} {s s₀ : Shared} {env : Env} {S : St} {M : Addr → Prop}
include ok

theorem e_comp (eo : EnvOk C env) (a : AtM C env G₀ s₀ S G σ M s) (hh : A.handled = none) {elt target iter : Expr} {ifs : List Expr} {scope : Scope} {pos : Pos} {tg : Tg} {d : D} {ds outs : List D} {It : D → Option D → Prop}
    (hkind : scope.kind = .function) (hnd : (scope.names.map (·.1)).Nodup) (hfree : ∀ n, (n, NameKind.free) ∈ scope.names → env.kindOf n = some .cell ∨ env.kindOf n = some .free)
    (hs : ∀ x, foldedSetIterable iter env x = pure x) (ht : IsTg target tg) (he : EvE C A (eval iter env) G σ d s) (hi : itemsD d = some ds) (hfit : fit ds = true)
    (hturn : Turn C A env scope σ tg elt ifs S It) (hm : Fm It ds outs) : EvE C A (eval (.ListComp elt [⟨target, iter, ifs, 0⟩] scope pos) env) G σ (.lst outs) s := fun Q E h => by
  rw [eval_ListComp]
  refine comp_core ok eo a hh (use := none) hkind hnd hfree hs ht he hi hfit hturn hm fun Dv G' s' L m S' r hns hT hf hG => ?_
  refine ⟨m, hns, fun h' sb => ?_⟩
  exact h Dv _ G' (Step.but ok a.at0.st.go.sok S' hf hT hG (fun b o hb e => (sb.2 b hb).trans e) (Nat.le_refl _)) r

theorem s_setcomp (k₀ : Sok C s₀) (eo : EnvOk C env) (a : AtM C env G₀ s₀ S G σ M s) (hh : A.handled = none) {y : Str} {py spos : Pos} {elt target iter : Expr} {ifs : List Expr} {scope : Scope} {pos : Pos} {tg : Tg} {d : D} {ds outs : List D} {It : D → Option D → Prop}
    (hsw : swapsWith (.ListComp elt [⟨target, iter, ifs, 0⟩] scope pos) (some (.Name y py)) spos.line env = pure true) (hl : FreshLoc env s₀ y) (hna : ∀ z, S z ≠ .app y)
    (hkind : scope.kind = .function) (hnd : (scope.names.map (·.1)).Nodup) (hfree : ∀ n, (n, NameKind.free) ∈ scope.names → env.kindOf n = some .cell ∨ env.kindOf n = some .free)
    (hs : ∀ x, foldedSetIterable iter env x = pure x) (ht : IsTg target tg) (he : EvE C A (eval iter env) G σ d s) (hi : itemsD d = some ds) (hfit : fit ds = true)
    (hturn : Turn C A env scope σ tg elt ifs S It) (hm : Fm It ds outs) : EvS C A env G₀ s₀ (exec (.Assign [.Name y py] (.ListComp elt [⟨target, iter, ifs, 0⟩] scope pos) spos) env) S G σ M s .next (upS S y (.val (.lst outs))) := fun Q E h => by
  rw [exec_Assign_Name_used _ _ _ _ hsw]
  refine wpAny_bind (wpAny_standAt (wpAny_bind ?_))
  show wpAny _ A (do let _ ← comprehension (.ListComp elt [⟨target, iter, ifs, 0⟩] scope pos) scope env _ (newList []) false (eval iter env) (some (assign (.Name y py) env))) _ _ s
  refine wpAny_bind (wpAny_mono (comp_core ok eo a hh (use := some (assign (.Name y py) env)) (Q := fun _ s' => Q .next s') hkind hnd hfree hs ht he hi hfit hturn hm fun Dv G' s' L m S' r hns hT hf hG => ?_) (fun _ s' hq => wpAny_pure (wpAny_pure hq)) fun _ _ e => e)
  have a' := a.step ok eo S'
  show wpAny _ A (assign (.Name y py) env Dv) _ _ _
  have hLO : ¬ Own env L := by
    rintro (q | ⟨z, q⟩)
    · obtain ⟨m, o, _, _, e, _⟩ := a.at0.fr.ns
      rw [q, e] at hf; cases hf
    · obtain ⟨⟨w, o, e, _⟩, _⟩ := a.at0.fr.cell z _ q
      rw [e] at hf; cases hf
  have hLM : ¬ M L := fun q => by
    obtain ⟨_, _, _, _, o, e⟩ := a.off _ q
    rw [e] at hf; cases hf
  have hL0 : s₀.heap.get? L = none := by
    cases q : s₀.heap.get? L with
    | none => rfl
    | some o => rw [a.at0.st.keep _ _ q hT] at hf; cases hf
  refine wpAny_assign_Name (st_bind ok k₀ eo a' hl hna r fun s'' a'' kp => ⟨m, hns.at' fun o e => kp.keep L o hLO hLM hT e, fun h' sb => ?_⟩)
  have hkb : ∀ b o, b ≠ L → s''.heap.get? b = some o → h'.get? b = some o := fun b o hb e => (sb.2 b hb).trans e
  have a3 := a''.but ok k₀ eo hL0 hG hT hLO hLM (h' := h') (tk := s''.toks) hkb (Nat.le_refl _)
  have kp2 := (Step.kp ok eo a S').trans kp
  exact h _ _ G' M a3 S'.le ⟨fun b o h1 h2 h3 e => hkb b o (fun q => by rw [q, hf] at e; cases e) (kp2.keep b o h1 h2 h3 e), kp2.new, kp2.toks, kp2.gn, kp2.gt⟩ trivial

theorem s_assign' (k₀ : Sok C s₀) (eo : EnvOk C env) {x : Str} {p' pos : Pos} {value : Expr} {d : D} (hn : swapsWith value (some (.Name x p')) pos.line env = pure false) (a : AtM C env G₀ s₀ S G σ M s) (hl : FreshLoc env s₀ x) (hna : ∀ y, S y ≠ .app x) (hv : EvE C A (eval value env) G σ d s) :
    EvS C A env G₀ s₀ (exec (.Assign [.Name x p'] value pos) env) S G σ M s .next (upS S x (.val d)) := fun Q E h =>
  wpAny_Assign_Name (hv _ _ fun v s1 G1 S1 r1 => st_bind ok k₀ eo (a.step ok eo S1) hl hna r1 fun s' a' kp => h _ s' G1 M a' S1.le ((Step.kp ok eo a S1).trans kp) trivial) hn
end
end Mine
end TC1
section TC2
open PySem PySem.W PyProof.Rows PySem.Calls
namespace Mine

structure ItG (C : Cx) (σ : Addr) (I : Addr) (wr fp : List Addr) (target : Expr) (ds : List D) (T : Nat → Heap → Prop) (G1 : PH) : Prop where
  frame : ∀ i h h', T i h → (∀ b ∈ fp, ∀ o, h.get? b = some o → h'.get? b = some o) → T i h'
  fp : ∀ b ∈ fp, b ∈ wr ∨ ∃ o, G1 b = some o
  done : ∀ A : Around, A.handled = none → ∀ (s : Shared) (Q : Option Value → Shared → Prop) (E : Value → Shared → Prop), T ds.length s.heap →
    (∀ h' tk, (∀ b o, b ∉ wr → s.heap.get? b = some o → h'.get? b = some o) → s.toks ≤ tk → Q none { s with heap := h', toks := tk }) → wpAny (model C.prog C.w) A (pyNext (.ref I)) Q E s
  item : ∀ A : Around, A.handled = none → ∀ i (s : Shared) (G : PH) (Q : Value → Shared → Prop) (E : Value → Shared → Prop) (N : Shared → Prop), i < ds.length → T i s.heap → Le G1 G → (∀ b o, G b = some o → s.heap.get? b = some o) →
    (∀ v h' tk G', T (i + 1) h' → (∀ b o, b ∉ wr → s.heap.get? b = some o → h'.get? b = some o) → (∀ b, b ∈ wr → (∃ o, s.heap.get? b = some o) → ∃ o, h'.get? b = some o) → s.toks ≤ tk → Le G G' →
      (∀ b o, G' b = some o → G b = some o ∨ (s.heap.get? b = none ∧ h'.get? b = some o ∧ o.cls ≠ .type "code")) → (∃ d, ds[i]? = some d ∧ R G' σ d v) → Q v { s with heap := h', toks := tk }) →
    wpAny (model C.prog C.w) A (pyNext (.ref I)) (fun r s1 => match r with | none => N s1 | some v => wpAny (model C.prog C.w) A (letOwnedTupleGo target (.ref I) v) (fun _ s2 => Q v s2) E s1) E s

section
variable {C : Cx} (ok : C.Ok) {A : Around} {G₀ G : PH} {σ : Addr} {s₀ s : Shared} {env : Env} (k₀ : Sok C s₀) (eo : EnvOk C env) {S S' S'' : St} {M : Addr → Prop}
include ok k₀ eo

/-- a change beside the state, and new held things -/
theorem AtM.chg (a : AtM C env G₀ s₀ S G σ M s) {wr : List Addr} (hw : ∀ b ∈ wr, s₀.heap.get? b = none ∧ G b = none ∧ b ∉ C.T ∧ ¬ Own env b ∧ ¬ M b) {h' : Heap} {tk : Nat} {G' : PH}
    (hk : ∀ b o, b ∉ wr → s.heap.get? b = some o → h'.get? b = some o) (ht : s.toks ≤ tk) (le : Le G G') (hg : ∀ b o, G' b = some o → G b = some o ∨ (s.heap.get? b = none ∧ h'.get? b = some o)) :
    AtM C env G₀ s₀ S G' σ M { s with heap := h', toks := tk } := by
  have hwx : ∀ b, b ∈ wr → G b = none := fun b hb => (hw b hb).2.1
  have nl : env.locals ∉ wr := fun q => (hw _ q).2.2.2.1 (.inl rfl)
  have nc : ∀ y c, env.cells.lookup y = some c → c ∉ wr := fun y c hc q => (hw _ q).2.2.2.1 (.inr ⟨y, hc⟩)
  have lk : ∀ {y : Str} {u : Value}, Look env s.heap y u → Look env h' y u := fun l => by
    rcases l with ⟨hk', m, hm, hv⟩ | ⟨hk', c, hc, o, ho, hd⟩
    · exact .inl ⟨hk', m, hm.at' fun o e => hk _ o nl e, hv⟩
    · exact .inr ⟨hk', c, hc, o, hk _ o (nc _ _ hc) ho, hd⟩
  obtain ⟨m, hm'⟩ := a.at0.fr.ns
  obtain ⟨adr, h1, h2, h3⟩ := a.mus
  have st := a.at0.st
  have g0 : ∀ b, (∃ o, s.heap.get? b = some o) → G b = none → G' b = none := fun b ⟨o, e⟩ q => by
    cases z : G' b with
    | none => rfl
    | some o' =>
      rcases hg b o' z with y | y
      · rw [q] at y; cases y
      · rw [e] at y; cases y.1
  have old0 : ∀ b, s.heap.get? b = none → b ∉ C.T → s₀.heap.get? b = none := fun b hb hT => by
    cases q : s₀.heap.get? b with
    | none => rfl
    | some o => rw [st.keep b o q hT] at hb; cases hb
  have hbase : ∀ b, b ∈ wr → C.hb.get? b = none := fun b hb => by
    obtain ⟨w1, w2, w3, _⟩ := hw b hb
    cases q : C.hb.get? b with
    | none => rfl
    | some o => rw [k₀.keep b o q w3] at w1; cases w1
  have hti : C.TI G' h' := ok.ti _ _ _ _ st.go.ti (fun b o _ e => le b o e) fun b hb => by
    obtain ⟨o, e⟩ := ok.tt _ _ st.go.ti b hb
    rw [e]
    exact hk b o (fun q => (hw b q).2.2.1 hb) e
  refine ⟨⟨⟨fun b o e n => hk b o (fun q => ?_) (st.keep b o e n), fun b o e => le b o (st.le b o e), fun b o e => ?_, ⟨⟨fun b o e n => hk b o (fun q => ?_) (st.go.sok.keep b o e n), st.go.sok.gens, st.go.sok.os, Nat.lt_of_lt_of_le st.go.sok.toks ht⟩, hti, fun b o e => ?_, fun b hb => ?_⟩, Nat.le_trans st.toks ht⟩,
    ⟨⟨m, hm'.at' fun o e => hk _ o nl e⟩, ?_, fun y c hc => ?_, a.at0.fr.inj, a.at0.fr.full⟩, fun y d hd hv => ?_⟩, ⟨adr, fun y ds hy => ?_, h2, fun y z hy => ?_⟩, fun b hb => ?_⟩
  · rw [(hw b q).1] at e; cases e
  · rcases hg b o e with y | y
    · exact st.fresh b o y
    · refine .inr (old0 b y.1 fun q => ?_)
      obtain ⟨o', e'⟩ := ok.tt _ _ st.go.ti b q
      rw [y.1] at e'; cases e'
  · rw [hbase b q] at e; cases e
  · rcases hg b o e with y | y
    · exact hk b o (fun q => by rw [hwx b q] at y; cases y) (st.go.le b o y)
    · exact y.2
  · obtain ⟨o', e'⟩ := ok.tt _ _ st.go.ti b hb
    exact g0 b ⟨o', e'⟩ (st.go.noT b hb)
  · obtain ⟨o, _, _, ho, _⟩ := hm'
    exact g0 _ ⟨o, ho⟩ a.at0.fr.gl
  · obtain ⟨⟨w, o, ho, hd⟩, e2, e3, e4⟩ := a.at0.fr.cell y c hc
    exact ⟨⟨w, o, hk _ o (nc _ _ hc) ho, hd⟩, g0 _ ⟨o, ho⟩ e2, e3, e4⟩
  · obtain ⟨w, l, r⟩ := a.at0.rd y d hd hv
    exact ⟨w, lk l, r.mono le⟩
  · obtain ⟨vs, l, hl, hr, hm⟩ := h1 y ds hy
    exact ⟨vs, lk l, hl.at fun o e => hk _ o (fun q => (hw _ q).2.2.2.2 hm) e, hr.mono le, hm⟩
  · obtain ⟨bb, o, l, e, r⟩ := h3 y z hy
    exact ⟨bb, o, lk l, le _ _ e, r⟩
  · obtain ⟨e1, e2, e3, e4, o, e5⟩ := a.off b hb
    exact ⟨g0 b ⟨o, e5⟩ e1, e2, e3, e4, o, hk b o (fun q => (hw _ q).2.2.2.2 hb) e5⟩

noncomputable def GInv (C : Cx) (env : Env) (G₀ : PH) (s₀ : Shared) (σ : Addr) (G : PH) (M : Addr → Prop) (s : Shared) (G1 : PH) (wr : List Addr) (T : Nat → Heap → Prop) (ds : List D) (W : List D → St → Prop) (n' : Nat) (s' : Shared) : Prop :=
  ∃ i S3 G3 M3, n' = ds.length - i ∧ i ≤ ds.length ∧ W (ds.drop i) S3 ∧ AtM C env G₀ s₀ S3 G3 σ M3 s' ∧ Le G1 G3 ∧ Kp C env G M s G3 M3 s' ∧ T i s'.heap ∧ ∀ b ∈ wr, ¬ M3 b ∧ G3 b = none ∧ ∃ o, s'.heap.get? b = some o

/-- what an iterated tree gives -/
noncomputable def EvIt (C : Cx) (A : Around) (target iter : Expr) (env : Env) (G : PH) (σ : Addr) (ds : List D) (s : Shared) : Prop :=
  ∀ (Q E : Value → Shared → Prop), (∀ I s1 G1 wr fp T, Step C G s G1 s1 → ItG C σ I wr fp target ds T G1 → T 0 s1.heap → (∀ b ∈ wr, s.heap.get? b = none ∧ G1 b = none ∧ ∃ o, s1.heap.get? b = some o) → Q (.ref I) s1) →
    wpAny (model C.prog C.w) A (eval iter env) (fun v s1 => wpAny (model C.prog C.w) A (pyIter v) Q E s1) E s

theorem s_forG {target iter : Expr} {tg : Tg} {body : List Stmt} {pos : Pos} {ds : List D} {Bo : St → Fl → St → Prop} {f : Fl} (hh : A.handled = none) (hs : ∀ x, foldedSetIterable iter env x = pure x) (ht : IsTg target tg)
    (a : AtM C env G₀ s₀ S G σ M s) (he : EvIt C A target iter env G σ ds s)
    (hB : ∀ S f S', Bo S f S' → ∀ s G M, AtM C env G₀ s₀ S G σ M s → EvS C A env G₀ s₀ (execs body env) S G σ M s f S')
    (w : Fo (fun d S S' => Bd env s₀ tg d S S') Bo ds S f S') : EvS C A env G₀ s₀ (exec (.For target iter body [] pos) env) S G σ M s f S' := fun Q E h => by
  refine wpAny_For (he _ _ fun I s1 G1 wr fp T S1 X hT0 hwr => ?_) hs
  have a1 := a.step ok eo S1
  have kp1 := Step.kp ok eo a S1
  have hwT : ∀ b ∈ wr, b ∉ C.T := fun b hb => a.at0.st.go.notT ok (hwr b hb).1
  have hw0 : ∀ b ∈ wr, s₀.heap.get? b = none := fun b hb => by
    cases q : s₀.heap.get? b with
    | none => rfl
    | some o => have := a.at0.st.keep b o q (hwT b hb); rw [(hwr b hb).1] at this; cases this
  have hwO : ∀ b ∈ wr, ¬ Own env b := fun b hb => by
    rintro (q | ⟨y, q⟩)
    · obtain ⟨m, o, _, _, e, _⟩ := a.at0.fr.ns
      rw [← q, (hwr b hb).1] at e; cases e
    · obtain ⟨⟨w, o, e, _⟩, _⟩ := a.at0.fr.cell y _ q
      rw [(hwr b hb).1] at e; cases e
  have hwM : ∀ b ∈ wr, ¬ M b := fun b hb q => by
    obtain ⟨_, _, _, _, o, e⟩ := a.off _ q
    rw [(hwr b hb).1] at e; cases e
  refine codeAny_forLoop_any (GInv C env G₀ s₀ σ G M s G1 wr T ds fun r S3 => Fo (fun d S S' => Bd env s₀ tg d S S') Bo r S3 f S') (fun n' s3 hInv => ?_) ds.length
    ⟨0, S, G1, M, rfl, Nat.zero_le _, w, a1, fun _ _ e => e, kp1, hT0, fun b hb => ⟨hwM b hb, (hwr b hb).2⟩⟩
  obtain ⟨i, S3, G3, M3, rfl, hile, w3, a3, le3, kp3, hT3, hw3⟩ := hInv
  have off3 : ∀ b ∈ wr, s₀.heap.get? b = none ∧ G3 b = none ∧ b ∉ C.T ∧ ¬ Own env b ∧ ¬ M3 b := fun b hb => ⟨hw0 b hb, (hw3 b hb).2.1, hwT b hb, hwO b hb, (hw3 b hb).1⟩
  have change : ∀ (h' : Heap) (tk : Nat) (G' : PH), s3.toks ≤ tk → (∀ b o, b ∉ wr → s3.heap.get? b = some o → h'.get? b = some o) → Le G3 G' → (∀ b o, G' b = some o → G3 b = some o ∨ (s3.heap.get? b = none ∧ h'.get? b = some o)) →
      AtM C env G₀ s₀ S3 G' σ M3 { s3 with heap := h', toks := tk } ∧ Kp C env G M s G' M3 { s3 with heap := h', toks := tk } := fun h' tk G' ht hk le hg => by
    have a4 := a3.chg ok k₀ eo off3 (h' := h') (tk := tk) hk ht le hg
    refine ⟨a4, ⟨fun b o h1 h2 h3 e => hk b o ?_ (kp3.keep b o h1 h2 h3 e), kp3.new, Nat.le_trans kp3.toks ht, fun b o e => ?_, a4.gt⟩⟩
    · intro hb
      rw [(hwr b hb).1] at e; cases e
    · rcases hg b o e with y | y
      · exact kp3.gn b o y
      · by_cases hm : M b
        · exact .inr (.inl hm)
        · refine .inr (.inr ?_)
          cases q : s.heap.get? b with
          | none => rfl
          | some o' =>
            have := kp3.keep b o' (a4.gt b o e).2 hm (a4.gt b o e).1 q
            rw [y.1] at this; cases this
  by_cases hlt : i < ds.length
  · refine wpAny_mono (X.item A hh i s3 G3 (fun v s2 => wpAny (model C.prog C.w) A (assign target env v) (fun _ s2 => wpAny (model C.prog C.w) A (execs body env) (ForPost Q (GInv C env G₀ s₀ σ G M s G1 wr T ds fun r S3 => Fo (fun d S S' => Bd env s₀ tg d S S') Bo r S3 f S') (ds.length - i))
          (notedBy (model C.prog C.w) A env fun e s' => cameBackBy (model C.prog C.w) A env E e s') s2) (notedBy (model C.prog C.w) A env fun e s' => cameBackBy (model C.prog C.w) A env E e s') s2) _ (fun _ => False) hlt hT3 le3 a3.at0.st.go.le fun v h' tk G' hT4 hk hwk htk le4 hg4 hd4 => ?_) (fun r s1 hr => ?_) fun _ _ e => e
    rotate_left
    · cases r with
      | none => exact hr.elim
      | some v => exact hr
    obtain ⟨a4, kp4⟩ := change h' tk G' htk hk le4 fun b o e => (hg4 b o e).imp id fun y => ⟨y.1, y.2.1⟩
    obtain ⟨d', hd', rd'⟩ := hd4
    have hdr : ds.drop i = d' :: ds.drop (i + 1) := by
      rw [List.drop_eq_getElem_cons hlt]
      rw [List.getElem?_eq_getElem hlt] at hd'
      cases hd'; rfl
    rw [hdr] at w3
    have hw4 : ∀ b ∈ wr, ¬ M3 b ∧ G' b = none ∧ ∃ o, h'.get? b = some o := fun b hb => by
      obtain ⟨x1, x2, x3⟩ := hw3 b hb
      refine ⟨x1, ?_, hwk b hb x3⟩
      cases z : G' b with
      | none => rfl
      | some o' =>
        obtain ⟨o, e⟩ := x3
        rcases hg4 b o' z with y | y
        · rw [x2] at y; cases y
        · rw [e] at y; cases y.1
    have fin : ∀ (S4 : St) (f4 : Fl) (S5 : St), Bd env s₀ tg d' S3 S4 → Bo S4 f4 S5 →
        (∀ fl s6 G6 M6, AtM C env G₀ s₀ S5 G6 σ M6 s6 → Le G' G6 → Kp C env G' M3 { s3 with heap := h', toks := tk } G6 M6 s6 → FlR G6 σ f4 fl →
          ForPost Q (GInv C env G₀ s₀ σ G M s G1 wr T ds fun r S3 => Fo (fun d S S' => Bd env s₀ tg d S S') Bo r S3 f S') (ds.length - i) fl s6) →
        wpAny (model C.prog C.w) A (assign target env v) (fun _ s2 => wpAny (model C.prog C.w) A (execs body env) (ForPost Q (GInv C env G₀ s₀ σ G M s G1 wr T ds fun r S3 => Fo (fun d S S' => Bd env s₀ tg d S S') Bo r S3 f S') (ds.length - i))
          (notedBy (model C.prog C.w) A env fun e s' => cameBackBy (model C.prog C.w) A env E e s') s2) (notedBy (model C.prog C.w) A env fun e s' => cameBackBy (model C.prog C.w) A env E e s') { s3 with heap := h', toks := tk } := by
      intro S4 f4 S5 hb hbo k
      refine assign_ok ok k₀ eo hh ht hb a4 rd' _ _ fun s5 G5 M5 a5 le5 kp5 => ?_
      exact hB _ _ _ hbo _ _ _ a5 _ _ fun fl s6 G6 M6 a6 le6 kp6 fr => k fl s6 G6 M6 a6 (fun b o e => le6 b o (le5 b o e)) (kp5.trans kp6) fr
    cases w3 with
    | turn q1 q2 q3 =>
      refine fin _ _ _ q1 q2 fun fl s6 G6 M6 a6 le6 kp6 fr => ?_
      cases fl <;> first | exact fr.elim | skip
      have hw6 : ∀ b ∈ wr, ¬ M6 b ∧ G6 b = none ∧ ∀ o, h'.get? b = some o → s6.heap.get? b = some o := fun b hb => by
        obtain ⟨x1, x2, o, e⟩ := hw4 b hb
        refine ⟨fun z => ?_, ?_, fun o' e' => kp6.keep b o' (hwO b hb) x1 (hwT b hb) e'⟩
        · rcases kp6.new b z with y | y
          · exact x1 y
          · rw [show ({ s3 with heap := h', toks := tk } : Shared).heap.get? b = some o from e] at y; cases y.1
        · cases z : G6 b with
          | none => rfl
          | some o' =>
            rcases kp6.gn b o' z with y | y | y
            · rw [x2] at y; cases y
            · exact absurd y x1
            · rw [show ({ s3 with heap := h', toks := tk } : Shared).heap.get? b = some o from e] at y; cases y
      refine ⟨ds.length - (i + 1), by omega, i + 1, _, G6, M6, rfl, hlt, q3, a6, fun b o e => le6 b o (le4 b o (le3 b o e)), kp4.trans kp6, X.frame _ _ _ hT4 fun b hb o e => ?_, fun b hb => ?_⟩
      · rcases X.fp b hb with hb' | ⟨o', e'⟩
        · exact (hw6 b hb').2.2 o e
        · have g4 := le4 _ _ (le3 _ _ e')
          have g6 := le6 _ _ g4
          have : h'.get? b = some o' := a4.at0.st.go.le b o' g4
          rw [this] at e; cases e
          exact a6.at0.st.go.le b _ g6
      · obtain ⟨y1, y2, y3⟩ := hw6 b hb
        obtain ⟨_, _, o, e⟩ := hw4 b hb
        exact ⟨y1, y2, o, y3 o e⟩
    | brk q1 q2 =>
      refine fin _ _ _ q1 q2 fun fl s6 G6 M6 a6 le6 kp6 fr => ?_
      cases fl <;> first | exact fr.elim | skip
      exact h _ s6 G6 M6 a6 (fun b o e => le6 b o (le4 b o (le3 b o (S1.le b o e)))) (kp4.trans kp6) trivial
    | ret q1 q2 =>
      refine fin _ _ _ q1 q2 fun fl s6 G6 M6 a6 le6 kp6 fr => ?_
      cases fl <;> first | exact fr.elim | skip
      exact h _ s6 G6 M6 a6 (fun b o e => le6 b o (le4 b o (le3 b o (S1.le b o e)))) (kp4.trans kp6) fr
  · have hi : i = ds.length := by omega
    subst hi
    rw [List.drop_length] at w3
    cases w3
    refine X.done A hh s3 _ _ hT3 fun h' tk hk htk => ?_
    obtain ⟨a4, kp4⟩ := change h' tk G3 htk hk (fun _ _ e => e) fun b o e => .inl e
    exact wpAny_execs_nil (h _ _ G3 M3 a4 (fun b o e => le3 b o (S1.le b o e)) kp4 trivial)
end
end Mine
end TC2
section TC3
open PySem PySem.W PyProof.Rows PySem.Calls
namespace Mine

noncomputable def rngL (a : Int) (n : Nat) : List D := (List.range n).map fun (i : Nat) => .int (a + (i : Int))
noncomputable def rngD (a : Int) (n : Nat) : List D := (List.range n).map fun (i : Nat) => .int (a - (i : Int))
noncomputable def enumD : Nat → List D → List D
  | _, [] => []
  | i, d :: r => .tup [.int i, d] :: enumD (i + 1) r
theorem enumD_len : ∀ (ds : List D) (i : Nat), (enumD i ds).length = ds.length
  | [], _ => rfl
  | d :: r, i => by simp [enumD, enumD_len r]
theorem enumD_get : ∀ (ds : List D) (i j : Nat) (d : D), ds[j]? = some d → (enumD i ds)[j]? = some (.tup [.int ((i + j : Nat) : Int), d])
  | [], _, j, d, h => by simp at h
  | e :: r, i, 0, d, h => by simp at h; subst h; simp [enumD]
  | e :: r, i, j + 1, d, h => by
    have := enumD_get r (i + 1) j d (by simpa using h)
    rw [show i + 1 + j = i + (j + 1) by lia] at this
    simpa [enumD] using this

section
variable {C : Cx} (ok : C.Ok) {A : Around} {G : PH} {σ : Addr} {s : Shared} {env : Env}
include ok

theorem e_neg {x : Expr} {pos : Pos} {i : Int} (hx : EvE C A (eval x env) G σ (.int i) s) : EvE C A (eval (.UnaryOp .USub x pos) env) G σ (.int (-i)) s := fun Q E h =>
  UnaryOp_ (hx _ _ fun v s1 G1 S1 r1 => by
    apply R.int_e r1; intro _
    exact P.neg_int (h _ _ G1 (S1.trans (Step.tick (ht := by first | exact Nat.le_refl _ | exact Nat.le_succ _ | omega) ok S1.go)) (.int _ _)))

/-- a call of a type by its name -/
theorem w_callt {f e : Expr} {rest : List Expr} {pos : Pos} {n : String} {ds : List D} (hcall : eval (.Call f (e :: rest) [] pos) env = (do callWith pos (← eval f env) [] (backTo pos (starEach (e :: rest) env)) (backToKw pos (keywordEach [] env))))
    (ha : (e :: rest).all notStar = true) (hf : EvE C A (eval f env) G σ (.raw (.type n)) s) (hl : ∀ G' s', Step C G s G' s' → EvL C A (spliced (backTo pos (starEach (e :: rest) env))) G' σ ds s')
    {Q E : Value → Shared → Prop} (hc : ∀ G' s' vs, Step C G s G' s' → RL G' σ ds vs → wpAny (model C.prog C.w) A (call (.type n) vs) Q E s') : wpAny (model C.prog C.w) A (eval (.Call f (e :: rest) [] pos) env) Q E s := by
  refine Call_ (hf _ _ fun v s1 G1 S1 r1 => ?_) hcall
  apply R.raw_e r1; clear r1
  refine PyProof.Rows.callWith_type (trees_any ha) ?_
  have hn : notStar e = true := by rw [List.all_cons, Bool.and_eq_true] at ha; exact ha.1
  have hl' := hl G1 s1 S1
  rw [starEach_cons hn] at hl' ⊢
  exact evalArgs_plain (hl' _ _ fun vs s2 G2 S2 r2 => hc G2 s2 vs (S1.trans S2) r2)

/-- list(range(a, b)) -/
theorem e_lrange {f g ea eb : Expr} {pos ipos : Pos} {a b : Int} (hcall : eval (.Call f [.Call g [ea, eb] [] ipos] [] pos) env = (do callWith pos (← eval f env) [] (backTo pos (starEach [.Call g [ea, eb] [] ipos] env)) (backToKw pos (keywordEach [] env))))
    (hcall' : eval (.Call g [ea, eb] [] ipos) env = (do callWith ipos (← eval g env) [] (backTo ipos (starEach [ea, eb] env)) (backToKw ipos (keywordEach [] env))))
    (hh : A.handled = none) (hsa : notStar ea = true) (hsb : notStar eb = true) (hf : EvE C A (eval f env) G σ (.raw (.type "list")) s) (hg : ∀ G' s', Step C G s G' s' → EvE C A (eval g env) G' σ (.raw (.type "range")) s')
    (hl : ∀ G' s', Step C G s G' s' → EvL C A (spliced (backTo ipos (starEach [ea, eb] env))) G' σ [.int a, .int b] s')
    (h1 : 0 ≤ a) (h2 : a ≤ 16777216) (h3 : 0 ≤ b) (h4 : b ≤ 16777216) : EvE C A (eval (.Call f [.Call g [ea, eb] [] ipos] [] pos) env) G σ (.lst (rngL a (b - a).toNat)) s := fun Q E h => by
  refine Call_ (hf _ _ fun v s1 G1 S1 r1 => ?_) hcall
  apply R.raw_e r1; clear r1
  refine PyProof.Rows.callWith_type rfl ?_
  refine evalArgs_plain (spliced_cons ?_)
  refine w_callt ok hcall' (by simp [hsa, hsb]) (hg G1 s1 S1) (fun G' s' S' => hl G' s' (S1.trans S')) fun G2 s2 vs S2 r2 => ?_
  apply RL.cons_e r2; clear r2; intro _ _ ra r2
  apply RL.cons_e r2; clear r2; intro _ _ rb r2
  apply RL.nil_e r2; clear r2
  apply R.int_e ra; clear ra; intro _
  apply R.int_e rb; clear rb; intro _
  refine call_range_2 ?_
  generalize hO : ({ cls := .type "range", data := .fields #[.int a _, .int b _, .int 1 s2.toks] } : Obj) = o
  have S3 : Step C G2 s2 (G2.put s2.heap.objs.size o) { s2 with heap := s2.heap.push o, toks := s2.toks + 1 } := Step.push (ht := by first | exact Nat.le_refl _ | exact Nat.le_succ _ | omega) ok S2.go (by rw [← hO]; rfl)
  refine spliced_nil ?_
  have hr : IsRange (s2.heap.push o) s2.heap.objs.size a b 1 _ _ _ := hO ▸ IsRange.new s2.heap a b 1 _ _ _
  refine wpAny_with_toks (n := s2.toks + 1) (Nat.le_refl _) (call_list_range (n := (b - a).toNat) hh hr (small_one (by lia) (by lia) (by lia) (by lia)) (by rw [rangeSize_one]; split <;> lia) (by lia) fun h' tk acc c' hk ho hit htk => ?_)
  have S4 := Step.news ok S3.go (h' := h') (tk := tk) hk (get_size _) ho htk
  refine h _ _ _ (S1.trans (S2.trans (S3.trans S4))) (.lst (PH.put_self ..) rfl (vs := acc.toList) (n := c') (by simp) ?_)
  have key : ∀ (n : Nat) (l : List Value) (k : Nat), l.length = n → (∀ j v, l[j]? = some v → ∃ t : Tok, v = Value.int (a + ((k + j : Nat) : Int)) t) → ∀ G', RL G' σ ((List.range' k n).map fun (i : Nat) => D.int (a + (i : Int))) l := by
    intro n
    induction n with
    | zero => intro l k hl _ G'; rw [List.length_eq_zero_iff.mp hl]; exact .nil
    | succ n ih =>
      intro l k hl hv G'
      match l, hl with
      | v :: r, hl =>
        obtain ⟨t, rfl⟩ := hv 0 v (by simp)
        rw [List.range'_succ, List.map_cons]
        refine .cons ?_ (ih r (k + 1) (by simpa using hl) (fun j v' hv' => ?_) G')
        · exact .int _ _
        · obtain ⟨t', e⟩ := hv (j + 1) v' (by simpa using hv')
          exact ⟨t', by rw [e, show k + (j + 1) = k + 1 + j by lia]⟩
  have := key (b - a).toNat acc.toList 0 (by simpa using hit.1) (fun j v hv => by
    obtain ⟨t, e⟩ := hit.2 j v (by simpa using hv)
    exact ⟨t, by rw [e]; simp⟩)
  unfold rngL
  rw [List.range_eq_range']
  exact this _

theorem it_of {target iter : Expr} {d : D} {ds : List D} (hh : A.handled = none) (he : EvE C A (eval iter env) G σ d s) (hi : itemsD d = some ds) : EvIt C A target iter env G σ ds s := fun Q E h => by
  refine he _ _ fun v s1 G1 S1 r1 => iter_ok ok S1.go r1 hi fun fp P T o X hT0 hfr => ?_
  generalize hI : s1.heap.objs.size = I at X
  have hn : s1.heap.get? I = none := hI ▸ get_size _
  have hG : G1 I = none := by
    cases q : G1 I with
    | none => rfl
    | some o => rw [S1.go.le _ _ q] at hn; cases hn
  have hs0 : s.heap.get? I = none := by
    cases q : s.heap.get? I with
    | none => rfl
    | some o => rw [S1.keep _ _ q (S1.go.notT ok hn)] at hn; cases hn
  have P2 := Step.keeps (ht := by first | exact Nat.le_refl _ | exact Nat.le_succ _ | omega) ok S1.go (h' := s1.heap.push o) (tk := s1.toks) fun _ _ e => Heap.get?_push_of_some _ e
  refine h I _ G1 [I] fp T (S1.trans P2) ⟨(X.W A hh).frame, fun b hb => (X.fp b hb).imp (fun q => by simp [q]) id, fun A' hA s2 Q E hT hQ => ?_, fun A' hA i s2 G2 Q E N hi hT le hG2 hQ => ?_⟩ hT0 fun b hb => ?_
  · exact wpAny_with_toks (n := s2.toks) (Nat.le_refl _) ((X.W A' hA).done s2 _ _ hT fun h' tk hk htk => hQ h' tk hk htk)
  · refine wpAny_with_toks (n := s2.toks) (Nat.le_refl _) ((X.W A' hA).item i s2 _ _ hi hT fun v' h' tk hP hT' hk htk => ?_)
    obtain ⟨o4, n4, ho4, hc4, hn4⟩ := X.cls _ _ hT'
    refine letOwn_ok (o := o4) (n := n4) ho4 hc4 hn4 ?_
    refine hQ v' h' tk G2 hT' hk (fun b hb _ => ?_) htk (fun _ _ e => e) (fun b o e => .inl e) ?_
    · rw [List.mem_singleton.mp hb]; exact ⟨o4, ho4⟩
    · obtain ⟨d', e, r⟩ := X.val i v' hP
      exact ⟨d', e, r.mono le⟩
  · rw [List.mem_singleton.mp hb]
    refine ⟨hs0, hG, o, ?_⟩
    show (s1.heap.push o).get? I = some o
    rw [← hI]; exact Heap.get?_push_size _ hfr

theorem it_enum {elts : List Expr} {k : Nat} {tp : Pos} {f e : Expr} {pos : Pos} {ds : List D} (hcall : eval (.Call f [e] [] pos) env = (do callWith pos (← eval f env) [] (backTo pos (starEach [e] env)) (backToKw pos (keywordEach [] env))))
    (hh : A.handled = none) (hns : notStar e = true) (hf : EvE C A (eval f env) G σ (.raw (.type "enumerate")) s) (hl : ∀ G' s', Step C G s G' s' → EvL C A (spliced (backTo pos (starEach [e] env))) G' σ [.lst ds] s') :
    EvIt C A (.Tuple elts k tp) (.Call f [e] [] pos) env G σ (enumD 0 ds) s := fun Q E h => by
  refine w_callt ok hcall (by simp [hns]) hf hl fun G1 s1 vs S1 r1 => ?_
  apply RL.cons_e r1; clear r1; intro _ _ rl r1
  apply RL.nil_e r1; clear r1
  cases rl with
  | lst ho hc hd hl =>
  rename_i l ol nl ws
  have hL : s1.heap.IsList l ws.toArray := ⟨_, S1.go.le _ _ ho, hc, _, hd⟩
  have hlt : @LT.lt Nat _ l s1.heap.objs.size := Heap.lt_size (S1.go.le _ _ ho)
  refine call_enumerate_list hL fun h1 hen hit hsz hk1 => wpAny_pyIter_enum (s := { s1 with heap := h1 }) hen ?_
  generalize hI : s1.heap.objs.size = J at hen hit hsz ⊢
  have hJ : @Eq Nat s1.heap.objs.size J := hI
  have hJn : s1.heap.get? J = none := hI ▸ get_size _
  have hIn : s1.heap.get? (J + 1) = none := by
    cases q : s1.heap.get? (J + 1) with
    | none => rfl
    | some o => have : @LT.lt Nat _ (J + 1) s1.heap.objs.size := Heap.lt_size q; lia
  have off : ∀ b, s1.heap.get? b = none → s.heap.get? b = none ∧ G1 b = none := fun b hn => by
    constructor
    · cases q : s.heap.get? b with
      | none => rfl
      | some o => rw [S1.keep _ _ q (S1.go.notT ok hn)] at hn; cases hn
    · cases q : G1 b with
      | none => rfl
      | some o => rw [S1.go.le _ _ q] at hn; cases hn
  have P2 := Step.keeps (ht := by first | exact Nat.le_refl _ | exact Nat.le_succ _ | omega) ok S1.go (h' := h1) (tk := s1.toks) hk1
  have W := fun (A' : Around) (hA : A'.handled = none) => WalksT.enumerate (prog := C.prog) (w := C.w) hA (J + 1) J l (neA (by lia)) (neA (by lia)) (neA (by lia)) ws.toArray
  have e0 : ws.toArray.size = (enumD 0 ds).length := by rw [enumD_len]; simp [hl.length]
  rw [e0] at W
  refine h (J + 1) _ G1 [J + 1, J] [J + 1, J, l] (fun i h => (∃ old, IsEnum h (J + 1) J i old) ∧ h.IsListIter J l i ∧ h.IsList l ws.toArray) (S1.trans P2)
    ⟨(W A hh).frame, fun b hb => ?_, fun A' hA s2 Q E hT hQ => ?_, fun A' hA i s2 G2 Q E N hi hT le hG2 hQ => ?_⟩ ⟨⟨_, hen⟩, hit, hL.at fun o e => hk1 _ _ e⟩ fun b hb => ?_
  · rcases List.mem_cons.mp hb with rfl | hb
    · exact .inl (by simp)
    · rcases List.mem_cons.mp hb with rfl | hb
      · exact .inl (by simp)
      · rw [List.mem_singleton.mp hb]; exact .inr ⟨_, ho⟩
  · exact wpAny_with_toks (n := s2.toks) (Nat.le_refl _) ((W A' hA).done s2 _ _ hT fun h' tk hk htk => hQ h' tk hk htk)
  · refine wpAny_with_toks (n := s2.toks) (Nat.le_refl _) ((W A' hA).item i s2 _ _ hi hT fun Tu vals h' tk hP hle hTu hmid hk htk => ?_)
    refine (W A' hA).go elts k tp i Tu _ _ _ hmid fun h3 hT3 hk3 => ?_
    obtain ⟨t, x, hx, rfl⟩ := hP
    obtain ⟨oT, hoT, hcT, nT, hdT⟩ := id hTu
    have hTw := (W A' hA).apart _ _ _ hmid
    have hT3' : h3.get? Tu = some oT := hk3 _ _ hTw hoT
    have hTf : s2.heap.get? Tu = none := by
      cases q : s2.heap.get? Tu with
      | none => rfl
      | some o => have : @LT.lt Nat _ Tu s2.heap.objs.size := Heap.lt_size q; lia
    have hGT : G2 Tu = none := by
      cases q : G2 Tu with
      | none => rfl
      | some o => rw [hG2 _ _ q] at hTf; cases hTf
    have le2 : Le G2 (G2.put Tu oT) := fun b p e => by
      unfold PH.put; split
      · rename_i q; subst q; rw [hGT] at e; cases e
      · exact e
    rw [enumD_len] at hi
    obtain ⟨v, hv, rv⟩ := hl.get (List.getElem?_eq_getElem hi)
    have hv' : x = v := by
      rw [show ws.toArray[i]? = ws[i]? by simp] at hx
      rw [hx] at hv; exact Option.some.inj hv
    subst hv'
    refine hQ (.ref Tu) h3 tk (G2.put Tu oT) hT3 (fun b o hb e => hk3 b o hb (hk b o hb e)) (fun b hb _ => ?_) htk le2 (fun b o e => ?_) ⟨_, enumD_get ds 0 i _ (List.getElem?_eq_getElem hi), ?_⟩
    · obtain ⟨⟨old, he⟩, ⟨o5, hi5, _⟩, _⟩ := hT3
      rcases List.mem_cons.mp hb with rfl | hb
      · exact ⟨_, he⟩
      · rw [List.mem_singleton.mp hb]; exact ⟨_, hi5⟩
    · unfold PH.put at e; split at e
      · rename_i q; subst q; cases e
        exact .inr ⟨hTf, hT3', by rw [hcT]; simp⟩
      · exact .inl e
    · refine .tup (PH.put_self ..) hcT (vs := [.int i t, x]) (n := nT) (by rw [hdT]) (.cons ?_ (.cons (rv.mono fun a o e => le2 _ _ (le _ _ e)) .nil))
      have := R.int (G := G2.put Tu oT) (σ := σ) ((0 + i : Nat) : Int) t
      simpa using this
  · rcases List.mem_cons.mp hb with rfl | hb
    · exact ⟨(off _ hIn).1, (off _ hIn).2, _, hen⟩
    · rw [List.mem_singleton.mp hb]
      obtain ⟨o5, hi5, _⟩ := hit
      exact ⟨(off _ hJn).1, (off _ hJn).2, _, hi5⟩

/-- range(a, 0, -1) -/
theorem it_down {target f ea eb ec : Expr} {pos : Pos} {a : Int} (hcall : eval (.Call f [ea, eb, ec] [] pos) env = (do callWith pos (← eval f env) [] (backTo pos (starEach [ea, eb, ec] env)) (backToKw pos (keywordEach [] env))))
    (hh : A.handled = none) (hns : [ea, eb, ec].all notStar = true) (hf : EvE C A (eval f env) G σ (.raw (.type "range")) s)
    (hl : ∀ G' s', Step C G s G' s' → EvL C A (spliced (backTo pos (starEach [ea, eb, ec] env))) G' σ [.int a, .int 0, .int (-1)] s') (ha : -1 ≤ a) (ha' : a ≤ 16777216) :
    EvIt C A target (.Call f [ea, eb, ec] [] pos) env G σ (rngD a a.toNat) s := fun Q E h => by
  refine w_callt ok hcall hns hf hl fun G1 s1 vs S1 r1 => ?_
  apply RL.cons_e r1; clear r1; intro _ _ ra r1
  apply RL.cons_e r1; clear r1; intro _ _ rb r1
  apply RL.cons_e r1; clear r1; intro _ _ rc r1
  apply RL.nil_e r1; clear r1
  apply R.int_e ra; clear ra; intro _
  apply R.int_e rb; clear rb; intro _
  apply R.int_e rc; clear rc; intro _
  rename_i t u v
  have hsize : Builtin.Range.rangeSize a 0 (-1) = (a.toNat : Int) := by
    unfold Builtin.Range.rangeSize
    simp only [show ¬ (-1 : Int) > 0 by decide, if_false]
    simp
    split <;> lia
  refine call_range_3 (by decide) ?_
  refine wpAny_pyIter_range (r := s1.heap.objs.size) (a := a) (b := 0) (c := -1) (t := t) (u := u) (v := v) (IsRange.new s1.heap a 0 (-1) t u v) ?_ ?_
  · unfold Builtin.Range.small
    rw [hsize]
    simp [Builtin.Range.rangeFitsLong]
    lia
  · rw [hsize]
    generalize hO : ({ cls := .type "range", data := .fields #[.int a t, .int 0 u, .int (-1) v] } : Obj) = o
    have hof : o.isFreed = false := by rw [← hO]; rfl
    have hk0 : ∀ b o', s1.heap.get? b = some o' → (s1.heap.push o).get? b = some o' := fun _ _ e => Heap.get?_push_of_some _ e
    have hz : (s1.heap.push o).objs.size = s1.heap.objs.size + 1 := Heap.size_push ..
    dsimp only
    generalize hI : (s1.heap.push o).objs.size = I
    have hI' : @Eq Nat (s1.heap.objs.size + 1) I := by rw [← hz, hI]
    generalize hO2 : ({ cls := .type "range_iterator", data := .fields #[rawInt a, rawInt (a.toNat : Int), rawInt (-1)] } : Obj) = o2
    have hO2f : o2.isFreed = false := by rw [← hO2]; rfl
    have hk : ∀ b o', s1.heap.get? b = some o' → ((s1.heap.push o).push o2).get? b = some o' := fun _ _ e => Heap.get?_push_of_some _ (hk0 _ _ e)
    have P2 := Step.keeps (ht := by first | exact Nat.le_refl _ | exact Nat.le_succ _ | omega) ok S1.go (h' := (s1.heap.push o).push o2) (tk := s1.toks) hk
    have hIn : s1.heap.get? I = none := by
      cases q : s1.heap.get? I with
      | none => rfl
      | some o => have : @LT.lt Nat _ I s1.heap.objs.size := Heap.lt_size q; lia
    have hi2 : ((s1.heap.push o).push o2).get? I = some o2 := by rw [← hI]; exact Heap.get?_push_size _ hO2f
    have W := fun (A' : Around) (hA : A'.handled = none) => Walks.range (prog := C.prog) (w := C.w) hA I a (-1) a.toNat
    have e0 : (rngD a a.toNat).length = a.toNat := by simp [rngD]
    rw [← e0] at W
    have hs0 : s.heap.get? I = none := by
      cases q : s.heap.get? I with
      | none => rfl
      | some o => rw [S1.keep _ _ q (S1.go.notT ok hIn)] at hIn; cases hIn
    have hG : G1 I = none := by
      cases q : G1 I with
      | none => rfl
      | some o => rw [S1.go.le _ _ q] at hIn; cases hIn
    refine h I _ G1 [I] [I] _ (S1.trans P2) ⟨(W A hh).frame, fun b hb => .inl hb, fun A' hA s2 Q E hT hQ => ?_, fun A' hA i s2 G2 Q E N hi hT le hG2 hQ => ?_⟩ ?_ fun b hb => ?_
    · exact wpAny_with_toks (n := s2.toks) (Nat.le_refl _) ((W A' hA).done s2 _ _ hT fun h' tk hk htk => hQ h' tk hk htk)
    · refine wpAny_with_toks (n := s2.toks) (Nat.le_refl _) ((W A' hA).item i s2 _ _ hi hT fun v' h' tk hP hT' hk htk => ?_)
      refine letOwn_ok (n := "range_iterator") hT' rfl (by decide) ?_
      refine hQ v' h' tk G2 hT' hk (fun b hb _ => ?_) htk (fun _ _ e => e) (fun b o e => .inl e) ?_
      · rw [List.mem_singleton.mp hb]; exact ⟨_, hT'⟩
      · obtain ⟨t', rfl⟩ := hP
        rw [e0] at hi
        refine ⟨.int (a - (i : Int)), by unfold rngD; simp [hi], ?_⟩
        rw [show a + (i : Int) * -1 = a - (i : Int) by lia]
        exact .int _ _
    · show IsRangeIter _ _ _ _ _
      rw [show a + ((0 : Nat) : Int) * -1 = a by lia, e0, show (((a.toNat : Nat) : Int) - ((0 : Nat) : Int)) = (a.toNat : Int) by lia]
      rw [← hO2] at hi2
      rw [← hO2]
      exact hi2
    · rw [List.mem_singleton.mp hb]
      exact ⟨hs0, hG, _, hi2⟩
end
end Mine
end TC3
section TC4
open PySem PySem.W PyProof.Rows PySem.Calls
namespace Mine

theorem mapSeq_set (its : Array Value) (n i : Nat) (x : Value) : Obj.mapSeq (·.setIfInBounds i x) { cls := .type "list", data := .seq its n } = { cls := .type "list", data := .seq (its.setIfInBounds i x) (n + 1) } ∨ Obj.mapSeq (·.setIfInBounds i x) { cls := .type "list", data := .seq its n } = { cls := .type "list", data := .seq (its.setIfInBounds i x) n } := by
  by_cases h : its.isEmpty <;> simp [Obj.mapSeq]
theorem set_last {prog : Program} {w : World} {A : Around} {E : Value → Shared → Prop} {s : Shared} {l : Addr} {vs : List Value} {m : Nat} {t : Tok} {v : Value} {Q : Unit → Shared → Prop} (hm : MuL s.heap l vs) (hn : vs.length = m + 1)
    (hQ : ∀ h', MuL h' l (vs.set m v) → Heap.SameBut l s.heap h' → Q () { s with heap := h' }) : wpAny (model prog w) A (setItem (.ref l) (.int (-1) t) v) Q E s := by
  obtain ⟨n, ho⟩ := id hm
  have hl := hm.list
  unfold setItem
  try with_reducible refine wpAny_holding ?_
  first | refine wpAny_bind (wpAny_pure ?_) | skip
  refine wpAny_bind (wpAny_sequenceKey hl.typeIs (by decide) ?_)
  refine wpAny_bind (wpAny_callSpecial?_slot (name := Str.ofString "__setitem__") hl.typeIs slot_list_setitem
    (wpAny_call_entry slot_list_setitem hl.typeIs entry_list_setitem ?_ (args_list_setitem _ _ _)))
  show wpAny _ _ (Builtin.List.listSubscript? (.int (-1) t) >>= _) _ _ s
  refine wpAny_bind (wpAny_listSubscript_int (by decide) ?_)
  have hidx : seqIndex? (-1) vs.toArray.size = some m := by
    have := seqIndex_neg (k := -1) (n := vs.toArray.size) (by decide) (by simp [hn]; lia)
    rw [this]
    simp [hn]
    lia
  show wpAny _ _ ((Builtin.List.listItems (.ref l) >>= fun xs => pure ((seqIndex? (Int.negSucc 0) xs.size).bind fun i => xs[i]?.map (i, ·))) >>= _) _ _ s
  refine wpAny_bind (wpAny_bind ?_)
  show wpAny _ _ (seqItems? (.ref l) >>= _) _ _ s
  refine wpAny_bind (wpAny_seqItems ho rfl (wpAny_pure (wpAny_pure ?_)))
  rw [show (Int.negSucc 0) = -1 from rfl, hidx]
  have hx : vs.toArray[m]? = some (vs[m]'(by lia)) := by simp
  simp only [Option.bind_some, hx, Option.map_some]
  show wpAny _ _ (setSeqItemAt l m v >>= _) _ _ s
  refine wpAny_bind (wpAny_setSeqItemAt ho rfl ?_)
  have fin : ∃ n', (s.heap.update l (Obj.mapSeq (·.setIfInBounds m v))).get? l = some { cls := .type "list", data := .seq (vs.set m v).toArray n' } := by
    rcases mapSeq_set vs.toArray n m v with e | e
    · exact ⟨n + 1, by rw [Heap.get?_update_self _ ho (by rw [e]; rfl), e]; simp⟩
    · exact ⟨n, by rw [Heap.get?_update_self _ ho (by rw [e]; rfl), e]; simp⟩
  first
    | exact wpAny_bind (wpAny_pure (wpAny_pure ⟨.none, rfl, wpAny_pure (hQ _ fin (Heap.SameBut.update ..))⟩))
    | exact wpAny_pure ⟨.none, rfl, wpAny_pure (hQ _ fin (Heap.SameBut.update ..))⟩

section
variable {C : Cx} (ok : C.Ok) {A : Around} {G₀ G : PH} {σ : Addr} {s₀ s : Shared} {env : Env} {S : St} {M : Addr → Prop}
include ok

theorem AtM.mu_at (a : AtM C env G₀ s₀ S G σ M s) {x : Str} {ds : List D} (hx : S x = .mu ds) : ∃ ad vs, Look env s.heap x (.ref ad) ∧ MuL s.heap ad vs ∧ RL G σ ds vs ∧ M ad := by
  obtain ⟨adr, h1, _⟩ := a.mus
  obtain ⟨vs, r⟩ := h1 x ds hx
  exact ⟨adr x, vs, r⟩

theorem getItem_lst {h : Shared} {a : Addr} {vs : List Value} {l : List D} {i : Int} {r : D} {t : Tok} (g : Go C G h) (hl : h.heap.IsList a vs.toArray) (hr' : RL G σ l vs) (e : pick l i = some r) : EvE C A (getItem (.ref a) (.int i t)) G σ r h := fun Q E q => by
  unfold pick at e
  split at e
  · split at e
    · obtain ⟨v, hv, rv⟩ := hr'.get e
      exact wpAny_getItem_list hl (by lia) (by lia) (by simpa using hv) (q _ _ G (Step.refl g) rv)
    · cases e
  · split at e
    · obtain ⟨v, hv, rv⟩ := hr'.get e
      exact wpAny_getItem_list_neg hl (by lia) (by simp [hr'.length]; lia) (by lia) (by simpa [hr'.length] using hv) (q _ _ G (Step.refl g) rv)
    · cases e

variable (eo : EnvOk C env) (a : AtM C env G₀ s₀ S G σ M s) {x : Str} {ds : List D} (hx : S x = .mu ds) (hd1 : (x == ("__debug__" : Str)) = false) (hd2 : (x == ("__classdict__" : Str)) = false)
include eo a hx hd1 hd2

theorem e_muidx (k₀ : Sok C s₀) {xp pos : Pos} {slice : Expr} {i : Int} {r : D} (hi : ∀ G' s', Step C G s G' s' → EvE C A (eval slice env) G' σ (.int i) s')
    (hs : ∀ o x, subscripted slice false o x = operate [o, x] (getItem o x)) (e : pick ds i = some r) : EvE C A (eval (.Subscript (.Name x xp) slice pos) env) G σ r s := fun Q E h => by
  obtain ⟨ad, vs, l, hm, hr, hM⟩ := a.mu_at ok hx
  refine Subscript_ (ev_name ok k₀ eo l hd1 hd2 (hi G s (Step.refl a.at0.st.go) _ _ fun vi s2 G2 S2 ri => ?_))
  cases ri
  have hm2 : MuL s2.heap ad vs := hm.at fun o e => S2.keep _ o e (a.off _ hM).2.1
  exact tail_any hm2.list.typeIs slot_list_getitem.lookup (getItem_lst ok S2.go hm2.list (hr.mono S2.le) e _ _ fun v s3 G3 S3 r3 => h v s3 G3 (S2.trans S3) r3) (hs _ _)

theorem t_mu (k₀ : Sok C s₀) {xp : Pos} (hf : fit ds = true) : EvB C A (isTrue (.Name x xp) env (eval (.Name x xp) env)) G (!ds.isEmpty) s := fun Q E h => by
  obtain ⟨ad, vs, l, hm, hr, hM⟩ := a.mu_at ok hx
  show wpAny _ _ (do let v ← eval (.Name x xp) env; standAt xp; holding [v] (truthy v)) _ _ _
  refine wpAny_bind (ev_name ok k₀ eo l hd1 hd2 (wpAny_bind (wpAny_standAt (wpAny_holding ?_))))
  have hf := fit_iff.mp hf
  refine wpAny_truthy_list hm.list (by simp [hr.length]; lia) ?_
  have : (!vs.toArray.isEmpty) = !ds.isEmpty := by
    have := hr.length
    cases ds <;> cases vs <;> simp_all
  rw [this]
  exact h _ G (Step.tick (ht := by first | exact Nat.le_refl _ | exact Nat.le_succ _ | omega) ok a.at0.st.go)

theorem e_mulen (k₀ : Sok C s₀) {f : Expr} {xp pos : Pos} (hcall : eval (.Call f [.Name x xp] [] pos) env = (do callWith pos (← eval f env) [] (backTo pos (starEach [.Name x xp] env)) (backToKw pos (keywordEach [] env))))
    (hf : EvE C A (eval f env) G σ (.raw (.builtin "len")) s) (hfit : fit ds = true) : EvE C A (eval (.Call f [.Name x xp] [] pos) env) G σ (.int ds.length) s := fun Q E h => by
  obtain ⟨ad, vs, l, hm, hr, hM⟩ := a.mu_at ok hx
  have hfit := fit_iff.mp hfit
  refine Call_ (hf _ _ fun v s1 G1 S1 r1 => ?_) hcall
  (first | (apply R.int_e r1; intro _) | (apply R.str_e r1; intro _) | apply R.raw_e r1 | (apply RL.nil_e r1; clear r1) | cases r1)
  have hm1 : MuL s1.heap ad vs := hm.at fun o e => S1.keep _ o e (a.off _ hM).2.1
  refine callWith_builtin rfl (evalArgs_plain (spliced_cons (ev_name ok k₀ eo (l.step eo S1) hd1 hd2 (spliced_nil ?_))))
  refine len_list hm1.list (by simp [hr.length]; lia) ?_
  have : ((vs.toArray.size : Nat) : Int) = ds.length := by simp [hr.length]
  rw [this]
  exact h _ _ G1 (S1.trans (Step.tick (ht := by first | exact Nat.le_refl _ | exact Nat.le_succ _ | omega) ok S1.go)) (.int _ _)

/-- x[i] += text -/
theorem s_augidx (k₀ : Sok C s₀) (hvis : vis env x) {xp tpos pos : Pos} {slice value : Expr} {n : Nat} {p q : List Nat} (hn : ds.length = n + 1) (hlast : ds[n]? = some (.str p))
    (hi : ∀ G' s', Step C G s G' s' → EvE C A (eval slice env) G' σ (.int (-1)) s') (hv : ∀ G' s', Step C G s G' s' → EvE C A (eval value env) G' σ (.str q) s')
    (hst : ∀ ov iv new, augStore slice ov iv new = (do holding [new, ov, iv] (setItem ov iv new); release [new, ov, iv] []; pure .next)) (hpq : p.length + q.length ≤ 16777216) :
    EvS C A env G₀ s₀ (exec (.AugAssign (.Subscript (.Name x xp) slice tpos) .Add value pos) env) S G σ M s .next (upS S x (.mu (ds.set n (.str (p ++ q))))) := fun Q E h => by
  obtain ⟨ad, vs, l, hm, hr, hM⟩ := a.mu_at ok hx
  refine wpAny_AugAssign_Subscript_any (ev_name ok k₀ eo l hd1 hd2 (hi G s (Step.refl a.at0.st.go) _ _ fun vi s2 G2 S2 ri => ?_)) hst
  cases ri
  have hT := (a.off _ hM).2.1
  have hm2 : MuL s2.heap ad vs := hm.at fun o e => S2.keep _ o e hT
  have hpk : pick ds (-1) = some (.str p) := by
    unfold pick
    rw [if_neg (by decide), if_pos ⟨by lia, by decide⟩]
    rw [show (-1 + (ds.length : Int)).toNat = n by lia]
    exact hlast
  refine getItem_lst ok S2.go hm2.list (hr.mono S2.le) hpk _ _ fun vo s3 G3 S3 r3 => hv G3 s3 (S2.trans S3) _ _ fun vv s4 G4 S4 r4 => ?_
  (first | (apply R.int_e r3; intro _) | (apply R.str_e r3; intro _) | apply R.raw_e r3 | (apply RL.nil_e r3; clear r3) | cases r3)
  (first | (apply R.int_e r4; intro _) | (apply R.str_e r4; intro _) | apply R.raw_e r4 | (apply RL.nil_e r4; clear r4) | cases r4)
  refine wpAny_with_toks (n := s4.toks) (Nat.le_refl _) (PyProof.Rows.iadd_str (fun t' tk htk => ?_) (by show (⟨p.toArray⟩ : Str).length + (⟨q.toArray⟩ : Str).length ≤ 16777216; simp [Str.length]; exact hpq))
  have S24 := S2.trans (S3.trans S4)
  have S5 := S24.trans (Step.tick ok S24.go (tk := tk) htk)
  have a5 := a.step ok eo S5
  refine set_last (m := n) (hm.at fun o e => S5.keep _ o e hT) (by rw [hr.length]; exact hn) fun h' hmu hsb => ?_
  have hset : ∀ {ds : List D} {vs : List Value} {G : PH}, RL G σ ds vs → ∀ (n : Nat) {d : D} {v : Value}, R G σ d v → RL G σ (ds.set n d) (vs.set n v) := by
    intro ds vs G h
    induction ds generalizing vs with
    | nil => cases h; intro n d v _; simp; exact .nil
    | cons d0 ds ih =>
      apply RL.cons_e h; clear h; intro _ _ h1 h2
      intro n d v hd
      cases n with
      | zero => exact .cons hd h2
      | succ n => exact .cons h1 (ih h2 n hd)
  have e : ((⟨p.toArray⟩ : Str) ++ (⟨q.toArray⟩ : Str)) = ⟨(p ++ q).toArray⟩ := str_app ok p q
  rw [e] at hmu
  obtain ⟨a6, kp⟩ := mu_upd ok k₀ eo a5 hx (l.step eo S5) hvis (tk := tk) hsb hmu (hset (hr.mono S5.le) n (.str (p ++ q) t')) (Nat.le_refl _)
  exact h _ _ G4 M a6 S5.le ((Step.kp ok eo a S5).trans kp) trivial
end
end Mine
end TC4
section TC5
open PySem PySem.W PyProof.Rows PySem.Calls
namespace Mine

section
variable {C : Cx} (ok : C.Ok) {A : Around} {G₀ G : PH} {σ : Addr} {s₀ s : Shared} {env : Env} {S : St} {M : Addr → Prop}
include ok

theorem s_two (k₀ : Sok C s₀) (eo : EnvOk C env) (a : AtM C env G₀ s₀ S G σ M s) (hh : A.handled = none) {x y : Str} {elts : List Expr} {k : Nat} {tpos pos : Pos} {value : Expr} {d1 d2 : D}
    (hs : swapsWithSole [.Tuple elts k tpos] value pos.line env = pure false) (hw : swappedStores [.Tuple elts k tpos] value env = pure (some [x, y]))
    (hlx : FreshLoc env s₀ x) (hly : FreshLoc env s₀ y) (hnx : ∀ z, S z ≠ .app x) (hny : ∀ z, S z ≠ .app y) (hv : EvE C A (eval value env) G σ (.tup [d1, d2]) s) :
    EvS C A env G₀ s₀ (exec (.Assign [.Tuple elts k tpos] value pos) env) S G σ M s .next (upS (upS S y (.val d2)) x (.val d1)) := fun Q E h => by
  refine Assign_Tuple_swapped (hv _ _ fun v s1 G1 S1 r1 => ?_) hs hw
  have a1 := a.step ok eo S1
  obtain ⟨t, vs, rfl, hl, hr⟩ := r1.tup_at S1.go
  have hsz : [x, y].length = vs.toArray.size := by simp [hr.length]
  rw [hsz]
  refine wpAny_unpackItems_tuple hh hl fun h' hx => ?_
  have P := Step.keeps (ht := by first | exact Nat.le_refl _ | exact Nat.le_succ _ | omega) ok S1.go (tk := s1.toks) (extbut_keep ok k₀ eo hh hx)
  have a2 := a1.step ok eo P
  cases hr with
  | cons r1 hr =>
  cases hr with
  | cons r2 hr =>
  cases hr
  rename_i v1 v2
  show wpAny _ _ (assignInOrder [fun v => bindName env y v, fun v => bindName env x v] [v2, v1]) _ _ _
  refine wpAny_assignInOrder_more (wpAny_bindName (st_bind ok k₀ eo a2 hly hny (r2.mono P.le) fun s3 a3 kp3 => ?_))
  refine wpAny_assignInOrder_more (wpAny_bindName (st_bind ok k₀ eo a3 hlx (fun z hz => ?_) (r1.mono P.le) fun s4 a4 kp4 => ?_))
  · unfold upS at hz
    split at hz
    · cases hz
    · exact hnx z hz
  · exact wpAny_assignInOrder_none (h _ s4 G1 M a4 S1.le ((Step.kp ok eo a S1).trans ((Step.kp ok eo a1 P).trans (kp3.trans kp4))) trivial)
end
end Mine
end TC5
section TC6
open PySem PySem.W PyProof.Rows PySem.Calls
set_option maxRecDepth 100000
namespace Mine
namespace FF
theorem slot_md_get : Slot "method_descriptor" "__get__" "method_descriptor.__get__" :=
  .of (owner := "method_descriptor") (n := "__get__") (by rw [typeLookup_type, builtinLookup_eq_fast]; kernel_rfl) (by decide +kernel) (by decide +kernel) (by decide +kernel)
    (by first | exact .inl (by decide +kernel) | exact .inr (by decide +kernel)) (by rw [isSubtype_type]; kernel_rfl)
theorem entry_md_get : entryFor table "method_descriptor.__get__" = some Builtin.«method_descriptor.__get__» := entryFor_of_tree (by kernel_rfl)
theorem args_md_get (a b c : Value) : argsOk "method_descriptor.__get__" ⟨[a, b, c], []⟩ := by unfold argsOk; kernel_rfl
theorem owner_list_append : (".".intercalate ("list.append".cutAt '.').dropLast) = "list" := by
  have e0 : "list.append".cutAt '.' = ["list", "append"] := by first | rfl | decide +kernel
  rw [e0]; decide +kernel
theorem sub_list_append_owner : isSubtype (.type "list") (.type (".".intercalate ("list.append".cutAt '.').dropLast)) = pure true := by
  rw [owner_list_append, isSubtype_type]; kernel_rfl
theorem told : Manifest.toldItsClass.contains "list.append" = false := by decide +kernel
theorem no_md_set : typeLookup (.type "method_descriptor") "__set__" = pure none := by rw [typeLookup_type, builtinLookup_eq_fast]; kernel_rfl
theorem no_md_del : typeLookup (.type "method_descriptor") "__delete__" = pure none := by rw [typeLookup_type, builtinLookup_eq_fast]; kernel_rfl
end FF
noncomputable def boundO (a : Addr) : Obj := { cls := .type "builtin_function_or_method", data := .fields #[.builtin "list.append", .ref a] }
section
variable {prog : Program} {w : World} {A : Around} {E : Value → Shared → Prop} {h : Heap} {g : Array GenState} {d : Drawn} {t : Nat} {os : OsState} {a : Addr} {o : Obj}
theorem app_get {R : Result → Shared → Prop} (hx : h.get? a = some o) (hc : o.cls = .type "list") (hq : R (.ok (.ret (.ref h.objs.size))) ⟨h.push (boundO a), g, d, t, os⟩) :
    codeAny (model prog w) A (.call (.builtin "method_descriptor.__get__") ⟨[.builtin "list.append", .ref a, .type "list"], []⟩) R ⟨h, g, d, t, os⟩ := by
  have hT : (⟨h, g, d, t, os⟩ : Shared).TypeIs (.ref a) "list" := ⟨_, hx, hc⟩
  have hT5 : (⟨h, g, d, t, os⟩ : Shared).TypeIs (.builtin "list.append") "method_descriptor" := PySem.F.type_list_append
  have f8 := FF.sub_list_append_owner
  have f9 := FF.told
  refine codeAny_call_builtin FF.slot_md_get.plain FF.entry_md_get (FF.slot_md_get.check _ _ _ _ _ _ _ _ hT5 (FF.args_md_get _ _ _) ?_)
  iterate 6 (any_goals (first | assumption | wp_step))
  refine wpAny_of_eq (a := (.builtin "list.append", some (.ref a), some (.type "list"))) (by rfl) ?_
  dsimp only
  rw [f9]
  simp only [Bool.false_eq_true, if_false]
  iterate 8 (any_goals (first | assumption | wp_step))
  simp only [Bool.not_true, Bool.false_eq_true, if_false]
  refine wpAny_pure ?_
  refine wpAny_bind ?_
  show wpAny _ _ (newObj (.type "builtin_function_or_method") (.fields [Value.builtin "list.append", Value.ref a].toArray)) _ _ _
  exact wpAny_newObj_type (wpAny_pure hq)
theorem app_entry {tk : Tok} {n : Nat} {vs : Array Value} {Q : Fin → Shared → Prop} (hx : h.get? a = some { cls := .type "list", data := .seq vs n }) (hq : Q (.done (.ret (.ref h.objs.size))) ⟨h.push (boundO a), g, d, t, os⟩) :
    wpAny (model prog w) A (Builtin.«object.__getattribute__» ⟨[.ref a, .str "append" tk], []⟩) Q E ⟨h, g, d, t, os⟩ := by
  have hT : (⟨h, g, d, t, os⟩ : Shared).TypeIs (.ref a) "list" := ⟨_, hx, rfl⟩
  have hT5 : (⟨h, g, d, t, os⟩ : Shared).TypeIs (.builtin "list.append") "method_descriptor" := PySem.F.type_list_append
  have f4 := PySem.F.slot_list_append.lookup
  have f5 := PySem.F.type_list_append
  have f6 := FF.slot_md_get.lookup
  have f7 := FF.no_md_set
  have f8 := FF.no_md_del
  iterate 30 (any_goals (first | assumption | wp_step))
  dsimp only
  repeat (any_goals (first | assumption | (with_reducible apply app_get hx rfl) | wp_step))
theorem app_call {tk : Tok} {n : Nat} {vs : Array Value} {R : Result → Shared → Prop} (hx : h.get? a = some { cls := .type "list", data := .seq vs n }) (hq : R (.ok (.ret (.ref h.objs.size))) ⟨h.push (boundO a), g, d, t, os⟩) :
    codeAny (model prog w) A (.call (.builtin "list.__getattribute__") ⟨[.ref a, .str "append" tk], []⟩) R ⟨h, g, d, t, os⟩ :=
  codeAny_call_builtin PySem.F.slot_list_getattribute.plain PySem.F.entry_list_ga (PySem.F.slot_list_getattribute.check _ _ _ _ _ _ _ _ (show (⟨h, g, d, t, os⟩ : Shared).TypeIs (.ref a) "list" from ⟨_, hx, rfl⟩) (PySem.F.args_list_getattribute_2 _ _) (app_entry hx hq))
theorem app_attr {n : Nat} {vs : Array Value} {Q : Value → Shared → Prop} (hx : h.get? a = some { cls := .type "list", data := .seq vs n }) (hq : Q (.ref h.objs.size) ⟨h.push (boundO a), g, d, t + 1, os⟩) :
    wpAny (model prog w) A (getAttr (.ref a) "append" true) Q E ⟨h, g, d, t, os⟩ := by
  have hT : (⟨h, g, d, t, os⟩ : Shared).TypeIs (.ref a) "list" := ⟨_, hx, rfl⟩
  have hT' : (⟨h, g, d, t + 1, os⟩ : Shared).TypeIs (.ref a) "list" := ⟨_, hx, rfl⟩
  have f2 := PySem.F.slot_list_getattribute.lookup
  have f3 := PySem.F.slot_list_getattribute.bind (.ref a)
  unfold getAttr
  repeat (any_goals (first | assumption | (with_reducible apply app_call hx) | wp_step))
  refine app_call hx ?_
  have hb : (h.push (boundO a)).get? h.objs.size = some (boundO a) := Heap.get?_push_size _ rfl
  show wpAny _ _ (handedOut (.ref h.objs.size)) _ _ _
  unfold handedOut
  repeat (any_goals (first | assumption | wp_step))
end
end Mine
end TC6
section TC7
open PySem PySem.W PyProof.Rows PySem.Calls
set_option maxRecDepth 100000
namespace Mine

theorem quiet_app {as : Args} : (Code.builtin "list.append" as).quiet = true := Code.quiet_builtin _ (by decide +kernel)
theorem kind_app : builtinKind "list.append" = some .method := by first | kernel_rfl | decide +kernel
theorem sig_app : Manifest.signature? "list.append" = (Manifest.sig_list.lookup "append") := by
  rw [signature?_of (id := "list.append") (n := ['d', 'n', 'e', 'p', 'p', 'a']) (o := ['t', 's', 'i', 'l']) (by kernel_rfl) PySem.F.owner_list]; rfl
theorem var_app : Manifest.varargsMethods.contains "list.append" = false := by decide +kernel
theorem type_list_isType : isSubtype (.type "list") (.type "module") = pure false := by rw [isSubtype_type]; kernel_rfl
theorem sub_list_type : isSubtype (.type "list") (.type "type") = pure false := by rw [isSubtype_type]; kernel_rfl
theorem args_app {D : Addr} {v : Value} : ∃ sig, Manifest.sig_list.lookup "append" = some sig ∧
    Bind.checkArgs "list.append" { machinery := sig.machinery, full := toString (Bind.lastOf "list") ++ toString "." ++ toString (Bind.lastOf "list.append"), short := sig.short, receiver := sig.receiver, params := sig.params } ⟨[.ref D, v], []⟩ = pure () := ⟨_, by rfl, by kernel_rfl⟩
section
variable {prog : Program} {w : World} {M : Model} {A : Around} {E : Value → Shared → Prop} {s : Shared}

theorem check_app {D : Addr} {v : Value} {Q : Unit → Shared → Prop} {its : Array Value} {n : Nat} (ho : s.heap.get? D = some { cls := .type "list", data := .seq its n }) (h : Q () s) : wpAny M A (checkBoundCall "list.append" ⟨[.ref D, v], []⟩) Q E s := by
  have hT : s.TypeIs (.ref D) "list" := ⟨_, ho, rfl⟩
  unfold checkBoundCall
  rw [sig_app]
  obtain ⟨sig, hs, ha⟩ := args_app (D := D) (v := v)
  rw [hs, kind_app]
  dsimp only
  rw [if_neg (by decide)]
  have f1 := type_list_isType
  have f2 := sub_list_type
  refine wpAny_bind (wpAny_isInstance hT f1 ?_)
  rw [var_app]
  rw [if_neg (by decide)]
  unfold isType
  refine wpAny_bind ?_
  unfold loadHead
  refine wpAny_bind (wpAny_loadPart ho (wpAny_pure ?_))
  simp only [Bool.false_eq_true, if_false]
  refine wpAny_bind (wpAny_typeOf hT ?_)
  exact wpAny_of_eq ha h
theorem call_bound {x D : Addr} {o : Obj} {its : Array Value} {n : Nat} {v : Value} {Q : Value → Shared → Prop} (hb : s.heap.get? x = some o) (hm : methO (.builtin "list.append") (.ref D) o) (ho : s.heap.get? D = some { cls := .type "list", data := .seq its n })
    (h : ∀ h', Heap.SameBut D s.heap h' → h'.get? D = some { cls := .type "list", data := .seq (its.push v) (n + 1) } → Q .none { s with heap := h' }) (hsz : its.size ≤ sizeLine) :
    wpAny (model prog w) A (call (.ref x) [v]) Q E s := by
  refine wpAny_call (codeAny_of_tree ?_)
  show wpAny _ A.in1 (callAny (.ref x) ⟨[v], []⟩) _ _ s
  simp only [callAny]
  refine wpAny_bind (wpAny_load hb ?_)
  rw [hm.1, hm.2]
  dsimp only
  rw [if_pos (by decide)]
  refine wpAny_bind (check_app ho ?_)
  refine wpAny_bind (wpAny_pure (wpAny_pure ?_))
  refine ⟨quiet_app, codeAny_builtin PySem.F.entry_list_append ?_⟩
  show wpAny _ _ (updateSeq D (·.push v) >>= fun _ => ret .none) _ _ s
  refine wpAny_bind ?_
  refine wpAny_updateSeq ho rfl (wpAny_pure (h _ (Heap.SameBut.update ..) ?_))
  rw [Heap.get?_update_self _ ho (by rw [mapSeq_push]; rfl), mapSeq_push]

theorem callWith_bnd {pos : Pos} {u : Addr} {o : Obj} {f0 self : Value} {args : List (Bool × Sem Value)} {Q : Value → Shared → Prop} (hplain : args.any (·.1) = false) (hm : methO f0 self o)
    (h : wpAny M A (evalArgs (.ref u) true args []) (fun x s₁ => s₁.heap.get? u = some o ∧ wpAny M A (call (.ref u) ([] ++ x.pos) x.kw) Q E s₁) E s) : wpAny M A (callWith pos (.ref u) [] args []) Q E s := by
  unfold callWith
  refine wpAny_bind (wpAny_holding (wpAny_mono h (fun x s₁ h₁ => wpAny_bind (wpAny_standAt ?_)) fun _ _ x => x))
  obtain ⟨ho, hcall⟩ := h₁
  simp only [hplain, List.any_nil, Bool.or_false]
  refine wpAny_bind (m := keeperOf (.ref u)) ?_
  unfold keeperOf
  refine wpAny_bind (wpAny_load ho ?_)
  rw [hm.1, hm.2]
  simp only [show (Value.type "builtin_function_or_method" != Value.type "method") = true by decide, show (Value.type "builtin_function_or_method" == Value.type "builtin_function_or_method" || Value.type "builtin_function_or_method" == Value.type "method-wrapper") = true by decide, if_true]
  refine wpAny_pure ?_
  exact wpAny_bind (wpAny_mono hcall (fun r s₂ hr => wpAny_bind (wpAny_holding (wpAny_point (wpAny_pure hr)))) fun _ _ x => x)
end

section
variable {C : Cx} (ok : C.Ok) {A : Around} {G₀ G : PH} {σ : Addr} {s₀ s : Shared} {env : Env} {S : St} {M : Addr → Prop}
include ok

theorem look_eq {env : Env} {h : Heap} {y : Str} {u v : Value} (lu : Look env h y u) (lv : Look env h y v) : u = v := by
  rcases lu with ⟨hk, m, ⟨o1, es1, ep1, q1, q2, q3, q4⟩, hv⟩ | ⟨hk, c, hc, o, ho, hd⟩ <;> rcases lv with ⟨hk', m', ⟨o2, es2, ep2, p1, p2, p3, p4⟩, hv'⟩ | ⟨hk', c', hc', o', ho', hd'⟩
  · rw [q1] at p1; cases p1
    rw [q2] at p2; cases p2
    rw [← q4] at hv; rw [← p4] at hv'
    rw [hv] at hv'; exact Option.some.inj hv'
  · rcases hk' with z | z <;> rw [hk] at z <;> cases z
  · rcases hk with z | z <;> rw [hk'] at z <;> cases z
  · rw [hc] at hc'; cases hc'
    rw [ho] at ho'; cases ho'
    rw [hd] at hd'; cases hd'; rfl

theorem s_callapp (k₀ : Sok C s₀) (eo : EnvOk C env) (a : AtM C env G₀ s₀ S G σ M s) {f y : Str} {fp cpos pos : Pos} {e : Expr} {ds : List D} {d : D} (hf : S f = .app y) (hvis : vis env y) (hy : S y = .mu ds)
    (hd1 : (f == ("__debug__" : Str)) = false) (hd2 : (f == ("__classdict__" : Str)) = false) (hi : interactive env = false) (hn : notStar e = true) (hfit : fit ds = true)
    (hcall : eval (.Call (.Name f fp) [e] [] cpos) env = (do callWith cpos (← eval (.Name f fp) env) [] (backTo cpos (starEach [e] env)) (backToKw cpos (keywordEach [] env))))
    (he : EvE C A (eval e env) G σ d s) : EvS C A env G₀ s₀ (exec (.Expr (.Call (.Name f fp) [e] [] cpos) pos) env) S G σ M s .next (upS S y (.mu (ds ++ [d]))) := fun Q E h => by
  obtain ⟨adr, h1, h2, h3⟩ := a.mus
  obtain ⟨vs, l, ⟨n, hL⟩, hr, hm⟩ := h1 y ds hy
  obtain ⟨b, o, lf, hb, hmo, _⟩ := h3 f y hf
  refine wpAny_Expr ?_ hi (swaps_plain rfl)
  refine Call_ (ev_name ok k₀ eo lf hd1 hd2 ?_) hcall
  refine callWith_bnd (trees_any (by simp [hn])) hmo ?_
  rw [starEach_cons hn]
  refine evalArgs_plain (spliced_cons (he _ _ fun v s1 G1 S1 r1 => spliced_nil ⟨S1.go.le _ _ (S1.le _ _ hb), ?_⟩))
  have a1 := a.step ok eo S1
  have hL1 := S1.keep _ _ hL (a.off _ hm).2.1
  refine call_bound (S1.go.le _ _ (S1.le _ _ hb)) hmo hL1 (fun h' hs ho => ?_) (by rw [List.size_toArray, hr.length]; exact fit_iff.mp hfit)
  obtain ⟨a2, kp⟩ := mu_upd ok k₀ eo a1 hy (l.step eo S1) hvis (vs' := vs ++ [v]) (ds' := ds ++ [d]) (tk := s1.toks) hs ⟨n + 1, by rw [ho]; simp⟩ ((hr.mono S1.le).append (.cons r1 .nil)) (Nat.le_refl _)
  exact h _ _ G1 M a2 S1.le ((Step.kp ok eo a S1).trans kp) trivial

theorem s_bindapp (k₀ : Sok C s₀) (eo : EnvOk C env) (a : AtM C env G₀ s₀ S G σ M s) {x y : Str} {p' xp apos pos : Pos} {ds : List D} (hl : FreshLoc env s₀ x) (hna : ∀ z, S z ≠ .app x) (hy : S y = .mu ds) (hne : y ≠ x)
    (hd1 : (y == ("__debug__" : Str)) = false) (hd2 : (y == ("__classdict__" : Str)) = false)
    (he : eval (.Attribute (.Name y xp) "append" apos) env = (do
      let o ← eval (.Name y xp) env
      standAt apos.atName
      let r ← holding [o] (getAttr o "append" true)
      letTemporaryGo (.Name y xp) o r
      pure r)) :
    EvS C A env G₀ s₀ (exec (.Assign [.Name x p'] (.Attribute (.Name y xp) "append" apos) pos) env) S G σ M s .next (upS S x (.app y)) := fun Q E h => by
  obtain ⟨ad, vs, l, ⟨n, hL⟩, hr, hM⟩ := a.mu_at ok hy
  refine wpAny_Assign_Name (Attribute_Name_ (ev_name ok k₀ eo l hd1 hd2 (app_attr hL ?_)) he) (swaps_plain rfl)
  have P : Step C G s (G.put s.heap.objs.size (boundO ad)) { s with heap := s.heap.push (boundO ad), toks := s.toks + 1 } := Step.push (ht := by first | exact Nat.le_refl _ | exact Nat.le_succ _ | omega) ok a.at0.st.go rfl
  refine st_any ok (b := .app y) k₀ eo (a.step ok eo P) hl hna (fun s' _ _ => ⟨hne, ds, _, _, hy, rfl, PH.put_self .., fun ad' l' => ?_⟩) fun s' a' kp => h _ s' _ M a' P.le ((Step.kp ok eo a P).trans kp) trivial
  have e : ad' = ad := by
    have l0 := l.step eo P
    have := look_eq ok l' l0
    cases this; rfl
  subst e
  exact ⟨rfl, rfl⟩
end
end Mine
end TC7
section TD1
open PySem PySem.W PyProof.Rows PySem.Calls
namespace Mine

/-- a def that stands in the base heap -/
structure DefAt (C : Cx) (a : Addr) (fd : FuncData) (body : List Stmt) : Prop where
  at0 : ∃ o, C.hb.get? a = some o ∧ o.data = .func fd
  noT : a ∉ C.T
  code : ∀ s, Sok C s → s.heap.CodeRec fd.code fd.qualname
  body : fd.body = .stmts body
  clo : fd.closure = []
  co : fd.scope.isCoroutine = false
  gen : fd.scope.isGenerator = false
  kind : fd.scope.kind = .function
  g : fd.globals = mainGlobals
  b : fd.builtins = builtinsNs
  nd : (fd.scope.names.map (·.1)).Nodup
  nofree : ∀ x, (x, NameKind.free) ∉ fd.scope.names

noncomputable def bindS (ps : List Str) (ds : List D) : St := fun x => match (ps.zip ds).lookup x with | some d => .val d | none => .none

theorem OkA.call {n : Nat} {A : Around} (o : OkA (n + 1) A) (env : Env) : OkA n (A.deeper env) := by
  obtain ⟨h1, h2, h3⟩ := o
  exact ⟨h1, by show A.depth + 1 + n ≤ 900; lia, by show A.units + 3 + 8 * n ≤ 9000; lia⟩
theorem OkA.le {n m : Nat} {A : Around} (o : OkA m A) (h : n ≤ m) : OkA n A := ⟨o.hd, by have := o.depth; lia, by have := o.units; lia⟩

theorem bindL_other {kindOf : Str → Option NameKind} {x : Str} : ∀ {binds : List (Str × Value)} {m : Str → Option Value}, x ∉ binds.map (·.1) → bindL kindOf binds m x = m x
  | [], m, _ => rfl
  | (n, v) :: r, m, h => by
    unfold bindL
    rw [List.map_cons, List.mem_cons, not_or] at h
    rw [bindL_other h.2]
    split
    · exact if_neg h.1
    · rfl
theorem bindC_other {kindOf : Str → Option NameKind} {x : Str} : ∀ {binds : List (Str × Value)} {m : Str → Option Value}, x ∉ binds.map (·.1) → bindC kindOf binds m x = m x
  | [], m, _ => rfl
  | (n, v) :: r, m, h => by
    unfold bindC
    rw [List.map_cons, List.mem_cons, not_or] at h
    rw [bindC_other h.2]
    split
    · rfl
    · exact if_neg h.1
theorem bindL_at {kindOf : Str → Option NameKind} {x : Str} {v : Value} : ∀ {binds : List (Str × Value)} {m : Str → Option Value}, (binds.map (·.1)).Nodup → (x, v) ∈ binds → kindOf x = some .local → bindL kindOf binds m x = some v
  | (n, w) :: r, m, hn, h, hk => by
    unfold bindL
    rw [List.map_cons, List.nodup_cons] at hn
    rcases List.mem_cons.mp h with e | h
    · cases e
      rw [bindL_other hn.1, if_pos hk]
      simp
    · exact bindL_at hn.2 h hk
theorem bindC_at {kindOf : Str → Option NameKind} {x : Str} {v : Value} : ∀ {binds : List (Str × Value)} {m : Str → Option Value}, (binds.map (·.1)).Nodup → (x, v) ∈ binds → kindOf x = some .cell → bindC kindOf binds m x = some v
  | (n, w) :: r, m, hn, h, hk => by
    unfold bindC
    rw [List.map_cons, List.nodup_cons] at hn
    rcases List.mem_cons.mp h with e | h
    · cases e
      rw [bindC_other hn.1, if_neg (by rw [hk]; decide)]
      simp
    · exact bindC_at hn.2 h hk
theorem zip_rel {G : PH} {σ : Addr} : ∀ {ps : List Str} {ds : List D} {vs : List Value}, RL G σ ds vs → ∀ {x : Str} {d : D}, (ps.zip ds).lookup x = some d → ∃ v, (x, v) ∈ ps.zip vs ∧ R G σ d v
  | [], _, _, _, x, d, h => by simp at h
  | p :: ps, [], _, h, x, d, e => by simp at e
  | p :: ps, d0 :: ds, v0 :: vs, .cons h hr, x, d, e => by
    rw [List.zip_cons_cons, List.lookup_cons] at e
    split at e
    · rename_i q
      cases e
      have : x = p := by simpa using q
      subst this
      exact ⟨v0, by simp, h⟩
    · obtain ⟨v, hm, hR⟩ := zip_rel hr e
      exact ⟨v, by simp [hm], hR⟩

section
variable {C : Cx} (ok : C.Ok)
include ok

/-- what a call of a def does, from what its body does -/
theorem call_def {a : Addr} {fd : FuncData} {body : List Stmt} (hd : DefAt C a fd body) {n : Nat} {A : Around} (hA : OkA (n + 1) A) {σ : Addr} {ps : List Str} {ds : List D} {vs : List Value} {d : D} {G : PH} {s : Shared}
    (hps : (ps.map id).Nodup) (hlen : ps.length = ds.length) (hpk : ∀ x ∈ ps, (x, NameKind.local) ∈ fd.scope.names ∨ (x, NameKind.cell) ∈ fd.scope.names)
    (hg : Go C G s)
    (hbind : ∀ (Q : List (Str × Value) → Shared → Prop) (E : Value → Shared → Prop), (∀ s' G' ws, Step C G s G' s' → RL G' σ ds ws → Q (ps.zip ws) s') → wpAny (model C.prog C.w) A.in1 (bindArgs fd ⟨vs, []⟩) Q E s)
    (hB : ∀ (env : Env) (A' : Around) (s₀ s₁ : Shared) (G₀ : PH), OkA n A' → EnvOk C env → env.scope = fd.scope → env.frame = some env.locals → env.code = fd.code → Sok C s₀ → (∀ x k, (x, k) ∈ fd.scope.names → k = .local ∨ k = .cell → FreshLoc env s₀ x) →
      AtM C env G₀ s₀ (bindS ps ds) G₀ σ (fun _ => False) s₁ → ∃ S', EvS C A' env G₀ s₀ (execs body env) (bindS ps ds) G₀ σ (fun _ => False) s₁ (.ret d) S') :
    EvE C A (call (.ref a) vs) G σ d s := fun Q E h => by
  obtain ⟨o, ho, hdata⟩ := hd.at0
  have ho' := hg.sok.keep _ _ ho hd.noT
  refine wpAny_call (codeAny_call_function (by have := hA.depth; show A.depth < 1000; lia) ho' hdata hd.co hd.gen hd.body (hd.code s hg.sok) (hbind _ _ fun s' G' ws S' rl => ?_))
  have hlw : ps.length = ws.length := by rw [hlen, rl.length]
  have hmap : (ps.zip ws).map (·.1) = ps := by rw [List.map_fst_zip]; lia
  have hnd : ((ps.zip ws).map (·.1)).Nodup := by rw [hmap]; simpa using hps
  rw [hd.clo]
  have hlk : ∀ x k, (x, k) ∈ fd.scope.names → fd.scope.names.lookup x = some k := fun x k hx => nodup_lookup hd.nd hx
  have hcn := cells_new fd.scope.names (s'.heap.push { cls := .type "frame", data := .dict #[] }) [] (fun p hp => nomatch hp) List.Pairwise.nil
  rw [show (s'.heap.push { cls := .type "frame", data := .dict #[] }).objs.size = s'.heap.objs.size + 1 from Heap.size_push ..] at hcn
  refine wpAny_with_toks (n := s'.toks) (Nat.le_refl _) (wpAny_newFunctionEnv_cells hd.kind (fun x hx => ?_) fun env he s₁ hc htk => ?_)
  · have hx' : x.1 ∈ ps := by rw [← hmap]; exact List.mem_map_of_mem (f := (·.1)) hx
    rcases hpk _ hx' with q | q
    · exact .inl (hlk _ _ q)
    · refine .inr ⟨hlk _ _ q, ?_⟩
      obtain ⟨c, hc⟩ := hcn.2.2.2 _ q
      obtain ⟨c', hc'⟩ := mem_lookup hc
      rw [hc']; rfl
  have hsc : env.scope = fd.scope := by rw [he]; rfl
  have hce : env.cells = cellsFrom (s'.heap.objs.size + 1) fd.scope.names [] := by rw [he]; rfl
  have hLe : env.locals = s'.heap.objs.size := by rw [he]; rfl
  have hfr : env.frame = some env.locals := by rw [he]; rfl
  have hko : ∀ x k, (x, k) ∈ fd.scope.names → env.kindOf x = some k := fun x k hx => by unfold Env.kindOf; rw [hsc]; exact hlk x k hx
  obtain ⟨h₁, tk, hs₁⟩ := hc.toInCall.same
  subst hs₁
  have hk : ∀ b o, s'.heap.get? b = some o → h₁.get? b = some o := hc.toInCall.keep
  have P := Step.keeps ok S'.go (h' := h₁) (tk := tk) hk htk
  have fresh : ∀ b : Addr, @LE.le Nat _ s'.heap.objs.size b → s'.heap.get? b = none := fun b hb => by
    cases q : s'.heap.get? b with
    | none => rfl
    | some o => exact absurd (Heap.lt_size q) (Nat.not_lt.mpr hb)
  have hnoT : ∀ b, s'.heap.get? b = none → b ∉ C.T := fun b hb => S'.go.notT ok hb
  have hnoG : ∀ b, s'.heap.get? b = none → G' b = none := fun b hb => by
    cases q : G' b with
    | none => rfl
    | some o => rw [S'.go.le b o q] at hb; cases hb
  have hLf : s'.heap.get? env.locals = none := fresh _ (by rw [hLe]; exact Nat.le_refl _)
  have cab : ∀ x c, env.cells.lookup x = some c → @LT.lt Nat _ env.locals c := fun x c hx => hc.above x c (lookup_mem hx)
  have cf : ∀ x c, env.cells.lookup x = some c → s'.heap.get? c = none := fun x c hx => fresh _ (by have := cab x c hx; rw [hLe] at this; exact Nat.le_of_lt this)
  have eo : EnvOk C env := ⟨by rw [hsc]; exact hd.kind, by rw [he]; exact hd.g, by rw [he]; exact hd.b, hnoT _ hLf, fun x c hx => hnoT _ (cf x c hx)⟩
  have hat : AtM C env G' s' (bindS ps ds) G' σ (fun _ => False) { s' with heap := h₁, toks := tk } := by
    refine ⟨⟨P, ⟨⟨_, hc.toInCall.ns⟩, hnoG _ hLf, fun x c hx => ⟨⟨_, hc.cell x c hx⟩, hnoG _ (cf x c hx), Nat.ne_of_gt (cab x c hx), hnoT _ (cf x c hx)⟩, fun x y c h1 h2 => ?_, fun x hx => ?_⟩, fun x d' hx hv => ?_⟩, ⟨fun _ => 0, fun x ds' hx => ?_, fun x y ds' _ hx => ?_, fun x y hx => ?_⟩, fun b hb => hb.elim⟩
    · exact congrArg Prod.fst (pair_mem hc.apart (lookup_mem h1) (lookup_mem h2) rfl)
    · rcases hx with hx | hx
      · unfold Env.kindOf at hx
        rw [hsc] at hx
        obtain ⟨c, hc⟩ := hcn.2.2.2 x (lookup_mem hx)
        rw [hce]
        exact mem_lookup hc
      · unfold Env.kindOf at hx
        rw [hsc] at hx
        exact absurd (lookup_mem hx) (hd.nofree x)
    · have hx' : (ps.zip ds).lookup x = some d' := by
        unfold vals bindS at hx
        split at hx
        · rename_i e; simp [B.val?] at hx; rw [e, hx]
        · simp [B.val?] at hx
      obtain ⟨v, hm, hr⟩ := zip_rel rl hx'
      have hxp : x ∈ ps := by rw [← hmap]; exact List.mem_map_of_mem (f := (·.1)) hm
      refine ⟨v, ?_, hr⟩
      rcases hpk x hxp with q | q
      · exact .inl ⟨hko _ _ q, _, hc.toInCall.ns, bindL_at hnd hm (hko _ _ q)⟩
      · obtain ⟨c, hcm⟩ := hcn.2.2.2 x q
        rw [← hce] at hcm
        obtain ⟨c', hc'⟩ := mem_lookup hcm
        have := hc.cell x c' hc'
        rw [bindC_at hnd hm (hko _ _ q)] at this
        exact .inr ⟨.inl (hko _ _ q), c', hc', this⟩
    · unfold bindS at hx; split at hx <;> cases hx
    · unfold bindS at hx; split at hx <;> cases hx
    · unfold bindS at hx; split at hx <;> cases hx
  have hfl : ∀ x k, (x, k) ∈ fd.scope.names → k = .local ∨ k = .cell → FreshLoc env s' x := fun x k hx hk' => by
    rcases hk' with rfl | rfl
    · exact .inl ⟨hko _ _ hx, hLf⟩
    · obtain ⟨c, hcm⟩ := hcn.2.2.2 x hx
      rw [← hce] at hcm
      obtain ⟨c', hc'⟩ := mem_lookup hcm
      exact .inr ⟨hko _ _ hx, c', hc', cf x c' hc'⟩
  refine ⟨P.go.lim ok, codeAny_func ?_⟩
  obtain ⟨S'', hS⟩ := hB env (A.deeper env) s' { s' with heap := h₁, toks := tk } G' (hA.call env) eo hsc hfr (by rw [he]; rfl) S'.go.sok hfl hat
  refine hS _ _ fun fl s2 G2 M2 a2 le2 kp2 fr => ?_
  cases fl <;> first | exact fr.elim | skip
  exact h _ s2 G2 (S'.trans a2.at0.st) fr
end
end Mine
end TD1
section TE1
open PySem PySem.W PyProof.Rows PySem.Calls
namespace Mine

/-! the core language -/
set_option genCtorIdx true in
set_option genInjectivity true in
inductive CB where
  | none | val (d : D) | mu (ds : List D) | app (k : Nat)
inductive CG where
  | nm (k : Nat) | tp (ks : List Nat)
inductive CE where
  | int (i : Int) | str (l : List Nat) | bool (b : Bool) | no
  | var (k : Nat) | neg (a : CE) | bin (op : Operator) (a b : CE) | cmp (op : CmpOp) (a b : CE) | chain (o1 o2 : CmpOp) (a b c : CE)
  | idx (a i : CE) | sl (a lo hi : CE)
  | nil | cons (a r : CE) | tup (l : CE) | lst (l : CE) | js (l : CE) | fmt (a : CE)
  | ite (t a b : CE) | nt (a : CE) | an (a b : CE) | orr (a b : CE) | tv (a : CE)
  | len (a : CE) | anyc (a : CE) | lrg (a b : CE) | repl (a : CE) (y z : List Nat) | find (a l : CE) | join (a l : CE) | cal (j : Nat) (l : CE)
  | comp (g : CG) (it el co : CE) | midx (k : Nat) (i : CE) | mtv (k : Nat) | mlen (k : Nat) | stuck

noncomputable def cbV : CB → Option D
  | .val d => some d
  | _ => none
noncomputable def cbM : CB → Option (List D)
  | .mu ds => some ds
  | _ => none
noncomputable def cbA : CB → Option Nat
  | .app y => some y
  | _ => none
noncomputable def gv (V : List CB) (k : Nat) : Option D := V[k]?.bind cbV
noncomputable def gm (V : List CB) (k : Nat) : Option (List D) := V[k]?.bind cbM
noncomputable def ga (V : List CB) (k : Nat) : Option Nat := V[k]?.bind cbA
noncomputable def CB.pure : CB → CB
  | .val d => .val d
  | _ => .none
noncomputable def noApp (V : List CB) (k : Nat) : Bool := V.all fun b => match b with | .app j => j != k | _ => true
noncomputable def setV (V : List CB) (k : Nat) (b : CB) : Option (List CB) := if noApp V k then some (V.set k b) else none
noncomputable def setsV : List Nat → List D → List CB → Option (List CB)
  | [], [], V => some V
  | k :: ks, d :: ds, V => (setV V k (.val d)).bind fun V' => setsV ks ds V'
  | _, _, _ => none
noncomputable def bindG : CG → D → List CB → Option (List CB)
  | .nm k, d, V => setV V k (.val d)
  | .tp ks, d, V => (asT d).bind fun ds => setsV ks ds V
noncomputable def asB (o : Option D) : Option Bool := o.bind rawB
noncomputable def ofB (b : Bool) : D := .raw (.bool b)
noncomputable def compL (f : D → Option (Option D)) : List D → Option (List D)
  | [] => some []
  | d :: r => (f d).bind fun o => (compL f r).map fun l => match o with | some y => y :: l | none => l
noncomputable def three {α : Type} (l : List D) (k : D → D → D → Option α) : Option α := match l with
  | [a, b, c] => k a b c
  | _ => none
noncomputable def lrD (x y : D) : Option D := (asI x).bind fun a => (asI y).bind fun b => if 0 ≤ a ∧ a ≤ 16777216 ∧ 0 ≤ b ∧ b ≤ 16777216 then some (.lst (rngL a (b - a).toNat)) else none
noncomputable def findD (x y : D) : Option D := (strOf x).bind fun x => (asL y).bind fun l => three l fun y i j => (strOf y).bind fun y => (asI i).bind fun i => (asI j).map fun j => .int (findL x y i j)
noncomputable def joinDD (x y : D) : Option D := (strOf x).bind fun x => (asL y).bind fun l => oneO l fun l => joinD x l
noncomputable def negD (x : D) : Option D := (asI x).map fun i => .int (-i)
noncomputable def idxDD (x y : D) : Option D := (asI y).bind fun i => idxD x i
noncomputable def fitL (ds : List D) : Option (List D) := if fit ds then some ds else none
noncomputable def jsD (x : D) : Option D := (asL x).bind fun l => (strsD l).bind fun ss => if fit ss.flatten then some (.str ss.flatten) else none
noncomputable def fmtD (x : D) : Option D := (strOf x).bind fun l => if fit l then some (.str l) else none

noncomputable def isNo : CE → Bool
  | .no => true | _ => false
theorem isNo_e {c : CE} {P : CE → Prop} (h : isNo c = true) (hp : P .no) : P c := by
  cases c <;> first | exact hp | exact Bool.noConfusion h
noncomputable def partE (o : Option D) (e : CE) : Option (Option Int) := bif isNo e then some none else (o.bind asI).map some
noncomputable def condE (o : Option D) (e : CE) : Option Bool := bif isNo e then some true else asB o

noncomputable def ev (Φ : Nat → List D → Option D) : CE → List CB → Option D
  | .int i, _ => some (.int i)
  | .str l, _ => some (.str l)
  | .bool b, _ => some (ofB b)
  | .no, _ => none
  | .var k, V => gv V k
  | .neg a, V => (ev Φ a V).bind negD
  | .bin op a b, V => (ev Φ a V).bind fun x => (ev Φ b V).bind fun y => binD op x y
  | .cmp op a b, V => (ev Φ a V).bind fun x => (ev Φ b V).bind fun y => (cmpD op x y).map ofB
  | .chain o1 o2 a b c, V => (ev Φ a V).bind fun x => (ev Φ b V).bind fun y => (cmpD o1 x y).bind fun c1 => if c1 then (ev Φ c V).bind fun z => (cmpD o2 y z).map ofB else some (ofB false)
  | .idx a i, V => (ev Φ a V).bind fun x => (ev Φ i V).bind fun y => idxDD x y
  | .sl a lo hi, V => (ev Φ a V).bind fun x => (partE (ev Φ lo V) lo).bind fun l => (partE (ev Φ hi V) hi).bind fun h => sliceD x l h
  | .nil, _ => some (.lst [])
  | .cons a r, V => (ev Φ a V).bind fun x => (ev Φ r V).bind fun y => (asL y).map fun l => .lst (x :: l)
  | .tup l, V => ((ev Φ l V).bind asL).bind fun l => (fitL l).map .tup
  | .lst l, V => ((ev Φ l V).bind asL).bind fun l => (fitL l).map .lst
  | .js l, V => (ev Φ l V).bind jsD
  | .fmt a, V => (ev Φ a V).bind fmtD
  | .ite t a b, V => (asB (ev Φ t V)).bind fun c => if c then ev Φ a V else ev Φ b V
  | .nt a, V => (asB (ev Φ a V)).map fun b => ofB !b
  | .an a b, V => (asB (ev Φ a V)).bind fun x => if x then (asB (ev Φ b V)).map ofB else some (ofB false)
  | .orr a b, V => (asB (ev Φ a V)).bind fun x => if x then some (ofB true) else (asB (ev Φ b V)).map ofB
  | .tv a, V => ((ev Φ a V).bind truthD).map ofB
  | .len a, V => (ev Φ a V).bind lenD
  | .anyc a, V => (ev Φ a V).bind anyD
  | .lrg a b, V => (ev Φ a V).bind fun x => (ev Φ b V).bind fun y => lrD x y
  | .repl a y z, V => (ev Φ a V).bind (replD y z)
  | .find a l, V => (ev Φ a V).bind fun x => (ev Φ l V).bind fun y => findD x y
  | .join a l, V => (ev Φ a V).bind fun x => (ev Φ l V).bind fun y => joinDD x y
  | .cal j l, V => ((ev Φ l V).bind asL).bind (Φ j)
  | .comp g it el co, V => (ev Φ it V).bind fun d => (itemsD d).bind fun ds => (fitL ds).bind fun ds =>
      (compL (fun d => (bindG g d (V.map CB.pure)).bind fun V' => (condE (ev Φ co V') co).bind fun b => if b then (ev Φ el V').map some else some none) ds).map .lst
  | .midx k i, V => (gm V k).bind fun l => (ev Φ i V).bind fun y => (asI y).bind fun i => pick l i
  | .mtv k, V => (gm V k).bind fun l => (fitL l).map fun l => ofB !l.isEmpty
  | .mlen k, V => (gm V k).bind fun l => (fitL l).map fun l => .int l.length
  | .stuck, _ => none

inductive CS where
  | sk | sq (a r : CS) | gh (f : CS) (r : CS)
  | set (k : Nat) (e : CE) | setc (k : Nat) (e : CE) | sett (ks : List Nat) (e : CE) | set2 (j k : Nat) (e : CE) | newl (k : Nat) (l : CE)
  | app (k : Nat) (e : CE) | adda (k y : Nat) | addc (k y : Nat) (e : CE) | aug (k : Nat) (e : CE) | augl (k : Nat) (q : List Nat)
  | ifs (t : CE) (a b : CS) | whl (t : CE) (a : CS) | fr (g : CG) (it : CE) (a : CS) | fre (k : Nat) (ks : List Nat) (it : CE) (a : CS) | frd (k : Nat) (it : CE) (a : CS)
  | ret (e : CE) | brk | asr (t : CE) | frz (k : Nat) | drop (k : Nat) | hook (j : Nat) | stuck

noncomputable def flB {α : Type} (n : α) (b : α) (r : D → α) : Fl → α
  | .next => n
  | .brk => b
  | .ret d => r d
/-- on to the next statement, and to the next turn -/
noncomputable def thn (o : Option (Fl × List CB)) (k : List CB → Option (Fl × List CB)) : Option (Fl × List CB) := o.bind fun p => flB (k p.2) (some p) (fun _ => some p) p.1
noncomputable def lp (o : Option (Fl × List CB)) (k : List CB → Option (Fl × List CB)) : Option (Fl × List CB) := o.bind fun p => flB (k p.2) (some (.next, p.2)) (fun _ => some p) p.1
noncomputable def wh (t : List CB → Option Bool) (b : List CB → Option (Fl × List CB)) : Nat → List CB → Option (Fl × List CB)
  | 0, _ => none
  | n + 1, V => (t V).bind fun c => bif c then lp (b V) (wh t b n) else some (.next, V)
noncomputable def fo (bd : D → List CB → Option (List CB)) (b : List CB → Option (Fl × List CB)) : List D → List CB → Option (Fl × List CB)
  | [], V => some (.next, V)
  | d :: r, V => (bd d V).bind fun V' => lp (b V') (fo bd b r)
noncomputable def goNext (o : Option (List CB)) : Option (Fl × List CB) := o.map fun V => (.next, V)
noncomputable def two2 {α : Type} (l : List D) (k : D → D → Option α) : Option α := match l with
  | [a, b] => k a b
  | _ => none
noncomputable def bindE (k : Nat) (ks : List Nat) (d : D) (V : List CB) : Option (List CB) :=
  (asT d).bind fun l => two2 l fun a b => (asT b).bind fun ds => (setV V k (.val a)).bind fun V' => setsV ks ds V'
noncomputable def downD (d : D) : Option (List D) := (asI d).bind fun a => if -1 ≤ a ∧ a ≤ 16777216 then some (rngD a a.toNat) else none

noncomputable def ex (Φ : Nat → List D → Option D) (H : Nat → List CB → Option (List CB)) (F : Nat) : CS → List CB → Option (Fl × List CB)
  | .sk, V => some (.next, V)
  | .sq a r, V => thn (ex Φ H F a V) fun V' => ex Φ H F r V'
  | .gh a r, V => thn (ex Φ H F a V) fun V' => ex Φ H F r V'
  | .set k e, V => goNext ((ev Φ e V).bind fun d => setV V k (.val d))
  | .setc k e, V => goNext ((ev Φ e V).bind fun d => setV V k (.val d))
  | .sett ks e, V => goNext ((ev Φ e V).bind fun d => bindG (.tp ks) d V)
  | .set2 j k e, V => goNext ((ev Φ e V).bind fun d => (asT d).bind fun l => two2 l fun a b => if noApp V j then (setV V k (.val b)).bind fun V' => setV V' j (.val a) else none)
  | .newl k l, V => goNext (((ev Φ l V).bind asL).bind fun l => (fitL l).bind fun l => setV V k (.mu l))
  | .app k e, V => goNext ((gm V k).bind fun l => (fitL l).bind fun l => (ev Φ e V).map fun d => V.set k (.mu (l ++ [d])))
  | .adda k y, V => goNext ((gm V y).bind fun _ => setV V k (.app y))
  | .addc k y e, V => goNext ((ga V k).bind fun y' => if y' = y then (gm V y).bind fun l => (fitL l).bind fun l => (ev Φ e V).map fun d => V.set y (.mu (l ++ [d])) else none)
  | .aug k e, V => goNext ((gv V k).bind fun d => (asI d).bind fun i => (ev Φ e V).bind fun d2 => (asI d2).bind fun j => setV V k (.val (.int (i + j))))
  | .augl k q, V => goNext ((gm V k).bind fun l => (l.getLast?.bind strOf).bind fun p => if p.length + q.length ≤ 16777216 then some (V.set k (.mu (l.set (l.length - 1) (.str (p ++ q))))) else none)
  | .ifs t a b, V => (asB (ev Φ t V)).bind fun c => if c then ex Φ H F a V else ex Φ H F b V
  | .whl t a, V => wh (fun V => asB (ev Φ t V)) (fun V => ex Φ H F a V) F V
  | .fr g it a, V => (ev Φ it V).bind fun d => (itemsD d).bind fun ds => fo (bindG g) (fun V => ex Φ H F a V) ds V
  | .fre k ks it a, V => ((ev Φ it V).bind asL).bind fun ds => fo (bindE k ks) (fun V => ex Φ H F a V) (enumD 0 ds) V
  | .frd k it a, V => ((ev Φ it V).bind downD).bind fun ds => fo (bindG (.nm k)) (fun V => ex Φ H F a V) ds V
  | .ret e, V => (ev Φ e V).map fun d => (.ret d, V)
  | .brk, V => some (.brk, V)
  | .asr t, V => (asB (ev Φ t V)).bind fun c => if c then some (.next, V) else none
  | .frz k, V => goNext ((gm V k).bind fun l => if noApp V k then some (V.set k (.val (.lst l))) else none)
  | .drop k, V => goNext ((ga V k).map fun _ => V.set k .none)
  | .hook j, V => goNext (H j V)
  | .stuck, _ => none
end Mine
end TE1
section TE2
open PySem PySem.W PyProof.Rows PySem.Calls
namespace Mine

/-! names -/
noncomputable def cvB (N : List Str) : CB → B
  | .none => .none
  | .val d => .val d
  | .mu ds => .mu ds
  | .app k => .app ((N[k]?).getD (Str.ofString ""))
noncomputable def stN (N : List Str) (V : List CB) : St := fun x => match (N.zip V).lookup x with | some b => cvB N b | none => .none

theorem zip_get {α : Type} : ∀ {N : List Str} {V : List α} {k : Nat} {x : Str} {b : α}, N.Nodup → N[k]? = some x → V[k]? = some b → (N.zip V).lookup x = some b
  | [], _, k, x, b, _, h, _ => by simp at h
  | n :: N, [], k, x, b, _, _, h => by simp at h
  | n :: N, v :: V, 0, x, b, hn, h1, h2 => by
    simp at h1 h2
    subst h1 h2
    simp
  | n :: N, v :: V, k + 1, x, b, hn, h1, h2 => by
    rw [List.nodup_cons] at hn
    simp at h1 h2
    rw [List.zip_cons_cons, List.lookup_cons]
    have : (x == n) = false := by
      rw [beq_eq_false_iff_ne]
      rintro rfl
      exact hn.1 (List.mem_of_getElem? h1)
    rw [this]
    exact zip_get hn.2 h1 h2
theorem zip_at {α : Type} : ∀ {N : List Str} {V : List α} {x : Str} {b : α}, (N.zip V).lookup x = some b → ∃ k : Nat, N[k]? = some x ∧ V[k]? = some b
  | [], _, x, b, h => by simp at h
  | n :: N, [], x, b, h => by simp at h
  | n :: N, v :: V, x, b, h => by
    rw [List.zip_cons_cons, List.lookup_cons] at h
    split at h
    · rename_i q
      cases h
      exact ⟨0, by simpa using (show n = x from (by simpa using q : x = n).symm), by simp⟩
    · obtain ⟨k, h1, h2⟩ := zip_at h
      exact ⟨k + 1, by simpa using h1, by simpa using h2⟩
theorem st_at {N : List Str} {V : List CB} {k : Nat} {x : Str} {b : CB} (hn : N.Nodup) (h1 : N[k]? = some x) (h2 : V[k]? = some b) : stN N V x = cvB N b := by
  unfold stN
  rw [zip_get hn h1 h2]
theorem st_at' {N : List Str} {V : List CB} {x : Str} (h : stN N V x ≠ .none) : ∃ (k : Nat) (b : CB), N[k]? = some x ∧ V[k]? = some b ∧ stN N V x = cvB N b := by
  unfold stN at h ⊢
  split at h
  · rename_i b e
    obtain ⟨k, h1, h2⟩ := zip_at e
    exact ⟨k, b, h1, h2, rfl⟩
  · exact absurd rfl h
theorem st_set {N : List Str} {V : List CB} {k : Nat} {x : Str} {b : CB} (hn : N.Nodup) (h1 : N[k]? = some x) (hl : V.length = N.length) : stN N (V.set k b) = upS (stN N V) x (cvB N b) := by
  have hk : k < N.length := (List.getElem?_eq_some_iff.mp h1).1
  have hkV : k < V.length := by lia
  funext y
  unfold upS
  split
  · rename_i e
    subst e
    exact st_at hn h1 (by simp [hkV])
  · rename_i e
    unfold stN
    have : (N.zip (V.set k b)).lookup y = (N.zip V).lookup y := by
      cases q : (N.zip V).lookup y with
      | some c =>
        obtain ⟨j, h3, h4⟩ := zip_at q
        refine zip_get hn h3 ?_
        rw [List.getElem?_set_ne]
        · exact h4
        · rintro rfl
          rw [h1] at h3; exact e (Option.some.inj h3).symm
      | none =>
        cases q' : (N.zip (V.set k b)).lookup y with
        | none => rfl
        | some c =>
          obtain ⟨j, h3, h4⟩ := zip_at q'
          rw [List.getElem?_set_ne (by rintro rfl; rw [h1] at h3; exact e (Option.some.inj h3).symm)] at h4
          rw [zip_get hn h3 h4] at q; cases q
    rw [this]
theorem st_pure {N : List Str} {V : List CB} {x : Str} {d : D} (h : stN N (V.map CB.pure) x = .val d) : stN N V x = .val d := by
  obtain ⟨k, b, h1, h2, h3⟩ := st_at' (N := N) (V := V.map CB.pure) (x := x) (by rw [h]; simp)
  rw [h3] at h
  unfold stN at h3 ⊢
  rw [List.getElem?_map] at h2
  cases q : V[k]? with
  | none => rw [q] at h2; simp at h2
  | some c =>
    rw [q] at h2
    simp at h2
    subst h2
    have hz : ∀ {N : List Str} {V : List CB}, (N.zip (V.map CB.pure)).lookup x = ((N.zip V).lookup x).map CB.pure := by
      intro N
      induction N with
      | nil => intro V; rfl
      | cons n N ih =>
        intro V
        cases V with
        | nil => rfl
        | cons v V =>
          rw [List.map_cons, List.zip_cons_cons, List.zip_cons_cons, List.lookup_cons, List.lookup_cons]
          split
          · rfl
          · exact ih
    rw [hz] at h3
    cases w : (N.zip V).lookup x with
    | none => rw [w] at h3; simp at h3; rw [h] at h3; cases h3
    | some e =>
      rw [w] at h3
      simp at h3
      rw [h] at h3
      cases e <;> simp [CB.pure, cvB] at h3
      rw [h3]; rfl
theorem cbV_i {c : CB} {d : D} (h : cbV c = some d) : c = .val d := by
  cases c <;> first | exact congrArg CB.val (Option.some.inj h) | exact no_some h
theorem cbM_i {c : CB} {d : List D} (h : cbM c = some d) : c = .mu d := by
  cases c <;> first | exact congrArg CB.mu (Option.some.inj h) | exact no_some h
theorem cbA_i {c : CB} {d : Nat} (h : cbA c = some d) : c = .app d := by
  cases c <;> first | exact congrArg CB.app (Option.some.inj h) | exact no_some h
theorem gv_some {V : List CB} {k : Nat} {d : D} (h : gv V k = some d) : V[k]? = some (.val d) :=
  let ⟨_, h1, h2⟩ := Option.bind_eq_some_iff.mp h
  h1.trans (congrArg some (cbV_i h2))
theorem gm_some {V : List CB} {k : Nat} {d : List D} (h : gm V k = some d) : V[k]? = some (.mu d) :=
  let ⟨_, h1, h2⟩ := Option.bind_eq_some_iff.mp h
  h1.trans (congrArg some (cbM_i h2))
theorem ga_some {V : List CB} {k : Nat} {d : Nat} (h : ga V k = some d) : V[k]? = some (.app d) :=
  let ⟨_, h1, h2⟩ := Option.bind_eq_some_iff.mp h
  h1.trans (congrArg some (cbA_i h2))
theorem noApp_st {N : List Str} {V : List CB} {k : Nat} {x : Str} (hn : N.Nodup) (h1 : N[k]? = some x) (hx : x ≠ Str.ofString "") (h : noApp V k = true) (y : Str) : stN N V y ≠ .app x := fun e => by
  obtain ⟨j, b, h3, h4, h5⟩ := st_at' (N := N) (V := V) (x := y) (by rw [e]; simp)
  rw [h5] at e
  cases b <;> simp [cvB] at e
  rename_i i
  have hi := List.all_eq_true.mp h _ (List.mem_of_getElem? h4)
  have hne : i ≠ k := by simpa using hi
  cases q : N[i]? with
  | none => rw [q] at e; exact hx e.symm
  | some z =>
    rw [q] at e
    simp at e
    subst e
    have hlt := (List.getElem?_eq_some_iff.mp q).1
    exact hne ((List.getElem?_inj hlt hn).mp (by rw [q, h1]))
end Mine
end TE2
section TE3
open PySem PySem.W PyProof.Rows PySem.Calls
namespace Mine

noncomputable abbrev NmL := List (Str × NameKind)
noncomputable def vk (nm : NmL) (x : Str) : Bool := decide (nm.lookup x = some .local ∨ nm.lookup x = some .cell ∨ nm.lookup x = some .free)
noncomputable def vc (nm : NmL) (x : Str) : Bool := decide (nm.lookup x = some .cell ∨ nm.lookup x = some .free)
noncomputable def tk (nm : NmL) (x : Str) : Bool := decide (nm.lookup x = some .local ∨ nm.lookup x = some .cell)
noncomputable def gk (nm : NmL) (x : Str) : Bool := decide (nm.lookup x = some .globalImplicit)
noncomputable def nok (x : Str) : Bool := !(x == ("__debug__" : Str)) && !(x == ("__classdict__" : Str))
noncomputable def nmIs (N : List Str) (k : Nat) (x : Str) : Bool := decide (N[k]? = some x)
noncomputable def relN (nm : NmL) (p : Str × NameKind) : Str × NameKind := if p.2 == .free && nm.lookup p.1 == some .cell then (p.1, .cell) else p
noncomputable def plainSl : Expr → Bool
  | .Name .. => true | .BinOp .. => true | .Constant .. => true | .UnaryOp .. => true | _ => false
noncomputable def plainTest : Expr → Bool
  | .Name .. => true | .Call .. => true | .Subscript .. => true | .Constant .. => true | _ => false
noncomputable def isName : Expr → Bool
  | .Name .. => true | _ => false
noncomputable def notSet : Expr → Bool
  | .Set .. => false | _ => true
theorem subs_plain {e : Expr} (h : plainSl e = true) (o x : Value) : subscripted e false o x = operate [o, x] (getItem o x) := by
  cases e <;> first | rfl | cases h
theorem test_plain {e : Expr} {env : Env} (h : plainTest e = true) : isTrue e env (eval e env) = (do let v ← eval e env; standAt e.pos; holding [v] (truthy v)) := by
  cases e <;> first | rfl | cases h
theorem temp_name {e : Expr} (h : isName e = true) (o r : Value) : letTemporaryGo e o r = pure () := by
  cases e <;> first | rfl | cases h
theorem folded_not {e : Expr} {env : Env} (h : notSet e = true) (x : Value) : foldedSetIterable e env x = pure x := by
  cases e <;> first | rfl | cases h
theorem call_name {f : Str} {p pos : Pos} {e : Expr} {r : List Expr} {env : Env} : eval (.Call (.Name f p) (e :: r) [] pos) env = (do callWith pos (← eval (.Name f p) env) [] (backTo pos (starEach (e :: r) env)) (backToKw pos (keywordEach [] env))) := rfl

inductive Sx where
  | e (x : Expr) | t (x : Expr) | l (xs : List Expr)
noncomputable def isTs (N : List Str) (sn : NmL) : List Nat → List Expr → Bool
  | [], es => on0 es true
  | k :: ks, es => onC es fun e r => xName e fun x _ => nmIs N k x && tk sn x && isTs N sn ks r
noncomputable def isG (N : List Str) (sn : NmL) : CG → Expr → Bool
  | .nm k, e => xName e fun x _ => nmIs N k x && tk sn x
  | .tp ks, e => xTuple e fun es _ _ => isTs N sn ks es
noncomputable def tgKs : CG → List Nat
  | .nm k => [k] | .tp ks => ks
noncomputable def scN (N : List Str) (nm : NmL) (g : CG) (p : Str × NameKind) : Bool := match p.2 with
    | .free => vc nm p.1
    | .local => (tgKs g).any (nmIs N · p.1) || !N.contains p.1
    | .cell => (tgKs g).any (nmIs N · p.1) || !N.contains p.1
    | _ => true
noncomputable def scopeOk (N : List Str) (nm sn : NmL) (g : CG) : Bool := decide ((sn.map (·.1)).Nodup) && sn.all (scN N nm g)

noncomputable def onE (s : Sx) (k : Expr → Bool) : Bool := match s with | .e x => k x | _ => false
theorem onE_i {s : Sx} {k : Expr → Bool} (h : onE s k = true) : ∃ x, s = .e x ∧ k x = true := by
  cases s <;> first | exact ⟨_, rfl, h⟩ | cases h
theorem onE_e {s : Sx} {k : Expr → Bool} {P : Sx → Prop} (h : onE s k = true) (hp : ∀ x, k x = true → P (.e x)) : P s := by
  obtain ⟨x, rfl, h⟩ := onE_i h
  exact hp x h
noncomputable def onT (s : Sx) (k : Expr → Bool) : Bool := match s with | .t x => k x | _ => false
theorem onT_i {s : Sx} {k : Expr → Bool} (h : onT s k = true) : ∃ x, s = .t x ∧ k x = true := by
  cases s <;> first | exact ⟨_, rfl, h⟩ | cases h
theorem onT_e {s : Sx} {k : Expr → Bool} {P : Sx → Prop} (h : onT s k = true) (hp : ∀ x, k x = true → P (.t x)) : P s := by
  obtain ⟨x, rfl, h⟩ := onT_i h
  exact hp x h
noncomputable def onL (s : Sx) (k : List Expr → Bool) : Bool := match s with | .l x => k x | _ => false
theorem onL_i {s : Sx} {k : List Expr → Bool} (h : onL s k = true) : ∃ x, s = .l x ∧ k x = true := by
  cases s <;> first | exact ⟨_, rfl, h⟩ | cases h
theorem onL_e {s : Sx} {k : List Expr → Bool} {P : Sx → Prop} (h : onL s k = true) (hp : ∀ x, k x = true → P (.l x)) : P s := by
  obtain ⟨x, rfl, h⟩ := onL_i h
  exact hp x h
noncomputable def isX (N : List Str) (FN : Nat → Option Str) : CE → NmL → Sx → Bool
  | .int i, nm, s => onE s fun y1 => xConstant y1 fun y2 y3 y4 => kInt y2 fun j => i == j
  | .str l, nm, s => onE s fun y1 => xConstant y1 fun y2 y3 y4 => kStr y2 fun x => x.cps.toList == l
  | .bool b, nm, s => onE s fun y1 => xConstant y1 fun y2 y3 y4 => kBool y2 fun c => b == c
  | .no, _, _ => false
  | .var k, nm, s => onE s fun y1 => xName y1 fun x y2 => nmIs N k x && vk nm x && nok x
  | .neg a, nm, s => onE s fun y1 => xUnaryOp y1 fun y2 x y3 => onEq y2 .USub (isX N FN a nm (.e x))
  | .bin op a b, nm, s => onE s fun y1 => xBinOp y1 fun l o r y2 => decide (op = o) && isX N FN a nm (.e l) && isX N FN b nm (.e r)
  | .cmp op a b, nm, s => match s with
    | .e e => xCompare e fun l os rs _ => on1 os fun o => on1 rs fun r => decide (op = o) && isX N FN a nm (.e l) && isX N FN b nm (.e r) && !behindInMarks op r
    | .t e => xCompare e fun l os rs _ => on1 os fun o => on1 rs fun r => decide (op = o) && isX N FN a nm (.e l) && isX N FN b nm (.e r) && !behindInMarks op r
    | .l _ => false
  | .chain o1 o2 a b c, nm, s => onE s fun y1 => xCompare y1 fun l y2 y3 y4 => on2 y2 fun p1 p2 => on2 y3 fun r1 r2 => decide (o1 = p1) && decide (o2 = p2) && isX N FN a nm (.e l) && isX N FN b nm (.e r1) && isX N FN c nm (.e r2) && !behindInMarks o2 r2
  | .idx a i, nm, s => onE s fun y1 => xSubscript y1 fun v s y2 => isX N FN a nm (.e v) && isX N FN i nm (.e s) && plainSl s
  | .sl a lo hi, nm, s => onE s fun y1 => xSubscript y1 fun v y2 y3 => xSlice y2 fun l u y4 y5 => onNo y4 (isX N FN a nm (.e v) && (match l with | none => isNo lo | some x => isX N FN lo nm (.e x)) && (match u with | none => isNo hi | some x => isX N FN hi nm (.e x)) && isName v)
  | .nil, nm, s => onL s fun y1 => on0 y1 (true)
  | .cons a r, nm, s => onL s fun y1 => onC y1 fun x xs => notStar x && isX N FN a nm (.e x) && isX N FN r nm (.l xs)
  | .tup l, nm, s => onE s fun y1 => xTuple y1 fun es y2 y3 => isX N FN l nm (.l es)
  | .lst l, nm, s => onE s fun y1 => xList y1 fun es y2 => isX N FN l nm (.l es)
  | .js l, nm, s => onE s fun y1 => xJoinedStr y1 fun y2 y3 => onC y2 fun v1 y4 => onC y4 fun v2 r => isX N FN l nm (.l (v1 :: v2 :: r))
  | .fmt a, nm, s => onE s fun y1 => xFormattedValue y1 fun v y2 y3 y4 => onZ y2 (-1) (onNo y3 (isX N FN a nm (.e v)))
  | .ite t a b, nm, s => onE s fun y1 => xIfExp y1 fun tt x y y2 => isX N FN t nm (.t tt) && isX N FN a nm (.e x) && isX N FN b nm (.e y)
  | .nt a, nm, s => onT s fun y1 => xUnaryOp y1 fun y2 x y3 => onEq y2 .Not (isX N FN a nm (.t x))
  | .an a b, nm, s => onT s fun y1 => xBoolOp y1 fun y2 y3 y4 => onEq y2 .And (on2 y3 fun x y => isX N FN a nm (.t x) && isX N FN b nm (.t y))
  | .orr a b, nm, s => onT s fun y1 => xBoolOp y1 fun y2 y3 y4 => onEq y2 .Or (on2 y3 fun x y => isX N FN a nm (.t x) && isX N FN b nm (.t y))
  | .tv a, nm, s => onT s fun x => isX N FN a nm (.e x) && plainTest x
  | .len a, nm, s => onE s fun y1 => xCall y1 fun y2 y3 y4 y5 => xName y2 fun f y6 => on1 y3 fun x => on0 y4 (f == ("len" : Str) && gk nm f && notStar x && isX N FN a nm (.e x))
  | .anyc a, nm, s => onE s fun y1 => xCall y1 fun y2 y3 y4 y5 => xName y2 fun f y6 => on1 y3 fun x => on0 y4 (f == ("any" : Str) && gk nm f && notStar x && isX N FN a nm (.e x))
  | .lrg a b, nm, s => onE s fun y1 => xCall y1 fun y2 y3 y4 y5 => xName y2 fun f y6 => on1 y3 fun y7 => xCall y7 fun y8 y9 y10 y11 => xName y8 fun g y12 => on2 y9 fun x y => on0 y10 (on0 y4 (f == ("list" : Str) && gk nm f && g == ("range" : Str) && gk nm g && notStar x && notStar y && isX N FN a nm (.e x) && isX N FN b nm (.e y)))
  | .repl a y z, nm, s => onE s fun y1 => xCall y1 fun y2 y3 y4 pos => xAttribute y2 fun o m ap => on2 y3 fun y5 y6 => xConstant y5 fun y7 y8 y9 => kStr y7 fun y' => xConstant y6 fun y10 y11 y12 => kStr y10 fun z' => on0 y4 (m == ("replace" : Str) && plainBase o && (ap.endLine == pos.line) && y'.cps.toList == y && z'.cps.toList == z && isX N FN a nm (.e o))
  | .find a l, nm, s => onE s fun y1 => xCall y1 fun y2 y3 y4 pos => xAttribute y2 fun o m ap => on3 y3 fun x y z => on0 y4 (m == ("find" : Str) && plainBase o && (ap.endLine == pos.line) && notStar x && notStar y && notStar z && isX N FN a nm (.e o) && isX N FN l nm (.l [x, y, z]))
  | .join a l, nm, s => onE s fun y1 => xCall y1 fun y2 y3 y4 pos => xAttribute y2 fun o m ap => on1 y3 fun x => on0 y4 (m == ("join" : Str) && plainBase o && (ap.endLine == pos.line) && notStar x && isX N FN a nm (.e o) && isX N FN l nm (.l [x]))
  | .cal j l, nm, s => onE s fun y1 => xCall y1 fun y2 y3 y4 y5 => xName y2 fun f y6 => onC y3 fun x xs => on0 y4 ((match FN j with | some g => f == g | none => false) && gk nm f && nok f && (x :: xs).all notStar && isX N FN l nm (.l (x :: xs)))
  | .comp g it el co, nm, s => onE s fun y1 => xListComp y1 fun elt y2 scope y3 => on1 y2 fun y4 => onComp y4 fun target iter ifs y5 => onZ y5 (0) (decide (scope.kind = .function) && scopeOk N nm scope.names g && isG N scope.names g target && notSet iter && isX N FN it nm (.e iter) &&
      (match ifs with | [] => isNo co | [c] => isX N FN co (scope.names.map (relN nm)) (.t c) | _ => false) && isX N FN el (scope.names.map (relN nm)) (.e elt))
  | .midx k i, nm, s => onE s fun y1 => xSubscript y1 fun y2 s y3 => xName y2 fun x y4 => nmIs N k x && vk nm x && nok x && isX N FN i nm (.e s) && plainSl s
  | .mtv k, nm, s => onT s fun y1 => xName y1 fun x y2 => nmIs N k x && vk nm x && nok x
  | .mlen k, nm, s => onE s fun y1 => xCall y1 fun y2 y3 y4 y5 => xName y2 fun f y6 => on1 y3 fun y7 => xName y7 fun x y8 => on0 y4 (f == ("len" : Str) && gk nm f && nmIs N k x && vk nm x && nok x)
  | .stuck, _, _ => true

/-- the built-ins and defs that the trees name -/
structure Tops (C : Cx) (Φ : Nat → List D → Option D) (FN : Nat → Option Str) (lv : Nat) : Prop where
  len : C.mg "len" = none ∧ C.mb "len" = some (.builtin "len")
  any : C.mg "any" = none ∧ C.mb "any" = some (.builtin "any")
  list : C.mg "list" = none ∧ C.mb "list" = some (.type "list")
  range : C.mg "range" = none ∧ C.mb "range" = some (.type "range")
  enum : C.mg "enumerate" = none ∧ C.mb "enumerate" = some (.type "enumerate")
  defs : ∀ j x, FN j = some x → ∃ a o fd, C.mg x = some (.ref a) ∧ C.hb.get? a = some o ∧ a ∉ C.T ∧ o.data = .func fd ∧
    ∀ A σ G s ds vs d, OkA lv A → Φ j ds = some d → Go C G s → RL G σ ds vs → EvE C A (call (.ref a) vs) G σ d s

section
variable (C : Cx) (Φ : Nat → List D → Option D) (N : List Str) (FN : Nat → Option Str) (A : Around) (σ : Addr)
/-- what a core tree's value says of a tree of the model -/
noncomputable def Snd (e : CE) (V : List CB) (env : Env) : Sx → Prop
  | .e x => ∀ d, ev Φ e V = some d → ∀ G₀ s₀ M G s, Sok C s₀ → AtM C env G₀ s₀ (stN N V) G σ M s → EvE C A (eval x env) G σ d s
  | .t x => ∀ b, ev Φ e V = some (ofB b) → ∀ G₀ s₀ M G s, Sok C s₀ → AtM C env G₀ s₀ (stN N V) G σ M s → EvB C A (isTrue x env (eval x env)) G b s
  | .l xs => ∀ ds, ev Φ e V = some (.lst ds) → ∀ G₀ s₀ M G s, Sok C s₀ → AtM C env G₀ s₀ (stN N V) G σ M s →
      (∀ pos, EvL C A (spliced (backTo pos (starEach xs env))) G σ ds s) ∧ (∀ ls, strsD ds = some ls → EvJ C A (evalEach xs env) G ls.flatten s)
end
end Mine
end TE3
section TE4
open PySem PySem.W PyProof.Rows PySem.Calls
namespace Mine

theorem nm_of {N : List Str} {k : Nat} {x : Str} (h : nmIs N k x = true) : N[k]? = some x := bx h
theorem vis_of {nm : NmL} {env : Env} (hnm : env.scope.names = nm) {x : Str} (h : vk nm x = true) : vis env x := by
  unfold vis Env.kindOf
  rw [hnm]
  exact bx h
theorem glob_of {nm : NmL} {env : Env} (hnm : env.scope.names = nm) {x : Str} (h : gk nm x = true) : env.kindOf x = some .globalImplicit := by
  unfold Env.kindOf
  rw [hnm]
  exact bx h
theorem nok_of {x : Str} (h : nok x = true) : (x == ("__debug__" : Str)) = false ∧ (x == ("__classdict__" : Str)) = false := by
  unfold nok at h
  simpa using h
theorem asB_some {o : Option D} {b : Bool} (h : asB o = some b) : o = some (ofB b) := by
  obtain ⟨d, rfl, h⟩ := Option.bind_eq_some_iff.mp h
  exact congrArg some (rawB_i h)
theorem fitL_some {l m : List D} (h : fitL l = some m) : l = m ∧ fit l = true :=
  have z := ite_some h
  ⟨Option.some.inj z.2, z.1⟩
theorem two2_e {α : Type} {l : List D} {k : D → D → Option α} {r : α} {P : List D → Prop} (h : two2 l k = some r) (hp : ∀ a b, k a b = some r → P [a, b]) : P l := by
  cases l with
  | nil => exact no_some h
  | cons a l => cases l with
    | nil => exact no_some h
    | cons b l => cases l with
      | nil => exact hp a b h
      | cons _ _ => exact no_some h
theorem three_e {α : Type} {l : List D} {k : D → D → D → Option α} {r : α} {P : List D → Prop} (h : three l k = some r) (hp : ∀ a b c, k a b c = some r → P [a, b, c]) : P l := by
  cases l with
  | nil => exact no_some h
  | cons a l => exact two2_e (k := k a) (P := fun l => P (a :: l)) (by cases l with | nil => exact h | cons b l => cases l with | nil => exact h | cons c l => cases l with | nil => exact h | cons _ _ => exact h) (fun b c => hp a b c)
theorem thn_e {o : Option (Fl × List CB)} {k : List CB → Option (Fl × List CB)} {f : Fl} {V' : List CB} {P : Prop} (h : thn o k = some (f, V')) (h1 : ∀ W, o = some (.next, W) → k W = some (f, V') → P) (h2 : o = some (f, V') → f ≠ .next → P) : P := by
  obtain ⟨⟨g, W⟩, e1, e2⟩ := bs h
  have ne : g ≠ .next → some (g, W) = some (f, V') → P := fun q e => h2 (e1.trans e) fun z => q ((congrArg Prod.fst (Option.some.inj e)).trans z)
  cases g with
  | next => exact h1 W e1 e2
  | brk => exact ne nofun e2
  | ret d => exact ne nofun e2
theorem lp_e {o : Option (Fl × List CB)} {k : List CB → Option (Fl × List CB)} {p : Fl × List CB} {P : Fl × List CB → Prop} (h : lp o k = some p) (h1 : ∀ W, o = some (.next, W) → k W = some p → P p) (h2 : ∀ W, o = some (.brk, W) → P (.next, W)) (h3 : ∀ d W, o = some (.ret d, W) → P (.ret d, W)) : P p := by
  obtain ⟨⟨g, W⟩, e1, e2⟩ := bs h
  cases g with
  | next => exact h1 W e1 e2
  | brk => exact Option.some.inj e2 ▸ h2 W e1
  | ret d => exact Option.some.inj e2 ▸ h3 d W e1
theorem ofB_inj {a b : Bool} (h : ofB a = ofB b) : a = b := by cases h; rfl

section
variable {C : Cx} (ok : C.Ok) {Φ : Nat → List D → Option D} {N : List Str} {FN : Nat → Option Str} {A : Around} {σ : Addr} {lv : Nat} (tops : Tops C Φ FN lv) (hA : OkA lv A) (hN : N.Nodup) (hN0 : Str.ofString "" ∉ N)
include ok tops hA hN hN0

/-- the claim for one tree -/
noncomputable def Sound (C : Cx) (Φ : Nat → List D → Option D) (N : List Str) (FN : Nat → Option Str) (A : Around) (σ : Addr) (e : CE) : Prop :=
  ∀ nm sx, isX N FN e nm sx = true → ∀ env V, env.scope.names = nm → EnvOk C env → V.length = N.length → Snd C Φ N A σ e V env sx

theorem so_int {i : Int} : Sound C Φ N FN A σ (.int i) := fun nm sx h env V hnm eo hV => by
  apply onE_e h; clear h; intro y1 h
  apply xConstant_e h; clear h; intro y2 y3 y4 h
  apply kInt_e h; clear h; intro j h
  · intro d e G₀ s₀ M G s k₀ a
    cases e
    rw [beq_iff_eq.mp h]
    exact e_int ok a.at0.st.go
theorem so_str {l : List Nat} : Sound C Φ N FN A σ (.str l) := fun nm sx h env V hnm eo hV => by
  apply onE_e h; clear h; intro y1 h
  apply xConstant_e h; clear h; intro y2 y3 y4 h
  apply kStr_e h; clear h; intro x h
  · intro d e G₀ s₀ M G s k₀ a
    cases e
    rw [← beq_iff_eq.mp h]
    exact e_str ok a.at0.st.go
theorem so_bool {b : Bool} : Sound C Φ N FN A σ (.bool b) := fun nm sx h env V hnm eo hV => by
  apply onE_e h; clear h; intro y1 h
  apply xConstant_e h; clear h; intro y2 y3 y4 h
  apply kBool_e h; clear h; intro c h
  · intro d e G₀ s₀ M G s k₀ a
    cases e
    rw [beq_iff_eq.mp h]
    exact e_bool ok a.at0.st.go
theorem so_no : Sound C Φ N FN A σ .no := fun nm sx h env V hnm eo hV => by
  exact Bool.noConfusion (show false = true from h)
theorem so_nil : Sound C Φ N FN A σ .nil := fun nm sx h env V hnm eo hV => by
  apply onL_e h; clear h; intro y1 h
  apply on0_e h; clear h; intro h
  · intro d e G₀ s₀ M G s k₀ a
    cases e
    refine ⟨fun pos => l_nil ok a.at0.st.go, fun ls e => ?_⟩
    cases e
    exact j_nil ok a.at0.st.go
theorem so_var {k : Nat} : Sound C Φ N FN A σ (.var k) := fun nm sx h env V hnm eo hV => by
  apply onE_e h; clear h; intro y1 h
  apply xName_e h; clear h; intro x y2 h
  · apply and3_e h; clear h; intro h1 h2 h3
    intro d e G₀ s₀ M G s k₀ a
    have h1 := nm_of h1
    have e' := gv_some e
    obtain ⟨v, l, r⟩ := a.at0.rd _ d (by unfold vals; rw [st_at hN h1 e']; rfl) (vis_of hnm h2)
    exact e_var eo a.at0.st.go l r (nok_of h3).1 (nok_of h3).2
theorem so_neg {a : CE} (ia : Sound C Φ N FN A σ a) : Sound C Φ N FN A σ (.neg a) := fun nm sx h env V hnm eo hV => by
  apply onE_e h; clear h; intro y1 h
  apply xUnaryOp_e h; clear h; intro y2 x y3 h
  apply onEq_e h; clear h; intro h
  · intro d e G₀ s₀ M G s k₀ at'
    apply bs_e e; intro x e1 e2
    apply ms_e e2; clear e2; intro i q e2
    rw [asI_some q] at e1
    rw [← e2]
    exact e_neg ok (ia _ _ h env V hnm eo hV _ e1 _ _ _ _ _ k₀ at')
theorem so_bin {op : Operator} {a b : CE} (ia : Sound C Φ N FN A σ a) (ib : Sound C Φ N FN A σ b) : Sound C Φ N FN A σ (.bin op a b) := fun nm sx h env V hnm eo hV => by
  apply onE_e h; clear h; intro y1 h
  apply xBinOp_e h; clear h; intro l o r y2 h
  · apply and3_e h; clear h; intro h1 h2 h3
    have := bx h1
    subst this
    intro d e G₀ s₀ M G s k₀ at'
    apply bs_e e; intro x e1 e2
    apply bs_e e2; intro y e3 e4
    exact e_bin ok (ia _ _ h2 env V hnm eo hV _ e1 _ _ _ _ _ k₀ at') (fun G' s' S' => ib _ _ h3 env V hnm eo hV _ e3 _ _ _ _ _ k₀ (at'.step ok eo S')) e4
theorem so_cmp {op : CmpOp} {a b : CE} (ia : Sound C Φ N FN A σ a) (ib : Sound C Φ N FN A σ b) : Sound C Φ N FN A σ (.cmp op a b) := fun nm sx h env V hnm eo hV => by
  rcases sx with e | e | l
  · apply xCompare_e h; clear h; intro l0 os rs p0 h
    apply on1_e h; clear h; intro o h
    apply on1_e h; clear h; intro r0 h
    simp only [Bool.and_eq_true, Bool.not_eq_true'] at h
    obtain ⟨⟨⟨h1, h2⟩, h3⟩, h4⟩ := h
    have := bx h1
    subst this
    intro d e G₀ s₀ M G s k₀ at'
    apply bs_e e; intro x e1 e2
    apply bs_e e2; intro y e3 e4
    apply ms_e e4; intro c e5 e6
    subst e6
    exact e_cmp ok (ia _ _ h2 env V hnm eo hV _ e1 _ _ _ _ _ k₀ at') (fun G' s' S' => ib _ _ h3 env V hnm eo hV _ e3 _ _ _ _ _ k₀ (at'.step ok eo S')) e5 h4
  · apply xCompare_e h; clear h; intro l0 os rs p0 h
    apply on1_e h; clear h; intro o h
    apply on1_e h; clear h; intro r0 h
    simp only [Bool.and_eq_true, Bool.not_eq_true'] at h
    obtain ⟨⟨⟨h1, h2⟩, h3⟩, h4⟩ := h
    have := bx h1
    subst this
    intro d e G₀ s₀ M G s k₀ at'
    apply bs_e e; intro x e1 e2
    apply bs_e e2; intro y e3 e4
    apply ms_e e4; intro c e5 e6
    rw [← ofB_inj e6]
    exact t_cmp ok (ia _ _ h2 env V hnm eo hV _ e1 _ _ _ _ _ k₀ at') (fun G' s' S' => ib _ _ h3 env V hnm eo hV _ e3 _ _ _ _ _ k₀ (at'.step ok eo S')) e5 h4
  · cases h
theorem so_chain {o1 o2 : CmpOp} {a b c : CE} (ia : Sound C Φ N FN A σ a) (ib : Sound C Φ N FN A σ b) (ic : Sound C Φ N FN A σ c) : Sound C Φ N FN A σ (.chain o1 o2 a b c) := fun nm sx h env V hnm eo hV => by
  apply onE_e h; clear h; intro y1 h
  apply xCompare_e h; clear h; intro l y2 y3 y4 h
  apply on2_e h; clear h; intro p1 p2 h
  apply on2_e h; clear h; intro r1 r2 h
  · simp only [Bool.and_eq_true, Bool.not_eq_true'] at h
    obtain ⟨⟨⟨⟨⟨h1, h2⟩, h3⟩, h4⟩, h5⟩, h6⟩ := h
    have := bx h1
    subst this
    have := bx h2
    subst this
    intro d e G₀ s₀ M G s k₀ at'
    apply bs_e e; intro x e1 e2
    apply bs_e e2; intro y e3 e4
    apply bs_e e4; intro c1 e5 e6
    cases c1 with
    | false =>
      simp at e6
      subst e6
      exact e_chain2 ok (c := .star) (c2 := false) (ia _ _ h3 env V hnm eo hV _ e1 _ _ _ _ _ k₀ at') (fun G' s' S' => ib _ _ h4 env V hnm eo hV _ e3 _ _ _ _ _ k₀ (at'.step ok eo S')) e5 (fun q => nomatch q) (fun q => nomatch q) h6
    | true =>
      apply bs_e e6; intro z e7 e8
      apply ms_e e8; intro c2 e9 e10
      subst e10
      exact e_chain2 ok (c := z) (c2 := c2) (ia _ _ h3 env V hnm eo hV _ e1 _ _ _ _ _ k₀ at') (fun G' s' S' => ib _ _ h4 env V hnm eo hV _ e3 _ _ _ _ _ k₀ (at'.step ok eo S')) e5 (fun _ G' s' S' => ic _ _ h5 env V hnm eo hV _ e7 _ _ _ _ _ k₀ (at'.step ok eo S')) (fun _ => e9) h6
theorem so_idx {a i : CE} (ia : Sound C Φ N FN A σ a) (ii : Sound C Φ N FN A σ i) : Sound C Φ N FN A σ (.idx a i) := fun nm sx h env V hnm eo hV => by
  apply onE_e h; clear h; intro y1 h
  apply xSubscript_e h; clear h; intro v s y2 h
  · apply and3_e h; clear h; intro h1 h2 h3
    intro d e G₀ s₀ M G s k₀ at'
    apply bs_e e; intro x e1 e2
    apply bs_e e2; intro y e3 e4
    apply bs_e e4; clear e4; intro j q e5
    rw [asI_some q] at e3
    exact e_idx ok (ia _ _ h1 env V hnm eo hV _ e1 _ _ _ _ _ k₀ at') (fun G' s' S' => ii _ _ h2 env V hnm eo hV _ e3 _ _ _ _ _ k₀ (at'.step ok eo S')) (subs_plain h3) e5
end
end Mine
end TE4
section TE5
open PySem PySem.W PyProof.Rows PySem.Calls
namespace Mine

section
variable {C : Cx} (ok : C.Ok) {A : Around} {G : PH} {σ : Addr} {s : Shared} {env : Env}
include ok
omit ok in
theorem all1 {α : Type} {f : α → Bool} {a : α} (h : f a = true) : [a].all f = true := by
  rw [List.all_cons, h]; rfl
omit ok in
theorem all3 {α : Type} {f : α → Bool} {a b c : α} (h : f a = true) (h2 : f b = true) (h3 : f c = true) : [a, b, c].all f = true := by
  rw [List.all_cons, List.all_cons, List.all_cons, h, h2, h3]; rfl
theorem e_repl {o : Expr} {apos pos cp1 cp2 : Pos} {k1 k2 : Nat} {y z : Str} {x : List Nat} {r : D} (hb : plainBase o = true) (hline : (apos.endLine == pos.line) = true)
    (ho : EvE C A (eval o env) G σ (.str x) s) (hg : Go C G s) (e : replD y.cps.toList z.cps.toList (.str x) = some r) :
    EvE C A (eval (.Call (.Attribute o "replace" apos) [.Constant (.str y) k1 cp1, .Constant (.str z) k2 cp2] [] pos) env) G σ r s := fun Q E h => by
  refine wpAny_Call_method (T := "str") (id := "str.replace") (attrBase_plain hb) ?_ hline F.plainAttrs_str F.slot_str_replace F.type_str_replace (ho _ _ fun v s1 G1 S1 r1 => ?_)
  · rw [trees_plain rfl]; rfl
  · (first | (apply R.int_e r1; intro _) | (apply R.str_e r1; intro _) | apply R.raw_e r1)
    refine ⟨typeIs_str _ _ _, fun a h => (nomatch h), callWith_builtin (trees_any rfl) (evalArgs_plain (spliced_cons (Constant_str (k := k1) (pos := cp1) (spliced_cons (Constant_str (k := k2) (pos := cp2) (spliced_nil ?_))))))⟩
    have S2 := S1.trans (Step.tick (ht := by first | exact Nat.le_refl _ | exact Nat.le_succ _ | omega) ok S1.go (tk := s1.toks + 1 + 1))
    have hp := S1.go.sok.toks
    have := c_replace (C := C) ok (A := A) (G := G1) (σ := σ) (x := x) (y := y.cps.toList) (z := z.cps.toList) (r := r) (t := ‹Tok›) (u := s1.toks) (v := s1.toks + 1) S2.go hp (Nat.succ_pos _) (Nat.ne_of_lt (Nat.lt_succ_self _)) e Q E fun v s3 G3 S3 r3 => h v s3 G3 (S2.trans S3) r3
    simpa using this
end

section
variable {C : Cx} (ok : C.Ok) {Φ : Nat → List D → Option D} {N : List Str} {FN : Nat → Option Str} {A : Around} {σ : Addr} {lv : Nat} (tops : Tops C Φ FN lv) (hA : OkA lv A) (hN : N.Nodup) (hN0 : Str.ofString "" ∉ N)
include ok tops hA hN hN0

theorem so_stuck : Sound C Φ N FN A σ .stuck := fun nm sx h env V hnm eo hV => by
  cases sx <;> intro d e <;> cases e
omit ok tops hA hN hN0 in
theorem noX {c : CE} {nm : NmL} {x : Sx} (h : isX N FN c nm x = true) : isNo c = false := by
  cases q : isNo c
  · rfl
  · exact Bool.noConfusion (show false = true from isNo_e (P := fun c => isX N FN c nm x = true → isX N FN .no nm x = true) q id h)
theorem part_ok {lo : CE} (il : Sound C Φ N FN A σ lo) {l : Option Expr} {nm : NmL} (h : (match l with | none => isNo lo | some x => isX N FN lo nm (.e x)) = true) {env : Env} {V : List CB} (hnm : env.scope.names = nm) (eo : EnvOk C env) (hV : V.length = N.length)
    {o : Option Int} (e : partE (ev Φ lo V) lo = some o) {G₀ G : PH} {s₀ s : Shared} {M : Addr → Prop} (k₀ : Sok C s₀) (a : AtM C env G₀ s₀ (stN N V) G σ M s) : EvP C A (evalPart l env) G o s := by
  unfold partE at e
  cases l with
  | none =>
    rw [show isNo lo = true from h] at e
    cases e
    exact p_none ok a.at0.st.go
  | some x =>
    rw [noX h] at e
    apply ms_e e; clear e; intro i e1 e2
    apply bs_e e1; clear e1; intro d e3 e4
    rw [asI_some e4] at e3
    rw [← e2]
    exact p_some ok (il _ _ h env V hnm eo hV _ e3 _ _ _ _ _ k₀ a)
theorem so_sl {a lo hi : CE} (ia : Sound C Φ N FN A σ a) (il : Sound C Φ N FN A σ lo) (ih : Sound C Φ N FN A σ hi) : Sound C Φ N FN A σ (.sl a lo hi) := fun nm sx h env V hnm eo hV => by
  apply onE_e h; clear h; intro y1 h
  apply xSubscript_e h; clear h; intro v y2 y3 h
  apply xSlice_e h; clear h; intro l u y4 y5 h
  apply onNo_e h; clear h; intro h
  · apply and4_e h; clear h; intro h1 h2 h3 h4
    intro d e G₀ s₀ M G s k₀ at'
    apply bs_e e; intro x e1 e2
    apply bs_e e2; intro l e3 e4
    apply bs_e e4; intro u e5 e6
    exact e_slice ok (ia _ _ h1 env V hnm eo hV _ e1 _ _ _ _ _ k₀ at') (fun G' s' S' => part_ok ok tops hA hN hN0 il h2 hnm eo hV e3 k₀ (at'.step ok eo S')) (fun G' s' S' => part_ok ok tops hA hN hN0 ih h3 hnm eo hV e5 k₀ (at'.step ok eo S')) e6 (temp_name h4)
theorem so_cons {a r : CE} (ia : Sound C Φ N FN A σ a) (ir : Sound C Φ N FN A σ r) : Sound C Φ N FN A σ (.cons a r) := fun nm sx h env V hnm eo hV => by
  apply onL_e h; clear h; intro y1 h
  apply onC_e h; clear h; intro x xs h
  · apply and3_e h; clear h; intro h1 h2 h3
    intro ds e G₀ s₀ M G s k₀ at'
    apply bs_e e; intro x e1 e2
    apply bs_e e2; intro y e3 e4
    apply ms_e e4; intro l e5 e6
    have := asL_some e5
    subst this
    cases e6
    have hx := ia _ _ h2 env V hnm eo hV _ e1 _ _ _ _ _ k₀ at'
    have hr := fun G' s' (S' : Step C G s G' s') => ir _ _ h3 env V hnm eo hV _ e3 _ _ _ _ _ k₀ (at'.step ok eo S')
    refine ⟨fun pos => l_cons ok h1 hx fun G' s' S' => (hr G' s' S').1 pos, fun ls e => ?_⟩
    unfold strsD at e
    split at e
    · rename_i q; cases q
    · rename_i q
      cases q
      apply ms_e e; intro m e7 e8
      subst e8
      exact j_cons ok hx fun G' s' S' => (hr G' s' S').2 _ e7
    · cases e
theorem so_tup {l : CE} (il : Sound C Φ N FN A σ l) : Sound C Φ N FN A σ (.tup l) := fun nm sx h env V hnm eo hV => by
  apply onE_e h; clear h; intro y1 h
  apply xTuple_e h; clear h; intro es y2 y3 h
  · intro d e G₀ s₀ M G s k₀ at'
    apply bs_e e; intro x e1 e2
    apply bs_e e1; intro y e3 e4
    have := asL_some e4
    subst this
    apply ms_e e2; intro z e5 e6
    obtain ⟨rfl, hf⟩ := fitL_some e5
    subst e6
    exact e_tup ok ((il _ _ h env V hnm eo hV _ e3 _ _ _ _ _ k₀ at').1 _) hf
theorem so_lst {l : CE} (il : Sound C Φ N FN A σ l) : Sound C Φ N FN A σ (.lst l) := fun nm sx h env V hnm eo hV => by
  apply onE_e h; clear h; intro y1 h
  apply xList_e h; clear h; intro es y2 h
  · intro d e G₀ s₀ M G s k₀ at'
    apply bs_e e; intro x e1 e2
    apply bs_e e1; intro y e3 e4
    have := asL_some e4
    subst this
    apply ms_e e2; intro z e5 e6
    obtain ⟨rfl, hf⟩ := fitL_some e5
    subst e6
    exact e_lst ok ((il _ _ h env V hnm eo hV _ e3 _ _ _ _ _ k₀ at').1 _) hf
theorem so_js {l : CE} (il : Sound C Φ N FN A σ l) : Sound C Φ N FN A σ (.js l) := fun nm sx h env V hnm eo hV => by
  apply onE_e h; clear h; intro y1 h
  apply xJoinedStr_e h; clear h; intro y2 y3 h
  apply onC_e h; clear h; intro v1 y4 h
  apply onC_e h; clear h; intro v2 r h
  · intro d e G₀ s₀ M G s k₀ at'
    apply bs_e e; intro x e1 e2
    apply bs_e e2; clear e2; intro l q e2
    rw [asL_some q] at e1
    apply bs_e e2; clear e2; intro ss e3 e4
    apply ite_e e4; clear e4; intro hf e4
    rw [← Option.some.inj e4]
    exact e_join ok ((il _ _ h env V hnm eo hV _ e1 _ _ _ _ _ k₀ at').2 _ e3) hf
theorem so_fmt {a : CE} (ia : Sound C Φ N FN A σ a) : Sound C Φ N FN A σ (.fmt a) := fun nm sx h env V hnm eo hV => by
  apply onE_e h; clear h; intro y1 h
  apply xFormattedValue_e h; clear h; intro v y2 y3 y4 h
  apply onZ_e h; clear h; intro h
  apply onNo_e h; clear h; intro h
  · intro d e G₀ s₀ M G s k₀ at'
    apply bs_e e; intro x e1 e2
    apply bs_e e2; clear e2; intro l q e2
    rw [strOf_i q] at e1
    apply ite_e e2; clear e2; intro hf e2
    rw [← Option.some.inj e2]
    · exact e_fmt ok (ia _ _ h env V hnm eo hV _ e1 _ _ _ _ _ k₀ at') hf
theorem so_ite {t a b : CE} (it : Sound C Φ N FN A σ t) (ia : Sound C Φ N FN A σ a) (ib : Sound C Φ N FN A σ b) : Sound C Φ N FN A σ (.ite t a b) := fun nm sx h env V hnm eo hV => by
  apply onE_e h; clear h; intro y1 h
  apply xIfExp_e h; clear h; intro tt x y y2 h
  · apply and3_e h; clear h; intro h1 h2 h3
    intro d e G₀ s₀ M G s k₀ at'
    apply bs_e e; intro c e1 e2
    refine e_ite ok (it _ _ h1 env V hnm eo hV _ (asB_some e1) _ _ _ _ _ k₀ at') fun G' s' S' => ?_
    cases c with
    | true => exact ia _ _ h2 env V hnm eo hV _ e2 _ _ _ _ _ k₀ (at'.step ok eo S')
    | false => exact ib _ _ h3 env V hnm eo hV _ e2 _ _ _ _ _ k₀ (at'.step ok eo S')
theorem so_nt {a : CE} (ia : Sound C Φ N FN A σ a) : Sound C Φ N FN A σ (.nt a) := fun nm sx h env V hnm eo hV => by
  apply onT_e h; clear h; intro y1 h
  apply xUnaryOp_e h; clear h; intro y2 x y3 h
  apply onEq_e h; clear h; intro h
  · intro d e G₀ s₀ M G s k₀ at'
    apply ms_e e; intro c e1 e2
    rw [← ofB_inj e2]
    exact t_not ok (ia _ _ h env V hnm eo hV _ (asB_some e1) _ _ _ _ _ k₀ at')
theorem so_an {a b : CE} (ia : Sound C Φ N FN A σ a) (ib : Sound C Φ N FN A σ b) : Sound C Φ N FN A σ (.an a b) := fun nm sx h env V hnm eo hV => by
  apply onT_e h; clear h; intro y1 h
  apply xBoolOp_e h; clear h; intro y2 y3 y4 h
  apply onEq_e h; clear h; intro h
  apply on2_e h; clear h; intro x y h
  · simp only [Bool.and_eq_true] at h
    intro d e G₀ s₀ M G s k₀ at'
    apply bs_e e; intro c e1 e2
    have hx := ia _ _ h.1 env V hnm eo hV _ (asB_some e1) _ _ _ _ _ k₀ at'
    cases c with
    | true =>
      apply ms_e e2; intro c2 e3 e4
      rw [← ofB_inj e4]
      exact t_and2 ok hx fun _ G' s' S' => ib _ _ h.2 env V hnm eo hV _ (asB_some e3) _ _ _ _ _ k₀ (at'.step ok eo S')
    | false =>
      have : d = false := (ofB_inj (Option.some.inj e2)).symm
      subst this
      exact t_and2 ok (b := true) hx fun q => nomatch q
theorem so_orr {a b : CE} (ia : Sound C Φ N FN A σ a) (ib : Sound C Φ N FN A σ b) : Sound C Φ N FN A σ (.orr a b) := fun nm sx h env V hnm eo hV => by
  apply onT_e h; clear h; intro y1 h
  apply xBoolOp_e h; clear h; intro y2 y3 y4 h
  apply onEq_e h; clear h; intro h
  apply on2_e h; clear h; intro x y h
  · simp only [Bool.and_eq_true] at h
    intro d e G₀ s₀ M G s k₀ at'
    apply bs_e e; intro c e1 e2
    have hx := ia _ _ h.1 env V hnm eo hV _ (asB_some e1) _ _ _ _ _ k₀ at'
    cases c with
    | false =>
      apply ms_e e2; intro c2 e3 e4
      rw [← ofB_inj e4]
      exact t_or2 ok hx fun _ G' s' S' => ib _ _ h.2 env V hnm eo hV _ (asB_some e3) _ _ _ _ _ k₀ (at'.step ok eo S')
    | true =>
      have : d = true := (ofB_inj (Option.some.inj e2)).symm
      subst this
      exact t_or2 ok (b := false) hx fun q => nomatch q
theorem so_tv {a : CE} (ia : Sound C Φ N FN A σ a) : Sound C Φ N FN A σ (.tv a) := fun nm sx h env V hnm eo hV => by
  apply onT_e h; clear h; intro x h
  · simp only [Bool.and_eq_true] at h
    intro d e G₀ s₀ M G s k₀ at'
    apply ms_e e; intro c e1 e2
    rw [← ofB_inj e2]
    apply bs_e e1; intro x e3 e4
    exact t_val ok (ia _ _ h.1 env V hnm eo hV _ e3 _ _ _ _ _ k₀ at') e4 (test_plain h.2)
theorem so_len {a : CE} (ia : Sound C Φ N FN A σ a) : Sound C Φ N FN A σ (.len a) := fun nm sx h env V hnm eo hV => by
  apply onE_e h; clear h; intro y1 h
  apply xCall_e h; clear h; intro y2 y3 y4 y5 h
  apply xName_e h; clear h; intro f y6 h
  apply on1_e h; clear h; intro x h
  apply on0_e h; clear h; intro h
  · apply and4_e h; clear h; intro h1 h2 h3 h4
    have := beq_iff_eq.mp h1
    subst this
    intro d e G₀ s₀ M G s k₀ at'
    apply bs_e e; intro x e1 e2
    exact e_callb ok call_name (all1 h3) (e_builtin ok eo at'.at0.st.go (glob_of hnm h2) tops.len.1 tops.len.2 (by decide +kernel))
      (fun G' s' S' => l_cons ok h3 (ia _ _ h4 env V hnm eo hV _ e1 _ _ _ _ _ k₀ (at'.step ok eo S')) fun G'' s'' S'' => l_nil ok S''.go) fun G' s' vs S' r => c_len ok S'.go r e2
theorem so_anyc {a : CE} (ia : Sound C Φ N FN A σ a) : Sound C Φ N FN A σ (.anyc a) := fun nm sx h env V hnm eo hV => by
  apply onE_e h; clear h; intro y1 h
  apply xCall_e h; clear h; intro y2 y3 y4 y5 h
  apply xName_e h; clear h; intro f y6 h
  apply on1_e h; clear h; intro x h
  apply on0_e h; clear h; intro h
  · apply and4_e h; clear h; intro h1 h2 h3 h4
    have := beq_iff_eq.mp h1
    subst this
    intro d e G₀ s₀ M G s k₀ at'
    apply bs_e e; intro x e1 e2
    exact e_callb ok call_name (all1 h3) (e_builtin ok eo at'.at0.st.go (glob_of hnm h2) tops.any.1 tops.any.2 (by decide +kernel))
      (fun G' s' S' => l_cons ok h3 (ia _ _ h4 env V hnm eo hV _ e1 _ _ _ _ _ k₀ (at'.step ok eo S')) fun G'' s'' S'' => l_nil ok S''.go) fun G' s' vs S' r => c_any ok hA.hd S'.go r e2
theorem so_lrg {a b : CE} (ia : Sound C Φ N FN A σ a) (ib : Sound C Φ N FN A σ b) : Sound C Φ N FN A σ (.lrg a b) := fun nm sx h env V hnm eo hV => by
  apply onE_e h; clear h; intro y1 h
  apply xCall_e h; clear h; intro y2 y3 y4 y5 h
  apply xName_e h; clear h; intro f y6 h
  apply on1_e h; clear h; intro y7 h
  apply xCall_e h; clear h; intro y8 y9 y10 y11 h
  apply xName_e h; clear h; intro g y12 h
  apply on2_e h; clear h; intro x y h
  apply on0_e h; clear h; intro h
  apply on0_e h; clear h; intro h
  · apply and8_e h; clear h; intro h1 h2 h3 h4 h5 h6 h7 h8
    have := beq_iff_eq.mp h1
    subst this
    have := beq_iff_eq.mp h3
    subst this
    intro d e G₀ s₀ M G s k₀ at'
    apply bs_e e; intro x e1 e2
    apply bs_e e2; intro y e3 e4
    apply bs_e e4; clear e4; intro a q e4
    rw [asI_some q] at e1
    apply bs_e e4; clear e4; intro b q e4
    rw [asI_some q] at e3
    apply ite_e e4; clear e4; intro hc e4
    rw [← Option.some.inj e4]
    · exact e_lrange ok call_name call_name hA.hd h5 h6 (e_builtin ok eo at'.at0.st.go (glob_of hnm h2) tops.list.1 tops.list.2 (by decide +kernel))
        (fun G' s' S' => e_builtin ok eo S'.go (glob_of hnm h4) tops.range.1 tops.range.2 (by decide +kernel))
        (fun G' s' S' => l_cons ok h5 (ia _ _ h7 env V hnm eo hV _ e1 _ _ _ _ _ k₀ (at'.step ok eo S')) fun G'' s'' S'' => l_cons ok h6 (ib _ _ h8 env V hnm eo hV _ e3 _ _ _ _ _ k₀ (at'.step ok eo (S'.trans S''))) fun G3 s3 S3 => l_nil ok S3.go) hc.1 hc.2.1 hc.2.2.1 hc.2.2.2
theorem so_repl {a : CE} {y z : List Nat} (ia : Sound C Φ N FN A σ a) : Sound C Φ N FN A σ (.repl a y z) := fun nm sx h env V hnm eo hV => by
  apply onE_e h; clear h; intro y1 h
  apply xCall_e h; clear h; intro y2 y3 y4 pos h
  apply xAttribute_e h; clear h; intro o m ap h
  apply on2_e h; clear h; intro y5 y6 h
  apply xConstant_e h; clear h; intro y7 y8 y9 h
  apply kStr_e h; clear h; intro y' h
  apply xConstant_e h; clear h; intro y10 y11 y12 h
  apply kStr_e h; clear h; intro z' h
  apply on0_e h; clear h; intro h
  · apply and6_e h; clear h; intro h1 h2 h3 h4 h5 h6
    have := beq_iff_eq.mp h1
    subst this
    have := beq_iff_eq.mp h4
    subst this
    have := beq_iff_eq.mp h5
    subst this
    intro d e G₀ s₀ M G s k₀ at'
    apply bs_e e; intro x e1 e2
    apply bs_e e2; clear e2; intro w q e2
    rw [strOf_i q] at e1
    exact e_repl ok h2 h3 (ia _ _ h6 env V hnm eo hV _ e1 _ _ _ _ _ k₀ at') at'.at0.st.go e2
theorem so_find {a l : CE} (ia : Sound C Φ N FN A σ a) (il : Sound C Φ N FN A σ l) : Sound C Φ N FN A σ (.find a l) := fun nm sx h env V hnm eo hV => by
  apply onE_e h; clear h; intro y1 h
  apply xCall_e h; clear h; intro y2 y3 y4 pos h
  apply xAttribute_e h; clear h; intro o m ap h
  apply on3_e h; clear h; intro x y z h
  apply on0_e h; clear h; intro h
  · apply and8_e h; clear h; intro h1 h2 h3 h4 h5 h6 h7 h8
    have := beq_iff_eq.mp h1
    subst this
    intro d e G₀ s₀ M G s k₀ at'
    apply bs_e e; intro x e1 e2
    apply bs_e e2; intro y e3 e4
    apply bs_e e4; clear e4; intro w q e4
    rw [strOf_i q] at e1
    clear q
    apply bs_e e4; clear e4; intro l q e4
    rw [asL_some q] at e3
    clear q
    revert e3
    apply three_e e4; clear e4; intro a b c e4 e3
    apply bs_e e4; clear e4; intro y q1 e4
    apply bs_e e4; clear e4; intro i q2 e4
    apply ms_e e4; clear e4; intro j q3 e4
    rw [strOf_i q1, asI_some q2, asI_some q3] at e3
    rw [← e4]
    refine e_strmeth ok F.slot_str_find F.type_str_find h2 h3 (all3 h4 h5 h6) (show 2 < 20 by decide) (ia _ _ h7 env V hnm eo hV _ e1 _ _ _ _ _ k₀ at') (fun G' s' S' => (il _ _ h8 env V hnm eo hV _ e3 _ _ _ _ _ k₀ (at'.step ok eo S')).1 _) fun G' s' t vs S' r => ?_
    apply RL.cons_e r; clear r; intro _ _ r1 r
    apply RL.cons_e r; clear r; intro _ _ r2 r
    apply RL.cons_e r; clear r; intro _ _ r3 r
    apply RL.nil_e r; clear r
    apply R.str_e r1; intro _
    apply R.int_e r2; intro _
    apply R.int_e r3; intro _
    exact c_find ok S'.go
theorem so_join {a l : CE} (ia : Sound C Φ N FN A σ a) (il : Sound C Φ N FN A σ l) : Sound C Φ N FN A σ (.join a l) := fun nm sx h env V hnm eo hV => by
  apply onE_e h; clear h; intro y1 h
  apply xCall_e h; clear h; intro y2 y3 y4 pos h
  apply xAttribute_e h; clear h; intro o m ap h
  apply on1_e h; clear h; intro x h
  apply on0_e h; clear h; intro h
  · apply and6_e h; clear h; intro h1 h2 h3 h4 h5 h6
    have := beq_iff_eq.mp h1
    subst this
    intro d e G₀ s₀ M G s k₀ at'
    apply bs_e e; intro x e1 e2
    apply bs_e e2; intro y e3 e4
    apply bs_e e4; clear e4; intro w q e4
    rw [strOf_i q] at e1
    clear q
    apply bs_e e4; clear e4; intro l q e4
    rw [asL_some q] at e3
    clear q
    revert e3
    apply oneO_e e4; clear e4; intro a e4 e3
    exact e_strmeth ok F.slot_str_join F.type_str_join h2 h3 (all1 h4) (show 0 < 20 by decide) (ia _ _ h5 env V hnm eo hV _ e1 _ _ _ _ _ k₀ at') (fun G' s' S' => (il _ _ h6 env V hnm eo hV _ e3 _ _ _ _ _ k₀ (at'.step ok eo S')).1 _) fun G' s' t vs S' r => c_join ok S'.go r e4
theorem so_cal {j : Nat} {l : CE} (il : Sound C Φ N FN A σ l) : Sound C Φ N FN A σ (.cal j l) := fun nm sx h env V hnm eo hV => by
  apply onE_e h; clear h; intro y1 h
  apply xCall_e h; clear h; intro y2 y3 y4 y5 h
  apply xName_e h; clear h; intro f y6 h
  apply onC_e h; clear h; intro x xs h
  apply on0_e h; clear h; intro h
  · apply and5_e h; clear h; intro h1 h2 h3 h4 h5
    split at h1
    · rename_i g hg
      have := beq_iff_eq.mp h1
      subst this
      obtain ⟨a, o, fd, t1, t2, t3, t4, t5⟩ := tops.defs _ _ hg
      intro d e G₀ s₀ M G s k₀ at'
      apply bs_e e; intro x e1 e2
      apply bs_e e1; intro y e3 e4
      have := asL_some e4
      subst this
      exact e_calld ok call_name h4 t2 t3 t4 (e_glob ok eo at'.at0.st.go (glob_of hnm h2) t1 (nok_of h3).1) (fun G' s' S' => (il _ _ h5 env V hnm eo hV _ e3 _ _ _ _ _ k₀ (at'.step ok eo S')).1 _) fun G' s' vs S' r => t5 A σ G' s' x vs d hA e2 S'.go r
    · cases h1
theorem so_midx {k : Nat} {i : CE} (ii : Sound C Φ N FN A σ i) : Sound C Φ N FN A σ (.midx k i) := fun nm sx h env V hnm eo hV => by
  apply onE_e h; clear h; intro y1 h
  apply xSubscript_e h; clear h; intro y2 s y3 h
  apply xName_e h; clear h; intro x y4 h
  · apply and5_e h; clear h; intro h1 h2 h3 h4 h5
    have h1 := nm_of h1
    intro d e G₀ s₀ M G s k₀ at'
    apply bs_e e; intro x e1 e2
    apply bs_e e2; intro y e3 e4
    apply bs_e e4; intro j e5 e6
    have := asI_some e5
    subst this
    exact e_muidx ok eo at' (by rw [st_at hN h1 (gm_some e1)]; rfl) (nok_of h3).1 (nok_of h3).2 k₀ (fun G' s' S' => ii _ _ h4 env V hnm eo hV _ e3 _ _ _ _ _ k₀ (at'.step ok eo S')) (subs_plain h5) e6
theorem so_mtv {k : Nat} : Sound C Φ N FN A σ (.mtv k) := fun nm sx h env V hnm eo hV => by
  apply onT_e h; clear h; intro y1 h
  apply xName_e h; clear h; intro x y2 h
  · apply and3_e h; clear h; intro h1 h2 h3
    have h1 := nm_of h1
    intro d e G₀ s₀ M G s k₀ at'
    apply bs_e e; intro x e1 e2
    apply ms_e e2; intro y e3 e4
    obtain ⟨rfl, hf⟩ := fitL_some e3
    rw [← ofB_inj e4]
    exact t_mu ok eo at' (by rw [st_at hN h1 (gm_some e1)]; rfl) (nok_of h3).1 (nok_of h3).2 k₀ hf
theorem so_mlen {k : Nat} : Sound C Φ N FN A σ (.mlen k) := fun nm sx h env V hnm eo hV => by
  apply onE_e h; clear h; intro y1 h
  apply xCall_e h; clear h; intro y2 y3 y4 y5 h
  apply xName_e h; clear h; intro f y6 h
  apply on1_e h; clear h; intro y7 h
  apply xName_e h; clear h; intro x y8 h
  apply on0_e h; clear h; intro h
  · apply and5_e h; clear h; intro h0 hg h1 h2 h3
    have h1 := nm_of h1
    have := beq_iff_eq.mp h0
    subst this
    intro d e G₀ s₀ M G s k₀ at'
    apply bs_e e; intro x e1 e2
    apply ms_e e2; intro y e3 e4
    obtain ⟨rfl, hf⟩ := fitL_some e3
    subst e4
    exact e_mulen ok eo at' (by rw [st_at hN h1 (gm_some e1)]; rfl) (nok_of h3).1 (nok_of h3).2 k₀ call_name (e_builtin ok eo at'.at0.st.go (glob_of hnm hg) tops.len.1 tops.len.2 (by decide +kernel)) hf
end
end Mine
end TE5
section TE6
open PySem PySem.W PyProof.Rows PySem.Calls
namespace Mine

noncomputable def nmOf (N : List Str) (k : Nat) : Str := (N[k]?).getD (Str.ofString "")
noncomputable def tgOf (N : List Str) : CG → Tg
  | .nm k => .nm (nmOf N k)
  | .tp ks => .tup (ks.map fun k => .nm (nmOf N k))
theorem nmOf_eq {N : List Str} {k : Nat} {x : Str} (h : N[k]? = some x) : nmOf N k = x := by
  unfold nmOf; rw [h]; rfl
theorem isTs_tg {N : List Str} {sn : NmL} {ks : List Nat} : ∀ {es : List Expr}, isTs N sn ks es = true → IsTgL es (ks.map fun k => .nm (nmOf N k)) := by
  induction ks with
  | nil =>
    intro es h
    apply on0_e h; clear h; intro h
    exact .nil
  | cons k ks ih =>
    intro es h
    apply onC_e h; clear h; intro e r h
    apply xName_e h; clear h; intro x p h
    rw [Bool.and_eq_true, Bool.and_eq_true] at h
    rw [List.map_cons, nmOf_eq (nm_of h.1.1)]
    exact .cons (.nm _ _) (ih h.2)
theorem isG_tg {N : List Str} {sn : NmL} {g : CG} {e : Expr} (h : isG N sn g e = true) : IsTg e (tgOf N g) := by
  cases g with
  | nm k =>
    apply xName_e h; clear h; intro x p h
    rw [Bool.and_eq_true] at h
    show IsTg _ (.nm (nmOf N _))
    rw [nmOf_eq (nm_of h.1)]
    exact .nm _ _
  | tp ks =>
    apply xTuple_e h; clear h; intro es n p h
    exact .tup (isTs_tg h)
theorem tk_mem {sn : NmL} {x : Str} (h : tk sn x = true) : ∃ k, (x, k) ∈ sn ∧ (k = NameKind.local ∨ k = NameKind.cell) := by
  rcases bx h with e | e
  · exact ⟨_, lookup_mem e, .inl rfl⟩
  · exact ⟨_, lookup_mem e, .inr rfl⟩
theorem isTs_tk {N : List Str} {sn : NmL} {ks : List Nat} : ∀ {es : List Expr}, isTs N sn ks es = true → ∀ k ∈ ks, ∃ x, N[k]? = some x ∧ tk sn x = true := by
  induction ks with
  | nil => exact fun _ k hk => nomatch hk
  | cons j ks ih =>
    intro es h k hk
    apply onC_e h; clear h; intro e r h
    apply xName_e h; clear h; intro x p h
    rw [Bool.and_eq_true, Bool.and_eq_true] at h
    rcases List.mem_cons.mp hk with rfl | hk
    · exact ⟨_, nm_of h.1.1, h.1.2⟩
    · exact ih h.2 k hk
theorem isG_tk {N : List Str} {sn : NmL} {g : CG} {e : Expr} (h : isG N sn g e = true) : ∀ k ∈ tgKs g, ∃ x, N[k]? = some x ∧ tk sn x = true := by
  cases g with
  | nm j =>
    intro k hk
    apply xName_e h; clear h; intro x p h
    rw [Bool.and_eq_true] at h
    rw [tgKs, List.mem_singleton] at hk
    rw [hk]
    exact ⟨_, nm_of h.1, h.2⟩
  | tp ks =>
    intro k hk
    apply xTuple_e h; clear h; intro es n p h
    exact isTs_tk h k hk

theorem setV_some {V V' : List CB} {k : Nat} {b : CB} (h : setV V k b = some V') : noApp V k = true ∧ V' = V.set k b := by
  by_cases q : noApp V k = true
  · exact ⟨q, (Option.some.inj ((if_pos q).symm.trans h)).symm⟩
  · exact absurd ((if_neg q).symm.trans h) (by simp)
theorem setV_e {V V' : List CB} {k : Nat} {b : CB} {P : List CB → Prop} (h : setV V k b = some V') (hp : noApp V k = true → P (V.set k b)) : P V' := by
  obtain ⟨h1, rfl⟩ := setV_some h
  exact hp h1
theorem setsV_e {k : Nat} {ks : List Nat} {ds : List D} {V V' : List CB} {P : List D → Prop} (h : setsV (k :: ks) ds V = some V') (hp : ∀ d r, noApp V k = true → setsV ks r (V.set k (.val d)) = some V' → P (d :: r)) : P ds := by
  cases ds with
  | nil => cases h
  | cons d r =>
    apply bs_e h; intro W h1 h2
    exact hp d r (setV_some h1).1 ((setV_some h1).2 ▸ h2)
theorem setsV_nil {ds : List D} {V V' : List CB} {P : List D → List CB → Prop} (h : setsV [] ds V = some V') (hp : P [] V) : P ds V' := by
  cases ds with
  | nil => cases h; exact hp
  | cons d r => cases h
theorem setsV_len {ks : List Nat} : ∀ {ds : List D} {V V' : List CB}, setsV ks ds V = some V' → V'.length = V.length := by
  induction ks with
  | nil =>
    intro ds V V' h
    exact setsV_nil (P := fun _ V' => V'.length = V.length) h rfl
  | cons k ks ih =>
    intro ds V V' h
    apply setsV_e h (P := fun _ => _); intro d r _ h
    rw [ih h]; exact List.length_set
theorem bindG_len {g : CG} {d : D} {V V' : List CB} (h : bindG g d V = some V') : V'.length = V.length := by
  cases g with
  | nm k => rw [(setV_some h).2]; exact List.length_set
  | tp ks =>
    apply bs_e h; intro ds _ h
    exact setsV_len h

/-- binding at a statement -/
theorem setsV_bd {N : List Str} (hN : N.Nodup) (hN0 : Str.ofString "" ∉ N) {env : Env} {s₀ : Shared} {ks : List Nat} : ∀ {ds : List D} {V V' : List CB}, (∀ k ∈ ks, ∃ x, N[k]? = some x ∧ FreshLoc env s₀ x) → V.length = N.length → setsV ks ds V = some V' →
    BdL env s₀ (ks.map fun k => .nm (nmOf N k)) ds (stN N V) (stN N V') := by
  induction ks with
  | nil =>
    intro ds V V' _ _ h
    exact setsV_nil (P := fun ds V' => BdL env s₀ _ ds (stN N V) (stN N V')) h .nil
  | cons k ks ih =>
    intro ds V V' hk hl h
    apply setsV_e h; clear h; intro d r ha h
    obtain ⟨x, hx, hf⟩ := hk k List.mem_cons_self
    rw [List.map_cons, nmOf_eq hx]
    refine .cons (.nm hf (fun y => noApp_st hN hx (fun q => hN0 (q ▸ List.mem_of_getElem? hx)) ha y)) ?_
    show BdL env s₀ _ r (upS (stN N V) x (cvB N (.val d))) _
    rw [← st_set hN hx hl]
    exact ih (fun k' hk' => hk k' (List.mem_cons_of_mem _ hk')) (List.length_set.trans hl) h
theorem bindG_bd {N : List Str} (hN : N.Nodup) (hN0 : Str.ofString "" ∉ N) {env : Env} {s₀ : Shared} {g : CG} {d : D} {V V' : List CB} (hk : ∀ k ∈ tgKs g, ∃ x, N[k]? = some x ∧ FreshLoc env s₀ x) (hl : V.length = N.length) (h : bindG g d V = some V') :
    Bd env s₀ (tgOf N g) d (stN N V) (stN N V') := by
  cases g with
  | nm k =>
    apply setV_e h; clear h; intro ha
    obtain ⟨x, hx, hf⟩ := hk k List.mem_cons_self
    show Bd env s₀ (.nm (nmOf N k)) _ _ _
    rw [nmOf_eq hx, st_set hN hx hl]
    exact .nm hf (fun y => noApp_st hN hx (fun q => hN0 (q ▸ List.mem_of_getElem? hx)) ha y)
  | tp ks =>
    apply bs_e h; intro ds q h
    rw [asT_i q]
    exact .tup (setsV_bd hN hN0 hk hl h)

/-- binding in a block -/
theorem upS_noapp {S : St} {x : Str} {d : D} (h : ∀ x y, S x ≠ .app y) : ∀ z y, upS S x (.val d) z ≠ .app y := fun z y => by
  unfold upS
  by_cases q : z = x
  · rw [if_pos q]; exact fun w => nomatch w
  · rw [if_neg q]; exact h z y
theorem setsV_blk {N : List Str} (hN : N.Nodup) {env : Env} {s₀ : Shared} {ks : List Nat} : ∀ {ds : List D} {V V' : List CB} {S0 : St}, (∀ k ∈ ks, ∃ x, N[k]? = some x ∧ FreshLoc env s₀ x) → V.length = N.length → setsV ks ds V = some V' → (∀ x y, S0 x ≠ .app y) →
    ∃ S1, BdL env s₀ (ks.map fun k => .nm (nmOf N k)) ds S0 S1 ∧ (∀ x y, S1 x ≠ .app y) ∧ (∀ x, (∀ k ∈ ks, N[k]? ≠ some x) → S1 x = S0 x ∧ stN N V' x = stN N V x) ∧ (∀ x, (∃ k ∈ ks, N[k]? = some x) → ∃ d, S1 x = .val d ∧ stN N V' x = .val d) := by
  induction ks with
  | nil =>
    intro ds V V' S0 _ _ h ha
    cases ds with
    | nil => cases h; exact ⟨S0, .nil, ha, fun x _ => ⟨rfl, rfl⟩, fun x ⟨k, hk, _⟩ => nomatch hk⟩
    | cons _ _ => cases h
  | cons k ks ih =>
    intro ds V V' S0 hk hl h ha
    apply setsV_e h; clear h; intro d r _ h2
    obtain ⟨x, hx, hf⟩ := hk k List.mem_cons_self
    have hst := st_set (b := .val d) hN hx hl
    obtain ⟨S1, b1, b2, b3, b4⟩ := ih (S0 := upS S0 x (.val d)) (fun k' hk' => hk k' (List.mem_cons_of_mem _ hk')) (List.length_set.trans hl) h2 (upS_noapp ha)
    rw [List.map_cons, nmOf_eq hx]
    refine ⟨S1, .cons (.nm hf fun y => ha y x) b1, b2, fun y hy => ?_, fun y hy => ?_⟩
    · have hne : y ≠ x := fun q => hy k List.mem_cons_self (q ▸ hx)
      have c := b3 y fun k' hk' => hy k' (List.mem_cons_of_mem _ hk')
      exact ⟨c.1.trans (if_neg hne), c.2.trans ((congrFun hst y).trans (if_neg hne))⟩
    · by_cases hin : ∃ k' ∈ ks, N[k']? = some y
      · exact b4 y hin
      · have hout : ∀ k' ∈ ks, N[k']? ≠ some y := fun k' hk' q => hin ⟨k', hk', q⟩
        obtain ⟨k', hk', e⟩ := hy
        rcases List.mem_cons.mp hk' with q | hk'
        · have e2 : y = x := Option.some.inj (e.symm.trans (q ▸ hx))
          have c := b3 y hout
          exact ⟨d, c.1.trans (if_pos e2), c.2.trans ((congrFun hst y).trans (if_pos e2))⟩
        · exact absurd e (hout k' hk')
theorem bindG_blk {N : List Str} (hN : N.Nodup) {env : Env} {s₀ : Shared} {g : CG} {d : D} {V V' : List CB} {S0 : St} (hk : ∀ k ∈ tgKs g, ∃ x, N[k]? = some x ∧ FreshLoc env s₀ x) (hl : V.length = N.length) (h : bindG g d V = some V') (ha : ∀ x y, S0 x ≠ .app y) :
    ∃ S1, Bd env s₀ (tgOf N g) d S0 S1 ∧ (∀ x y, S1 x ≠ .app y) ∧ (∀ x, (∀ k ∈ tgKs g, N[k]? ≠ some x) → S1 x = S0 x ∧ stN N V' x = stN N V x) ∧ (∀ x, (∃ k ∈ tgKs g, N[k]? = some x) → ∃ d, S1 x = .val d ∧ stN N V' x = .val d) := by
  cases g with
  | nm k =>
    obtain ⟨S1, h1, r⟩ := setsV_blk (ks := [k]) (ds := [d]) (V' := V') (S0 := S0) hN hk hl (show (setV V k (.val d)).bind _ = some V' by rw [show setV V k (.val d) = some V' from h]; rfl) ha
    refine ⟨S1, ?_, r⟩
    cases h1 with
    | cons h5 h6 => cases h6; exact h5
  | tp ks =>
    apply bs_e h; intro ds q h
    rw [asT_i q]
    obtain ⟨S1, h1, r⟩ := setsV_blk hN hk hl h ha
    exact ⟨S1, .tup h1, r⟩

theorem scope_nd {N : List Str} {nm sn : NmL} {g : CG} (h : scopeOk N nm sn g = true) : (sn.map (·.1)).Nodup := bx ((Bool.and_eq_true ..).mp h).1
theorem scope_all {N : List Str} {nm sn : NmL} {g : CG} (h : scopeOk N nm sn g = true) : ∀ p ∈ sn, scN N nm g p = true := List.all_eq_true.mp ((Bool.and_eq_true ..).mp h).2
theorem scope_free {N : List Str} {env : Env} {sn : NmL} {g : CG} (h : scopeOk N env.scope.names sn g = true) : ∀ n, (n, NameKind.free) ∈ sn → env.kindOf n = some .cell ∨ env.kindOf n = some .free := fun n hn =>
  bx (show vc env.scope.names n = true from scope_all h _ hn)
noncomputable def ItV (Φ : Nat → List D → Option D) (g : CG) (el co : CE) (V : List CB) (d : D) (r : Option D) : Prop :=
  ∃ V' b, bindG g d (V.map CB.pure) = some V' ∧ condE (ev Φ co V') co = some b ∧ (if b then ∃ y, ev Φ el V' = some y ∧ r = some y else r = none)
theorem compL_fm {Φ : Nat → List D → Option D} {g : CG} {el co : CE} {V : List CB} : ∀ {ds outs : List D}, compL (fun d => (bindG g d (V.map CB.pure)).bind fun V' => (condE (ev Φ co V') co).bind fun b => if b then (ev Φ el V').map some else some none) ds = some outs → Fm (ItV Φ g el co V) ds outs
  | [], outs, h => by cases h; exact .nil
  | d :: r, outs, h => by
    apply bs_e h; intro o h1 h2
    apply ms_e h2; intro l h3 h4
    apply bs_e h1; intro V' h5 h6
    apply bs_e h6; intro b h7 h8
    have ih := compL_fm h3
    cases b with
    | true =>
      apply ms_e h8; intro y h9 h10
      subst h10
      subst h4
      exact .keep ⟨V', true, h5, h7, y, h9, rfl⟩ ih
    | false =>
      cases h8
      subst h4
      exact .skip ⟨V', false, h5, h7, rfl⟩ ih

theorem pure_no {N : List Str} {V : List CB} : (∀ x ds, stN N (V.map CB.pure) x ≠ .mu ds) ∧ (∀ x y, stN N (V.map CB.pure) x ≠ .app y) := by
  have key : ∀ x, stN N (V.map CB.pure) x = .none ∨ ∃ d, stN N (V.map CB.pure) x = .val d := fun x => by
    by_cases q : stN N (V.map CB.pure) x = .none
    · exact .inl q
    · obtain ⟨k, b, _, h2, h3⟩ := st_at' q
      rw [h3]
      rw [List.getElem?_map] at h2
      cases w : V[k]? with
      | none => rw [w] at h2; simp at h2
      | some c =>
        rw [w] at h2; simp at h2; subst h2
        cases c <;> simp [CB.pure, cvB]
  constructor <;> intro x y h <;> rcases key x with q | ⟨d, q⟩ <;> rw [h] at q <;> cases q

section
variable {C : Cx} (ok : C.Ok) {Φ : Nat → List D → Option D} {N : List Str} {FN : Nat → Option Str} {A : Around} {σ : Addr} {lv : Nat} (tops : Tops C Φ FN lv) (hA : OkA lv A) (hN : N.Nodup) (hN0 : Str.ofString "" ∉ N)
include ok tops hA hN hN0

theorem turn_ok {g : CG} {el co : CE} (ie : Sound C Φ N FN A σ el) (ic : Sound C Φ N FN A σ co) {env : Env} {V : List CB} (hV : V.length = N.length) (hek : env.scope.kind = .function) {scope : Scope} {target elt : Expr} {ifs : List Expr}
    (h2 : scopeOk N env.scope.names scope.names g = true) (h3 : isG N scope.names g target = true)
    (h6 : (match ifs with | [] => isNo co | [c] => isX N FN co (scope.names.map (relN env.scope.names)) (.t c) | _ => false) = true) (h7 : isX N FN el (scope.names.map (relN env.scope.names)) (.e elt) = true) :
    Turn C A env scope σ (tgOf N g) elt ifs (stN N V) (ItV Φ g el co V) := by
  intro cenv s₁ G₁ eoc hsc k₁ hfl d r hIt
  obtain ⟨V', b, e1, e2, e3⟩ := hIt
  have hlp : (V.map CB.pure).length = N.length := by simp; exact hV
  obtain ⟨S1, hbd, hap, hout, hin⟩ := bindG_blk (env := cenv) (s₀ := s₁) (S0 := compS scope (stN N V)) hN (fun k hk => by
    obtain ⟨x, hx, ht⟩ := isG_tk h3 k hk
    obtain ⟨kk, hm, hor⟩ := tk_mem ht
    exact ⟨x, hx, hfl x kk hm hor⟩) hlp e1 (fun x => compS_no.2)
  have hnd := scope_nd h2
  -- the targets are not closed over
  have hnfree : ∀ k ∈ tgKs g, ∀ x, N[k]? = some x → (x, NameKind.free) ∉ scope.names := fun k hk x hx hm => by
    obtain ⟨x', hx', ht⟩ := isG_tk h3 k hk
    rw [hx] at hx'; cases hx'
    obtain ⟨kk, hm', hor⟩ := tk_mem ht
    have a1 := nodup_lookup hnd hm
    have a2 := nodup_lookup hnd hm'
    rw [a1] at a2; cases a2
    rcases hor with q | q <;> cases q
  have hnames : cenv.scope.names = scope.names.map (relN env.scope.names) := by
    rw [hsc, relabel_names]
    refine List.map_congr_left fun p _ => ?_
    unfold relF relN Env.kindOf
    simp [hek]
  have hsub : ∀ x e, compS scope (stN N V) x = .val e → S1 x = .val e := fun x e hx => by
    obtain ⟨hm, hs⟩ := compS_val.mp hx
    rw [(hout x fun k hk q => hnfree k hk x q hm).1]
    exact hx
  have weak : ∀ {G2 M2 s2}, AtM C cenv G₁ s₁ S1 G2 σ M2 s2 → AtM C cenv G₁ s₁ (stN N V') G2 σ M2 s2 := fun a => by
    have hV'no : ∀ x, (∀ ds, stN N V' x ≠ .mu ds) ∧ (∀ y, stN N V' x ≠ .app y) := fun x => by
      by_cases q : ∃ k ∈ tgKs g, N[k]? = some x
      · obtain ⟨d, _, e⟩ := hin x q
        rw [e]; simp
      · have := (hout x fun k hk z => q ⟨k, hk, z⟩).2
        rw [this]
        exact ⟨pure_no.1 x, pure_no.2 x⟩
    refine a.weaken ok (fun x e hx hv => ?_) (fun x => (hV'no x).1) (fun x => (hV'no x).2)
    by_cases q : ∃ k ∈ tgKs g, N[k]? = some x
    · obtain ⟨d, h4, h5⟩ := hin x q
      rw [h5] at hx; cases hx
      exact h4
    · obtain ⟨o1, o2⟩ := hout x fun k hk z => q ⟨k, hk, z⟩
      rw [o1]
      rw [o2] at hx
      refine compS_val.mpr ⟨?_, st_pure hx⟩
      have : ∃ k', (x, k') ∈ scope.names ∧ (k' = .local ∨ k' = .cell ∨ k' = .free) := by
        rcases hv with hv | hv | hv <;> obtain ⟨k', m1, m2⟩ := kind_rel' hsc hv <;> refine ⟨k', m1, ?_⟩ <;> unfold relF at m2 <;> split at m2
        · cases m2
        · exact .inl m2.symm
        · rename_i z; simp at z; exact .inr (.inr z.1.1)
        · exact .inr (.inl m2.symm)
        · cases m2
        · exact .inr (.inr m2.symm)
      obtain ⟨k', m1, hk'⟩ := this
      have hNx : N.contains x = true := by
        obtain ⟨j, _, hj, _⟩ := st_at' (N := N) (V := V.map CB.pure) (x := x) (by rw [hx]; simp)
        simpa using List.mem_of_getElem? hj
      have := scope_all h2 _ m1
      unfold scN at this
      have noT : (tgKs g).any (nmIs N · x) = false := by
        rw [List.any_eq_false]
        intro k hk z
        exact q ⟨k, hk, nm_of z⟩
      rcases hk' with rfl | rfl | rfl
      · simp only [noT, Bool.false_or, hNx, Bool.not_true] at this; cases this
      · simp only [noT, Bool.false_or, hNx, Bool.not_true] at this; cases this
      · exact m1
  have hV'l : V'.length = N.length := by rw [bindG_len e1]; exact hlp
  refine ⟨S1, hbd, hsub, fun G2 M2 s2 a2 => ⟨?_, fun y hy G3 s3 a3 => ?_⟩⟩
  · have hb : r.isSome = b := by
      cases b
      · simp at e3; rw [e3]; rfl
      · simp at e3; obtain ⟨y, _, e⟩ := e3; rw [e]; rfl
    rw [hb]
    cases ifs with
    | nil =>
      unfold condE at e2
      rw [show isNo co = true from h6] at e2
      cases e2
      intro Q E hq
      exact wpAny_tests_nil (hq _ _ (Step.refl a2.at0.st.go))
    | cons c rest =>
      cases rest with
      | cons _ _ => cases h6
      | nil =>
      unfold condE at e2
      rw [noX h6] at e2
      intro Q E hq
      exact wpAny_tests_one (ic _ _ h6 cenv V' hnames eoc hV'l _ (asB_some e2) _ _ _ _ _ k₁ (weak a2) Q E hq)
  · cases b
    · simp at e3; rw [e3] at hy; cases hy
    · simp at e3
      obtain ⟨y', e4, e5⟩ := e3
      rw [e5] at hy; cases hy
      exact ie _ _ h7 cenv V' hnames eoc hV'l _ e4 _ _ _ _ _ k₁ (weak a3)

theorem so_comp {g : CG} {it el co : CE} (ii : Sound C Φ N FN A σ it) (ie : Sound C Φ N FN A σ el) (ic : Sound C Φ N FN A σ co) : Sound C Φ N FN A σ (.comp g it el co) := fun nm sx h env V hnm eo hV => by
  apply onE_e h; clear h; intro y1 h
  apply xListComp_e h; clear h; intro elt y2 scope y3 h
  apply on1_e h; clear h; intro y4 h
  apply onComp_e h; clear h; intro target iter ifs y5 h
  apply onZ_e h; clear h; intro h
  · apply and7_e h; clear h; intro h1 h2 h3 h4 h5 h6 h7
    subst hnm
    intro d e G₀ s₀ M G s k₀ at'
    apply bs_e e; intro x e1 e2
    apply bs_e e2; intro ds e3 e4
    apply bs_e e4; intro ds' e5 e6
    obtain ⟨rfl, hf⟩ := fitL_some e5
    apply ms_e e6; intro outs e7 e8
    subst e8
    exact e_comp ok eo at' hA.hd (bx h1) (scope_nd h2) (scope_free h2) (folded_not h4) (isG_tg h3) (ii _ _ h5 env V rfl eo hV _ e1 _ _ _ _ _ k₀ at') e3 hf (turn_ok ok tops hA hN hN0 ie ic hV eo.kind h2 h3 h6 h7) (compL_fm e7)
theorem ev_ok (e : CE) : Sound C Φ N FN A σ e := by
  induction e with
  | int i => exact so_int ok tops hA hN hN0
  | str l => exact so_str ok tops hA hN hN0
  | bool b => exact so_bool ok tops hA hN hN0
  | no  => exact so_no ok tops hA hN hN0
  | var k => exact so_var ok tops hA hN hN0
  | neg a ih_a => exact so_neg ok tops hA hN hN0 ih_a
  | bin op a b ih_a ih_b => exact so_bin ok tops hA hN hN0 ih_a ih_b
  | cmp op a b ih_a ih_b => exact so_cmp ok tops hA hN hN0 ih_a ih_b
  | chain o1 o2 a b c ih_a ih_b ih_c => exact so_chain ok tops hA hN hN0 ih_a ih_b ih_c
  | idx a i ih_a ih_i => exact so_idx ok tops hA hN hN0 ih_a ih_i
  | sl a lo hi ih_a ih_lo ih_hi => exact so_sl ok tops hA hN hN0 ih_a ih_lo ih_hi
  | nil  => exact so_nil ok tops hA hN hN0
  | cons a r ih_a ih_r => exact so_cons ok tops hA hN hN0 ih_a ih_r
  | tup l ih_l => exact so_tup ok tops hA hN hN0 ih_l
  | lst l ih_l => exact so_lst ok tops hA hN hN0 ih_l
  | js l ih_l => exact so_js ok tops hA hN hN0 ih_l
  | fmt a ih_a => exact so_fmt ok tops hA hN hN0 ih_a
  | ite t a b ih_t ih_a ih_b => exact so_ite ok tops hA hN hN0 ih_t ih_a ih_b
  | nt a ih_a => exact so_nt ok tops hA hN hN0 ih_a
  | an a b ih_a ih_b => exact so_an ok tops hA hN hN0 ih_a ih_b
  | orr a b ih_a ih_b => exact so_orr ok tops hA hN hN0 ih_a ih_b
  | tv a ih_a => exact so_tv ok tops hA hN hN0 ih_a
  | len a ih_a => exact so_len ok tops hA hN hN0 ih_a
  | anyc a ih_a => exact so_anyc ok tops hA hN hN0 ih_a
  | lrg a b ih_a ih_b => exact so_lrg ok tops hA hN hN0 ih_a ih_b
  | repl a y z ih_a => exact so_repl ok tops hA hN hN0 ih_a
  | find a l ih_a ih_l => exact so_find ok tops hA hN hN0 ih_a ih_l
  | join a l ih_a ih_l => exact so_join ok tops hA hN hN0 ih_a ih_l
  | cal j l ih_l => exact so_cal ok tops hA hN hN0 ih_l
  | comp g it el co ih_it ih_el ih_co => exact so_comp ok tops hA hN hN0 ih_it ih_el ih_co
  | midx k i ih_i => exact so_midx ok tops hA hN hN0 ih_i
  | mtv k => exact so_mtv ok tops hA hN hN0
  | mlen k => exact so_mlen ok tops hA hN hN0
  | stuck  => exact so_stuck ok tops hA hN hN0
end
end Mine
end TE6
section TE7
open PySem PySem.W PyProof.Rows PySem.Calls
namespace Mine

noncomputable def lk (nm : NmL) (x : Str) : Bool := decide (nm.lookup x = some .local)
noncomputable def isComp : CE → Bool
  | .comp .. => true | _ => false
theorem isComp_e {c : CE} {P : CE → Prop} (h : isComp c = true) (hp : ∀ g it el co, P (.comp g it el co)) : P c := by
  cases c <;> first | exact hp _ _ _ _ | exact Bool.noConfusion h
theorem lk_of {nm : NmL} {env : Env} (hnm : env.scope.names = nm) {x : Str} (h : lk nm x = true) : env.kindOf x = some .local := by
  unfold Env.kindOf
  rw [hnm]
  exact bx h
theorem lk_tk {nm : NmL} {x : Str} (h : lk nm x = true) : tk nm x = true := decide_eq_true (.inl (bx h))
noncomputable def isGhost : CS → Bool
  | .frz _ => true | .drop _ => true | _ => false
noncomputable def swB (nm : NmL) (x : Str) (p : Pos) : Expr → Bool
  | .ListComp _ _ scope vp => lk nm x && p.line == vp.line && !(scope.names.any fun (n, k) => n == x && (k == .local || k == .cell))
  | _ => false
noncomputable def two (nm : NmL) (x y : Str) (px py : Pos) (v1 v2 : Expr) : Bool :=
  lk nm x && lk nm y && !(x == y) && py.line == px.line && notStar v1 && notStar v2 && !(foldedForSure 8 v2) && !(constantsAlone 8 v2)

noncomputable def isB (N : List Str) (FN : Nat → Option Str) (HK : Nat → Stmt → Bool) (nm : NmL) : CS → Stmt ⊕ List Stmt → Bool
  | .sk, y0 => onR y0 fun y1 => on0 y1 (true)
  | .sq a r, y0 => onR y0 fun y1 => onC y1 fun st rest => isB N FN HK nm a (.inl st) && isB N FN HK nm r (.inr rest)
  | .gh a r, y0 => onR y0 fun l => isGhost a && isB N FN HK nm r (.inr l)
  | .set k e, y0 => onI y0 fun y1 => sAssign y1 fun y2 value pos => on1 y2 fun y3 => xName y3 fun x p => (nmIs N k x && tk nm x && notComp value && isX N FN e nm (.e value))
  | .setc k e, y0 => onI y0 fun y1 => sAssign y1 fun y2 value pos => on1 y2 fun y3 => xName y3 fun x p => (nmIs N k x && tk nm x && isX N FN e nm (.e value) && isComp e)
  | .sett ks e, y0 => onI y0 fun y1 => sAssign y1 fun y2 value pos => on1 y2 fun y3 => xTuple y3 fun es y4 y5 => (isTs N nm ks es && notComp value && notTup value && isX N FN e nm (.e value))
  | .set2 j k e, y0 => onI y0 fun y1 => sAssign y1 fun y2 y3 pos => on1 y2 fun y4 => xTuple y4 fun y5 kk tp => on2 y5 fun y6 y7 => xName y6 fun x px => xName y7 fun y py => xTuple y3 fun y8 k2 vp => on2 y8 fun v1 v2 => (nmIs N j x && nmIs N k y && two nm x y px py v1 v2 && isX N FN e nm (.e (.Tuple [v1, v2] k2 vp)))
  | .newl k l, y0 => onI y0 fun y1 => sAssign y1 fun y2 y3 pos => on1 y2 fun y4 => xName y4 fun x p => xList y3 fun es y5 => (nmIs N k x && tk nm x && isX N FN l nm (.l es))
  | .app k e, y0 => onI y0 fun y1 => sExpr y1 fun y2 y3 => xCall y2 fun y4 y5 y6 cp => xAttribute y4 fun y7 m ap => xName y7 fun x y8 => on1 y5 fun a => on0 y6 ((m == ("append" : Str) && nmIs N k x && vk nm x && nok x && (ap.endLine == cp.line) && notStar a && isX N FN e nm (.e a)))
  | .adda k z, y0 => onI y0 fun y1 => sAssign y1 fun y2 y3 pos => on1 y2 fun y4 => xName y4 fun x p => xAttribute y3 fun y5 m y6 => xName y5 fun w y7 => (m == ("append" : Str) && nmIs N k x && tk nm x && nmIs N z w && vk nm w && nok w && !(w == x))
  | .addc k z e, y0 => onI y0 fun y1 => sExpr y1 fun y2 y3 => xCall y2 fun y4 y5 y6 y7 => xName y4 fun f y8 => on1 y5 fun a => on0 y6 ((nmIs N k f && nok f && (match N[z]? with | some w => vk nm w | none => false) && notStar a && isX N FN e nm (.e a)))
  | .aug k e, y0 => onI y0 fun y1 => sAugAssign y1 fun y2 y3 value y4 => xName y2 fun x y5 => onEq y3 .Add ((nmIs N k x && tk nm x && isX N FN e nm (.e value)))
  | .augl k q, y0 => onI y0 fun y1 => sAugAssign y1 fun y2 y3 y4 y5 => xSubscript y2 fun y6 y7 y8 => xName y6 fun x y9 => xUnaryOp y7 fun y10 y11 y12 => onEq y10 .USub (xConstant y11 fun y13 y14 y15 => kInt y13 fun y16 => onZ y16 (1) (onEq y3 .Add (xConstant y4 fun y17 y18 y19 => kStr y17 fun q' => (nmIs N k x && vk nm x && nok x && q'.cps.toList == q))))
  | .ifs t a b, y0 => onI y0 fun y1 => sIf y1 fun test body orelse y2 => isX N FN t nm (.t test) && isB N FN HK nm a (.inr body) && isB N FN HK nm b (.inr orelse)
  | .whl t a, y0 => onI y0 fun y1 => sWhile y1 fun test body y2 y3 => on0 y2 (isX N FN t nm (.t test) && isB N FN HK nm a (.inr body))
  | .fr g it a, y0 => onI y0 fun y1 => sFor y1 fun target iter body y2 y3 => on0 y2 ((isG N nm g target && notSet iter && isX N FN it nm (.e iter)) && isB N FN HK nm a (.inr body))
  | .fre k ks it a, y0 => onI y0 fun y1 => sFor y1 fun y2 y3 body y4 y5 => xTuple y2 fun y6 y7 y8 => on2 y6 fun y9 y10 => xName y9 fun x y11 => xTuple y10 fun es y12 y13 => xCall y3 fun y14 y15 y16 y17 => xName y14 fun f y18 => on1 y15 fun e => on0 y16 (on0 y4 ((nmIs N k x && tk nm x && isTs N nm ks es && f == ("enumerate" : Str) && gk nm f && notStar e && isX N FN it nm (.e e)) && isB N FN HK nm a (.inr body)))
  | .frd k it a, y0 => onI y0 fun y1 => sFor y1 fun y2 y3 body y4 y5 => xName y2 fun x y6 => xCall y3 fun y7 y8 y9 y10 => xName y7 fun f y11 => on3 y8 fun ea y12 y13 => xConstant y12 fun y14 y15 y16 => kInt y14 fun y17 => onZ y17 (0) (xUnaryOp y13 fun y18 y19 y20 => onEq y18 .USub (xConstant y19 fun y21 y22 y23 => kInt y21 fun y24 => onZ y24 (1) (on0 y9 (on0 y4 ((nmIs N k x && tk nm x && f == ("range" : Str) && gk nm f && notStar ea && isX N FN it nm (.e ea)) && isB N FN HK nm a (.inr body))))))
  | .ret e, y0 => onI y0 fun y1 => sReturn y1 fun y2 y3 => onSo y2 fun x => isX N FN e nm (.e x)
  | .brk, y0 => onI y0 fun y1 => sBreak y1 fun y2 => true
  | .asr t, y0 => onI y0 fun y1 => sAssert y1 fun test y2 y3 => isX N FN t nm (.t test)
  | .frz _, _ => false
  | .drop _, _ => false
  | .hook j, y0 => onI y0 fun st => HK j st
  | .stuck, _ => true

theorem isB_set_i {N : List Str} {FN : Nat → Option Str} {HK : Nat → Stmt → Bool} {nm : NmL} {k} {e} {y0 : Stmt ⊕ List Stmt} {P : Stmt ⊕ List Stmt → Prop} (h : isB N FN HK nm (.set k e) y0 = true) (hp : ∀ x p value pos, ((nmIs N k x && tk nm x && notComp value && isX N FN e nm (.e value))) = true → P (.inl (.Assign [.Name x p] value pos))) : P y0 := by
  apply onI_e h; clear h; intro y1 h
  apply sAssign_e h; clear h; intro y2 value pos h
  apply on1_e h; clear h; intro y3 h
  apply xName_e h; clear h; intro x p h
  exact hp _ _ _ _ h
theorem isB_setc_i {N : List Str} {FN : Nat → Option Str} {HK : Nat → Stmt → Bool} {nm : NmL} {k} {e} {y0 : Stmt ⊕ List Stmt} {P : Stmt ⊕ List Stmt → Prop} (h : isB N FN HK nm (.setc k e) y0 = true) (hp : ∀ x p value pos, ((nmIs N k x && tk nm x && isX N FN e nm (.e value) && isComp e)) = true → P (.inl (.Assign [.Name x p] value pos))) : P y0 := by
  apply onI_e h; clear h; intro y1 h
  apply sAssign_e h; clear h; intro y2 value pos h
  apply on1_e h; clear h; intro y3 h
  apply xName_e h; clear h; intro x p h
  exact hp _ _ _ _ h
theorem isB_sett_i {N : List Str} {FN : Nat → Option Str} {HK : Nat → Stmt → Bool} {nm : NmL} {ks} {e} {y0 : Stmt ⊕ List Stmt} {P : Stmt ⊕ List Stmt → Prop} (h : isB N FN HK nm (.sett ks e) y0 = true) (hp : ∀ es w1 w2 value pos, ((isTs N nm ks es && notComp value && notTup value && isX N FN e nm (.e value))) = true → P (.inl (.Assign [.Tuple es w1 w2] value pos))) : P y0 := by
  apply onI_e h; clear h; intro y1 h
  apply sAssign_e h; clear h; intro y2 value pos h
  apply on1_e h; clear h; intro y3 h
  apply xTuple_e h; clear h; intro es w1 w2 h
  exact hp _ _ _ _ _ h
theorem isB_set2_i {N : List Str} {FN : Nat → Option Str} {HK : Nat → Stmt → Bool} {nm : NmL} {j} {k} {e} {y0 : Stmt ⊕ List Stmt} {P : Stmt ⊕ List Stmt → Prop} (h : isB N FN HK nm (.set2 j k e) y0 = true) (hp : ∀ x px y py kk tp v1 v2 k2 vp pos, ((nmIs N j x && nmIs N k y && two nm x y px py v1 v2 && isX N FN e nm (.e (.Tuple [v1, v2] k2 vp)))) = true → P (.inl (.Assign [.Tuple [.Name x px, .Name y py] kk tp] (.Tuple [v1, v2] k2 vp) pos))) : P y0 := by
  apply onI_e h; clear h; intro y1 h
  apply sAssign_e h; clear h; intro y2 y3 pos h
  apply on1_e h; clear h; intro y4 h
  apply xTuple_e h; clear h; intro y5 kk tp h
  apply on2_e h; clear h; intro y6 y7 h
  apply xName_e h; clear h; intro x px h
  apply xName_e h; clear h; intro y py h
  apply xTuple_e h; clear h; intro y8 k2 vp h
  apply on2_e h; clear h; intro v1 v2 h
  exact hp _ _ _ _ _ _ _ _ _ _ _ h
theorem isB_newl_i {N : List Str} {FN : Nat → Option Str} {HK : Nat → Stmt → Bool} {nm : NmL} {k} {l} {y0 : Stmt ⊕ List Stmt} {P : Stmt ⊕ List Stmt → Prop} (h : isB N FN HK nm (.newl k l) y0 = true) (hp : ∀ x p es w1 pos, ((nmIs N k x && tk nm x && isX N FN l nm (.l es))) = true → P (.inl (.Assign [.Name x p] (.List es w1) pos))) : P y0 := by
  apply onI_e h; clear h; intro y1 h
  apply sAssign_e h; clear h; intro y2 y3 pos h
  apply on1_e h; clear h; intro y4 h
  apply xName_e h; clear h; intro x p h
  apply xList_e h; clear h; intro es w1 h
  exact hp _ _ _ _ _ h
theorem isB_app_i {N : List Str} {FN : Nat → Option Str} {HK : Nat → Stmt → Bool} {nm : NmL} {k} {e} {y0 : Stmt ⊕ List Stmt} {P : Stmt ⊕ List Stmt → Prop} (h : isB N FN HK nm (.app k e) y0 = true) (hp : ∀ x w1 m ap a cp w2, ((m == ("append" : Str) && nmIs N k x && vk nm x && nok x && (ap.endLine == cp.line) && notStar a && isX N FN e nm (.e a))) = true → P (.inl (.Expr (.Call (.Attribute (.Name x w1) m ap) [a] [] cp) w2))) : P y0 := by
  apply onI_e h; clear h; intro y1 h
  apply sExpr_e h; clear h; intro y2 w2 h
  apply xCall_e h; clear h; intro y3 y4 y5 cp h
  apply xAttribute_e h; clear h; intro y6 m ap h
  apply xName_e h; clear h; intro x w1 h
  apply on1_e h; clear h; intro a h
  apply on0_e h; clear h; intro h
  exact hp _ _ _ _ _ _ _ h
theorem isB_adda_i {N : List Str} {FN : Nat → Option Str} {HK : Nat → Stmt → Bool} {nm : NmL} {k} {z} {y0 : Stmt ⊕ List Stmt} {P : Stmt ⊕ List Stmt → Prop} (h : isB N FN HK nm (.adda k z) y0 = true) (hp : ∀ x p w w1 m w2 pos, ((m == ("append" : Str) && nmIs N k x && tk nm x && nmIs N z w && vk nm w && nok w && !(w == x))) = true → P (.inl (.Assign [.Name x p] (.Attribute (.Name w w1) m w2) pos))) : P y0 := by
  apply onI_e h; clear h; intro y1 h
  apply sAssign_e h; clear h; intro y2 y3 pos h
  apply on1_e h; clear h; intro y4 h
  apply xName_e h; clear h; intro x p h
  apply xAttribute_e h; clear h; intro y5 m w2 h
  apply xName_e h; clear h; intro w w1 h
  exact hp _ _ _ _ _ _ _ h
theorem isB_addc_i {N : List Str} {FN : Nat → Option Str} {HK : Nat → Stmt → Bool} {nm : NmL} {k} {z} {e} {y0 : Stmt ⊕ List Stmt} {P : Stmt ⊕ List Stmt → Prop} (h : isB N FN HK nm (.addc k z e) y0 = true) (hp : ∀ f w1 a w2 w3, ((nmIs N k f && nok f && (match N[z]? with | some w => vk nm w | none => false) && notStar a && isX N FN e nm (.e a))) = true → P (.inl (.Expr (.Call (.Name f w1) [a] [] w2) w3))) : P y0 := by
  apply onI_e h; clear h; intro y1 h
  apply sExpr_e h; clear h; intro y2 w3 h
  apply xCall_e h; clear h; intro y3 y4 y5 w2 h
  apply xName_e h; clear h; intro f w1 h
  apply on1_e h; clear h; intro a h
  apply on0_e h; clear h; intro h
  exact hp _ _ _ _ _ h
theorem isB_aug_i {N : List Str} {FN : Nat → Option Str} {HK : Nat → Stmt → Bool} {nm : NmL} {k} {e} {y0 : Stmt ⊕ List Stmt} {P : Stmt ⊕ List Stmt → Prop} (h : isB N FN HK nm (.aug k e) y0 = true) (hp : ∀ x w1 value w2, ((nmIs N k x && tk nm x && isX N FN e nm (.e value))) = true → P (.inl (.AugAssign (.Name x w1) .Add value w2))) : P y0 := by
  apply onI_e h; clear h; intro y1 h
  apply sAugAssign_e h; clear h; intro y2 y3 value w2 h
  apply xName_e h; clear h; intro x w1 h
  apply onEq_e h; clear h; intro h
  exact hp _ _ _ _ h
theorem isB_augl_i {N : List Str} {FN : Nat → Option Str} {HK : Nat → Stmt → Bool} {nm : NmL} {k} {q} {y0 : Stmt ⊕ List Stmt} {P : Stmt ⊕ List Stmt → Prop} (h : isB N FN HK nm (.augl k q) y0 = true) (hp : ∀ x w1 w2 w3 w4 w5 q' w6 w7 w8, ((nmIs N k x && vk nm x && nok x && q'.cps.toList == q)) = true → P (.inl (.AugAssign (.Subscript (.Name x w1) (.UnaryOp .USub (.Constant (.int 1) w2 w3) w4) w5) .Add (.Constant (.str q') w6 w7) w8))) : P y0 := by
  apply onI_e h; clear h; intro y1 h
  apply sAugAssign_e h; clear h; intro y2 y3 y4 w8 h
  apply xSubscript_e h; clear h; intro y5 y6 w5 h
  apply xName_e h; clear h; intro x w1 h
  apply xUnaryOp_e h; clear h; intro y7 y8 w4 h
  apply onEq_e h; clear h; intro h
  apply xConstant_e h; clear h; intro y9 w2 w3 h
  apply kInt_e h; clear h; intro y10 h
  apply onZ_e h; clear h; intro h
  apply onEq_e h; clear h; intro h
  apply xConstant_e h; clear h; intro y11 w6 w7 h
  apply kStr_e h; clear h; intro q' h
  exact hp _ _ _ _ _ _ _ _ _ _ h
theorem isB_fr_i {N : List Str} {FN : Nat → Option Str} {HK : Nat → Stmt → Bool} {nm : NmL} {g} {it} {a} {y0 : Stmt ⊕ List Stmt} {P : Stmt ⊕ List Stmt → Prop} (h : isB N FN HK nm (.fr g it a) y0 = true) (hp : ∀ target iter body w1, ((isG N nm g target && notSet iter && isX N FN it nm (.e iter)) && isB N FN HK nm a (.inr body)) = true → P (.inl (.For target iter body [] w1))) : P y0 := by
  apply onI_e h; clear h; intro y1 h
  apply sFor_e h; clear h; intro target iter body y2 w1 h
  apply on0_e h; clear h; intro h
  exact hp _ _ _ _ h
theorem isB_fre_i {N : List Str} {FN : Nat → Option Str} {HK : Nat → Stmt → Bool} {nm : NmL} {k} {ks} {it} {a} {y0 : Stmt ⊕ List Stmt} {P : Stmt ⊕ List Stmt → Prop} (h : isB N FN HK nm (.fre k ks it a) y0 = true) (hp : ∀ x w1 es w2 w3 w4 w5 f w6 e w7 body w8, ((nmIs N k x && tk nm x && isTs N nm ks es && f == ("enumerate" : Str) && gk nm f && notStar e && isX N FN it nm (.e e)) && isB N FN HK nm a (.inr body)) = true → P (.inl (.For (.Tuple [.Name x w1, .Tuple es w2 w3] w4 w5) (.Call (.Name f w6) [e] [] w7) body [] w8))) : P y0 := by
  apply onI_e h; clear h; intro y1 h
  apply sFor_e h; clear h; intro y2 y3 body y4 w8 h
  apply xTuple_e h; clear h; intro y5 w4 w5 h
  apply on2_e h; clear h; intro y6 y7 h
  apply xName_e h; clear h; intro x w1 h
  apply xTuple_e h; clear h; intro es w2 w3 h
  apply xCall_e h; clear h; intro y8 y9 y10 w7 h
  apply xName_e h; clear h; intro f w6 h
  apply on1_e h; clear h; intro e h
  apply on0_e h; clear h; intro h
  apply on0_e h; clear h; intro h
  exact hp _ _ _ _ _ _ _ _ _ _ _ _ _ h
theorem isB_frd_i {N : List Str} {FN : Nat → Option Str} {HK : Nat → Stmt → Bool} {nm : NmL} {k} {it} {a} {y0 : Stmt ⊕ List Stmt} {P : Stmt ⊕ List Stmt → Prop} (h : isB N FN HK nm (.frd k it a) y0 = true) (hp : ∀ x w1 f w2 ea w3 w4 w5 w6 w7 w8 body w9, ((nmIs N k x && tk nm x && f == ("range" : Str) && gk nm f && notStar ea && isX N FN it nm (.e ea)) && isB N FN HK nm a (.inr body)) = true → P (.inl (.For (.Name x w1) (.Call (.Name f w2) [ea, .Constant (.int 0) w3 w4, .UnaryOp .USub (.Constant (.int 1) w5 w6) w7] [] w8) body [] w9))) : P y0 := by
  apply onI_e h; clear h; intro y1 h
  apply sFor_e h; clear h; intro y2 y3 body y4 w9 h
  apply xName_e h; clear h; intro x w1 h
  apply xCall_e h; clear h; intro y5 y6 y7 w8 h
  apply xName_e h; clear h; intro f w2 h
  apply on3_e h; clear h; intro ea y8 y9 h
  apply xConstant_e h; clear h; intro y10 w3 w4 h
  apply kInt_e h; clear h; intro y11 h
  apply onZ_e h; clear h; intro h
  apply xUnaryOp_e h; clear h; intro y12 y13 w7 h
  apply onEq_e h; clear h; intro h
  apply xConstant_e h; clear h; intro y14 w5 w6 h
  apply kInt_e h; clear h; intro y15 h
  apply onZ_e h; clear h; intro h
  apply on0_e h; clear h; intro h
  apply on0_e h; clear h; intro h
  exact hp _ _ _ _ _ _ _ _ _ _ _ _ _ h
noncomputable abbrev isS (N : List Str) (FN : Nat → Option Str) (HK : Nat → Stmt → Bool) (nm : NmL) (c : CS) (y : Stmt ⊕ List Stmt) : Prop := isB N FN HK nm c y = true
theorem isB_S {N : List Str} {FN : Nat → Option Str} {HK : Nat → Stmt → Bool} {nm : NmL} {c : CS} {y : Stmt ⊕ List Stmt} (h : isB N FN HK nm c y = true) : isS N FN HK nm c y := h

noncomputable def runS (env : Env) : Stmt ⊕ List Stmt → Sem Flow
  | .inl st => exec st env
  | .inr l => execs l env

theorem sw_plain {v : Expr} {x : Str} {p pos : Pos} {env : Env} (h : notComp v = true) : swapsWith v (some (.Name x p)) pos.line env = pure false := swaps_plain h
theorem blk_fn {env : Env} (h : env.scope.kind = .function) : env.blockKind = .function := by
  unfold Env.blockKind
  rw [h]
  rfl
theorem sw_comp {el : Expr} {gens : List Comprehension} {scope : Scope} {vp : Pos} {x : Str} {p : Pos} {ln : Nat} {env : Env} {nm : NmL} (hk : env.scope.kind = .function) (hnm : env.scope.names = nm) :
    swapsWith (.ListComp el gens scope vp) (some (.Name x p)) ln env = pure (swB nm x p (.ListComp el gens scope vp)) := by
  show (pure (env.blockKind == .function && env.kindOf x == some .local && p.line == vp.line && !(scope.names.any fun (n, k) => n == x && (k == .local || k == .cell))) : Sem Bool) = _
  rw [blk_fn hk]
  unfold swB lk Env.kindOf
  rw [hnm]
  congr 1
  cases nm.lookup x with
  | none => rfl
  | some k => cases k <;> rfl
theorem not_i {b : Bool} (h : (!b) = true) : b = false := by
  cases b
  · rfl
  · exact h.symm
theorem star_no {v : Expr} (h : notStar v = true) : (match (generalizing := false) v with | .Starred .. => true | _ => false) = false := by
  cases v <;> first | rfl | cases h
theorem two_st {x y : Str} {px py tp vp : Pos} {v1 v2 : Expr} {kk k2 : Nat} {env : Env}  (b : env.blockKind = .function) (k1 : env.kindOf x = some .local) (k2' : env.kindOf y = some .local) (h4 : (py.line == px.line) = true) (n1 : notStar v1 = true) (n2 : notStar v2 = true) (h7 : foldedForSure 8 v2 = false) (h8 : constantsAlone 8 v2 = false) (h3 : (x == y) = false):
    swappedStores [.Tuple [.Name x px, .Name y py] kk tp] (.Tuple [v1, v2] k2 vp) env = pure (some [x, y]) := by
  have key : ∀ {f : Expr → Option Str}, f (.Name x px) = some x → f (.Name y py) = some y → List.filterMap f [.Name x px, .Name y py] = [x, y] := fun a b =>
    (List.filterMap_cons_some a).trans (congrArg (x :: ·) (List.filterMap_cons_some b))
  have one : ∀ {z : Str} {l : Bool}, env.kindOf z = some .local → l = true → (if (env.kindOf z == some NameKind.local && l) = true then some z else none) = some z := fun a b => if_pos (by rw [a, b]; rfl)
  have two : ∀ {f : Expr → Bool}, f v2 = false → ¬ [v1, v2].all f = true := fun {f} h q => by
    have q : (f v1 && (f v2 && true)) = true := q
    rw [h, Bool.false_and, Bool.and_false] at q
    cases q
  have nany : ∀ {f : Expr → Bool}, f v1 = false → f v2 = false → ¬ [v1, v2].any f = true := fun {f} h h' q => by
    have q : (f v1 || (f v2 || false)) = true := q
    rw [h, h'] at q
    cases q
  have hed : [x, y].eraseDups = [x, y] := by
    have h3' : (y == x) = false := beq_eq_false_iff_ne.mpr fun q => beq_eq_false_iff_ne.mp h3 q.symm
    rw [List.eraseDups_cons, List.filter_cons_of_pos (by rw [h3']; rfl), List.filter_nil, List.eraseDups_cons]
    rfl
  unfold swappedStores
  dsimp only
  refine (if_neg (show ¬ (env.blockKind != ScopeKind.function) = true by rw [b]; nofun)).trans ((if_neg (nany (star_no n1) (star_no n2))).trans ?_)
  rw [key (one k1 (beq_self_eq_true _)) (one k2' h4), hed]
  exact (if_neg (show ¬ false = true by nofun)).trans ((if_neg (two h7)).trans (if_neg (two h8)))
theorem two_ok {nm : NmL} {x y : Str} {px py tp vp : Pos} {v1 v2 : Expr} {kk k2 : Nat} {env : Env} (hk : env.scope.kind = .function) (hnm : env.scope.names = nm) (h : two nm x y px py v1 v2 = true) :
    swappedStores [.Tuple [.Name x px, .Name y py] kk tp] (.Tuple [v1, v2] k2 vp) env = pure (some [x, y]) := by
  apply and8_e h; intro h1 h2 h3 h4 h5 h6 h7 h8
  exact two_st (blk_fn hk) (lk_of hnm h1) (lk_of hnm h2) h4 h5 h6 (not_i h7) (not_i h8) (not_i h3)
end Mine
end TE7
section TE8
open PySem PySem.W PyProof.Rows PySem.Calls
namespace Mine

noncomputable def SoS (C : Cx) (Φ : Nat → List D → Option D) (N : List Str) (FN : Nat → Option Str) (A : Around) (σ : Addr) (nm : NmL) (HK : Nat → Stmt → Bool) (H : Nat → List CB → Option (List CB)) (F : Nat) (env : Env) (G₀ : PH) (s₀ : Shared) (c : CS) : Prop :=
  ∀ y, isS N FN HK nm c y → ∀ V f V', ex Φ H F c V = some (f, V') → V.length = N.length →
    V'.length = N.length ∧ ∀ G M s, AtM C env G₀ s₀ (stN N V) G σ M s → EvS C A env G₀ s₀ (runS env y) (stN N V) G σ M s f (stN N V')

theorem isGhost_e {a : CS} {P : CS → Prop} (h : isGhost a = true) (h1 : ∀ k, P (.frz k)) (h2 : ∀ k, P (.drop k)) : P a := by
  cases a <;> first | exact h1 _ | exact h2 _ | exact Bool.noConfusion h
theorem bindE_e {k : Nat} {ks : List Nat} {d : D} {V V' : List CB} {P : D → Prop} (h : bindE k ks d V = some V') (hp : ∀ a ds, noApp V k = true → setsV ks ds (V.set k (.val a)) = some V' → P (.tup [a, .tup ds])) : P d := by
  apply bs_e h; clear h; intro l q h
  rw [asT_i q]; clear q
  apply two2_e h; clear h; intro a b h
  apply bs_e h; clear h; intro ds q h
  rw [asT_i q]; clear q
  apply bs_e h; intro W h1 h2
  exact hp a ds (setV_some h1).1 ((setV_some h1).2 ▸ h2)
theorem AtM.drop {C : Cx} {env : Env} {G₀ : PH} {s₀ : Shared} {S : St} {G : PH} {σ : Addr} {M : Addr → Prop} {s : Shared} (a : AtM C env G₀ s₀ S G σ M s) {x : Str} (hx : ∀ ds, S x ≠ .mu ds) : AtM C env G₀ s₀ (upS S x .none) G σ M s := by
  have eq : ∀ {y b}, upS S x .none y = b → b ≠ .none → S y = b := fun {y b} q hb => by
    by_cases e : y = x
    · exact absurd (q.symm.trans (if_pos e)) hb
    · exact (if_neg e).symm.trans q
  have ne : ∀ {y b}, S y = b → y ≠ x → upS S x .none y = b := fun q e => (if_neg e).trans q
  obtain ⟨adr, g1, g2, g3⟩ := a.mus
  refine ⟨⟨a.at0.st, a.at0.fr, fun y d hd hv => a.at0.rd y d ?_ hv⟩, ⟨adr, fun y ds hy => g1 y ds (eq hy nofun), fun y z ds ds' hy hz => g2 y z ds ds' (eq hy nofun) (eq hz nofun), fun y z hy => ?_⟩, a.off⟩
  · by_cases e : y = x
    · exact nomatch hd.symm.trans (congrArg B.val? (if_pos e))
    · exact (congrArg B.val? (if_neg e)).symm.trans hd
  · obtain ⟨bb, o, q1, q2, q3, ds, q4⟩ := g3 y z (eq hy nofun)
    exact ⟨bb, o, q1, q2, q3, ds, ne q4 fun q => hx ds (q ▸ q4)⟩
theorem tgOf_nm {N : List Str} {k : Nat} {x : Str} (h : N[k]? = some x) : tgOf N (.nm k) = .nm x := by show Tg.nm (nmOf N k) = _; rw [nmOf_eq h]
theorem gn {o : Option (List CB)} {f : Fl} {V' : List CB} (h : goNext o = some (f, V')) : f = .next ∧ o = some V' := by
  unfold goNext at h
  apply ms_e h; intro W h1 h2
  cases h2
  exact ⟨rfl, h1⟩

section
variable {C : Cx} (ok : C.Ok) {Φ : Nat → List D → Option D} {N : List Str} {FN : Nat → Option Str} {A : Around} {σ : Addr} {lv : Nat} (tops : Tops C Φ FN lv) (hA : OkA lv A) (hN : N.Nodup) (hN0 : Str.ofString "" ∉ N)
variable {nm : NmL} {HK : Nat → Stmt → Bool} {H : Nat → List CB → Option (List CB)} {F : Nat} {env : Env} {G₀ : PH} {s₀ : Shared} (eo : EnvOk C env) (hnm : env.scope.names = nm) (k₀ : Sok C s₀) (hfl : ∀ x k, (x, k) ∈ nm → k = NameKind.local ∨ k = NameKind.cell → FreshLoc env s₀ x)
include ok tops hA hN hN0 eo hnm k₀ hfl

theorem fl_of {x : Str} (h : tk nm x = true) : FreshLoc env s₀ x := by
  obtain ⟨k, h1, h2⟩ := tk_mem h
  exact hfl x k h1 h2
theorem ne0 {k : Nat} {x : Str} (h : N[k]? = some x) : x ≠ Str.ofString "" := fun q => hN0 (q ▸ List.mem_of_getElem? h)
theorem inter : interactive env = false := by
  unfold interactive
  rw [eo.kind]; rfl
theorem tgs_ok {ks : List Nat} {es : List Expr} (h : isTs N nm ks es = true) : ∀ k ∈ ks, ∃ x, N[k]? = some x ∧ FreshLoc env s₀ x := fun k hk => by
  obtain ⟨x, h1, h2⟩ := isTs_tk h k hk
  exact ⟨x, h1, fl_of ok tops hA hN hN0 eo hnm k₀ hfl h2⟩
theorem tg_ok {g : CG} {e : Expr} (h : isG N nm g e = true) : ∀ k ∈ tgKs g, ∃ x, N[k]? = some x ∧ FreshLoc env s₀ x := fun k hk => by
  obtain ⟨x, h1, h2⟩ := isG_tk h k hk
  exact ⟨x, h1, fl_of ok tops hA hN hN0 eo hnm k₀ hfl h2⟩
theorem xe {e : CE} {x : Expr} (h : isX N FN e nm (.e x) = true) {V : List CB} (hV : V.length = N.length) {d : D} (e1 : ev Φ e V = some d) {M : Addr → Prop} {G : PH} {s : Shared} (a : AtM C env G₀ s₀ (stN N V) G σ M s) : EvE C A (eval x env) G σ d s :=
  ev_ok ok tops hA hN hN0 e _ _ h env V hnm eo hV _ e1 _ _ _ _ _ k₀ a
theorem xt {e : CE} {x : Expr} (h : isX N FN e nm (.t x) = true) {V : List CB} (hV : V.length = N.length) {b : Bool} (e1 : asB (ev Φ e V) = some b) {M : Addr → Prop} {G : PH} {s : Shared} (a : AtM C env G₀ s₀ (stN N V) G σ M s) : EvB C A (isTrue x env (eval x env)) G b s :=
  ev_ok ok tops hA hN hN0 e _ _ h env V hnm eo hV _ (asB_some e1) _ _ _ _ _ k₀ a
theorem xl {e : CE} {xs : List Expr} (h : isX N FN e nm (.l xs) = true) {V : List CB} (hV : V.length = N.length) {ds : List D} (e1 : ev Φ e V = some (.lst ds)) {M : Addr → Prop} {G : PH} {s : Shared} (a : AtM C env G₀ s₀ (stN N V) G σ M s) (pos : Pos) : EvL C A (spliced (backTo pos (starEach xs env))) G σ ds s :=
  (ev_ok ok tops hA hN hN0 e _ _ h env V hnm eo hV _ e1 _ _ _ _ _ k₀ a).1 pos

theorem ss_set {k : Nat} {e : CE} : SoS C Φ N FN A σ nm HK H F env G₀ s₀ (.set k e) := fun y h V f V' he hV => by
  apply isB_set_i h
  clear h
  intro x p value pos h
  · apply and4_e h; clear h; intro h1 h2 h3 h4
    obtain ⟨rfl, e1⟩ := gn he
    apply bs_e e1; intro d e2 e3
    obtain ⟨e4, rfl⟩ := setV_some e3
    have hx := nm_of h1
    refine ⟨by simp; exact hV, fun G M s a => ?_⟩
    rw [st_set hN hx hV]
    exact s_assign ok k₀ eo h3 a (fl_of ok tops hA hN hN0 eo hnm k₀ hfl h2) (noApp_st hN hx (ne0 ok tops hA hN hN0 eo hnm k₀ hfl hx) e4) (xe ok tops hA hN hN0 eo hnm k₀ hfl h4 hV e2 a)
theorem ss_setc {k : Nat} {e : CE} : SoS C Φ N FN A σ nm HK H F env G₀ s₀ (.setc k e) := fun y h V f V' he hV => by
  apply isB_setc_i h
  clear h
  intro x p value pos h
  · apply and4_e h; clear h; intro h1 h2 h3 h4
    obtain ⟨rfl, e1⟩ := gn he
    apply bs_e e1; intro d e2 e3
    obtain ⟨e4, rfl⟩ := setV_some e3
    have hx := nm_of h1
    refine ⟨by simp; exact hV, fun G M s a => ?_⟩
    rw [st_set hN hx hV]
    have hf := fl_of ok tops hA hN hN0 eo hnm k₀ hfl h2
    have hna := noApp_st hN hx (ne0 ok tops hA hN hN0 eo hnm k₀ hfl hx) e4
    have hval := xe ok tops hA hN hN0 eo hnm k₀ hfl h3 hV e2 a
    revert h3 e2 hval
    apply isComp_e h4; clear h4; intro g it el co h3 e2
    · apply xListComp_e h3; clear h3; intro elt y1 scope vp h3
      apply on1_e h3; clear h3; intro y2 h3
      apply onComp_e h3; clear h3; intro target iter ifs y3 h3
      apply onZ_e h3; clear h3; intro h3 hval
      · skip
        have hsw := sw_comp (el := elt) (gens := [⟨target, iter, ifs, 0⟩]) (scope := scope) (vp := vp) (x := x) (p := p) (ln := pos.line) eo.kind hnm
        cases hb : swB nm x p (.ListComp elt [⟨target, iter, ifs, 0⟩] scope vp)
        · rw [hb] at hsw
          exact s_assign' ok k₀ eo hsw a hf hna hval
        · rw [hb] at hsw
          apply and7_e h3; clear h3; intro g1 g2 g3 g4 g5 g6 g7
          subst hnm
          apply bs_e e2; intro x' e5 e6
          apply bs_e e6; intro ds e7 e8
          apply bs_e e8; intro ds' e9 e10
          obtain ⟨rfl, hfi⟩ := fitL_some e9
          apply ms_e e10; intro outs e11 e12
          subst e12
          exact s_setcomp ok k₀ eo a hA.hd hsw hf hna (bx g1) (scope_nd g2) (scope_free g2) (folded_not g4) (isG_tg g3) (xe ok tops hA hN hN0 eo rfl k₀ hfl g5 hV e5 a) e7 hfi
            (turn_ok ok tops hA hN hN0 (ev_ok ok tops hA hN hN0 el) (ev_ok ok tops hA hN hN0 co) hV eo.kind g2 g3 g6 g7) (compL_fm e11)
theorem ss_sett {ks : List Nat} {e : CE} : SoS C Φ N FN A σ nm HK H F env G₀ s₀ (.sett ks e) := fun y h V f V' he hV => by
  apply isB_sett_i h
  clear h
  intro es w1 w2 value pos h
  · apply and4_e h; clear h; intro h1 h2 h3 h4
    obtain ⟨rfl, e1⟩ := gn he
    apply bs_e e1; intro d e2 e3
    refine ⟨by rw [bindG_len e3]; exact hV, fun G M s a => ?_⟩
    exact s_assign_tup ok k₀ eo hA.hd h2 h3 (isTs_tg h1) (bindG_bd (g := .tp ks) hN hN0 (tgs_ok ok tops hA hN hN0 eo hnm k₀ hfl h1) hV e3) a (xe ok tops hA hN hN0 eo hnm k₀ hfl h4 hV e2 a)
theorem ss_set2 {j k : Nat} {e : CE} : SoS C Φ N FN A σ nm HK H F env G₀ s₀ (.set2 j k e) := fun y h V f V' he hV => by
  apply isB_set2_i h
  clear h
  intro x px y py kk tp v1 v2 k2 vp pos h
  · apply and4_e h; clear h; intro h1 h2 h3 h4
    have hsw := two_ok (kk := kk) (k2 := k2) (tp := tp) (vp := vp) eo.kind hnm h3
    unfold two at h3
    simp only [Bool.and_eq_true, Bool.not_eq_true'] at h3
    obtain ⟨rfl, e1⟩ := gn he
    apply bs_e e1; clear e1 he; intro d e2 e1
    apply bs_e e1; clear e1; intro l q e1
    rw [asT_i q] at e2
    clear q
    revert e2
    apply two2_e e1; clear e1; intro a b e1 e2
    apply ite_e e1; clear e1; intro hnj e1
    apply bs_e e1; clear e1; intro W e3 e4
    revert e4
    apply setV_e e3; clear e3; intro e5 e4
    apply setV_e e4; clear e4; intro e6
    · have hx := nm_of h1
      have hy := nm_of h2
      refine ⟨by simp; exact hV, fun G M s at' => ?_⟩
      rw [st_set hN hx (by simp; exact hV), st_set hN hy hV]
      exact s_two ok k₀ eo at' hA.hd rfl hsw (fl_of ok tops hA hN hN0 eo hnm k₀ hfl (lk_tk h3.1.1.1.1.1.1.1)) (fl_of ok tops hA hN hN0 eo hnm k₀ hfl (lk_tk h3.1.1.1.1.1.1.2)) (noApp_st hN hx (ne0 ok tops hA hN hN0 eo hnm k₀ hfl hx) hnj)
        (noApp_st hN hy (ne0 ok tops hA hN hN0 eo hnm k₀ hfl hy) e5) (xe ok tops hA hN hN0 eo hnm k₀ hfl h4 hV e2 at')
theorem ss_newl {k : Nat} {l : CE} : SoS C Φ N FN A σ nm HK H F env G₀ s₀ (.newl k l) := fun y h V f V' he hV => by
  apply isB_newl_i h
  clear h
  intro x p es w1 pos h
  · apply and3_e h; clear h; intro h1 h2 h3
    obtain ⟨rfl, e1⟩ := gn he
    apply bs_e e1; intro m e2 e3
    apply bs_e e2; intro d e4 e5
    have := asL_some e5
    subst this
    apply bs_e e3; intro m' e6 e7
    obtain ⟨rfl, hf⟩ := fitL_some e6
    obtain ⟨e8, rfl⟩ := setV_some e7
    have hx := nm_of h1
    refine ⟨by simp; exact hV, fun G M s a => ?_⟩
    rw [st_set hN hx hV]
    exact s_newlist ok k₀ eo a (fl_of ok tops hA hN hN0 eo hnm k₀ hfl h2) (noApp_st hN hx (ne0 ok tops hA hN hN0 eo hnm k₀ hfl hx) e8) hf (xl ok tops hA hN hN0 eo hnm k₀ hfl h3 hV e4 a _)
theorem ss_app {k : Nat} {e : CE} : SoS C Φ N FN A σ nm HK H F env G₀ s₀ (.app k e) := fun y h V f V' he hV => by
  apply isB_app_i h
  clear h
  intro x w1 m ap a cp w2 h
  · apply and7_e h; clear h; intro h1 h2 h3 h4 h5 h6 h7
    have := beq_iff_eq.mp h1
    subst this
    obtain ⟨rfl, e1⟩ := gn he
    apply bs_e e1; intro m e2 e3
    apply bs_e e3; intro m' e4 e5
    obtain ⟨rfl, hf⟩ := fitL_some e4
    obtain ⟨d, e6, rfl⟩ := ms e5
    have hx := nm_of h2
    refine ⟨by simp; exact hV, fun G M s a => ?_⟩
    rw [st_set hN hx hV]
    exact s_append ok k₀ eo a (by rw [st_at hN hx (gm_some e2)]; rfl) (vis_of hnm h3) (nok_of h4).1 (nok_of h4).2 (inter ok tops hA hN hN0 eo hnm k₀ hfl) h5 h6 hf (xe ok tops hA hN hN0 eo hnm k₀ hfl h7 hV e6 a)
theorem ss_adda {k z : Nat} : SoS C Φ N FN A σ nm HK H F env G₀ s₀ (.adda k z) := fun y h V f V' he hV => by
  apply isB_adda_i h
  clear h
  intro x p w w1 m w2 pos h
  · simp only [Bool.and_eq_true, Bool.not_eq_true'] at h
    obtain ⟨⟨⟨⟨⟨⟨h1, h2⟩, h3⟩, h4⟩, h5⟩, h6⟩, h7⟩ := h
    have := beq_iff_eq.mp h1
    subst this
    obtain ⟨rfl, e1⟩ := gn he
    apply bs_e e1; intro m e2 e3
    obtain ⟨e4, rfl⟩ := setV_some e3
    have hx := nm_of h2
    have hz := nm_of h4
    refine ⟨by simp; exact hV, fun G M s a => ?_⟩
    rw [st_set hN hx hV]
    have hc : ∀ w, N[z]? = some w → cvB N (.app z) = .app w := fun w q => by show B.app _ = _; rw [q]; rfl
    rw [hc _ hz]
    exact s_bindapp ok k₀ eo a (fl_of ok tops hA hN hN0 eo hnm k₀ hfl h3) (noApp_st hN hx (ne0 ok tops hA hN hN0 eo hnm k₀ hfl hx) e4) (by rw [st_at hN hz (gm_some e2)]; rfl) (by rw [beq_eq_false_iff_ne] at h7; exact h7) (nok_of h6).1 (nok_of h6).2 rfl
theorem ss_addc {k z : Nat} {e : CE} : SoS C Φ N FN A σ nm HK H F env G₀ s₀ (.addc k z e) := fun y h V f V' he hV => by
  apply isB_addc_i h
  clear h
  intro f w1 a w2 w3 h
  · apply and5_e h; clear h; intro h1 h2 h3 h4 h5
    split at h3
    case h_2 => cases h3
    rename_i w hw
    have hx := nm_of h1
    obtain ⟨rfl, e1⟩ := gn he
    apply bs_e e1; clear e1 he; intro z' hz' e1
    apply ite_e e1; clear e1; intro hzz e1
    rw [hzz] at hz'
    apply bs_e e1; intro m e2 e3
    apply bs_e e3; intro m' e4 e5
    obtain ⟨rfl, hf⟩ := fitL_some e4
    obtain ⟨d, e6, rfl⟩ := ms e5
    refine ⟨by simp; exact hV, fun G M s a => ?_⟩
    rw [st_set hN hw hV]
    exact s_callapp ok k₀ eo a (y := w) (by rw [st_at hN hx (ga_some hz')]; show B.app _ = _; rw [hw]; rfl) (vis_of hnm h3) (by rw [st_at hN hw (gm_some e2)]; rfl) (nok_of h2).1 (nok_of h2).2 (inter ok tops hA hN hN0 eo hnm k₀ hfl) h4 hf call_name (xe ok tops hA hN hN0 eo hnm k₀ hfl h5 hV e6 a)
theorem ss_aug {k : Nat} {e : CE} : SoS C Φ N FN A σ nm HK H F env G₀ s₀ (.aug k e) := fun y h V f V' he hV => by
  apply isB_aug_i h
  clear h
  intro x w1 value w2 h
  · apply and3_e h; clear h; intro h1 h2 h3
    obtain ⟨rfl, e1⟩ := gn he
    apply bs_e e1; intro d e2 e3
    apply bs_e e3; intro i e4 e5
    have := asI_some e4
    subst this
    apply bs_e e5; intro d2 e6 e7
    apply bs_e e7; intro j e8 e9
    have := asI_some e8
    subst this
    obtain ⟨e10, rfl⟩ := setV_some e9
    have hx := nm_of h1
    refine ⟨by simp; exact hV, fun G M s a => ?_⟩
    rw [st_set hN hx hV]
    exact s_aug ok k₀ eo a (fl_of ok tops hA hN hN0 eo hnm k₀ hfl h2) (noApp_st hN hx (ne0 ok tops hA hN hN0 eo hnm k₀ hfl hx) e10) (by rw [st_at hN hx (gv_some e2)]; rfl) rfl ⟨i, rfl⟩ (fun G' s' S' => xe ok tops hA hN hN0 eo hnm k₀ hfl h3 hV e6 (a.step ok eo S')) rfl
theorem ss_augl {k : Nat} {q : List Nat} : SoS C Φ N FN A σ nm HK H F env G₀ s₀ (.augl k q) := fun y h V f V' he hV => by
  apply isB_augl_i h
  clear h
  intro x w1 w2 w3 w4 w5 q' w6 w7 w8 h
  · apply and4_e h; clear h; intro h1 h2 h3 h4
    have := beq_iff_eq.mp h4
    subst this
    obtain ⟨rfl, e1⟩ := gn he
    apply bs_e e1; intro l e2 e3
    apply bs_e e3; clear e3; intro p hp e3
    apply bs_e hp; clear hp; intro dp hp q
    rw [strOf_i q] at hp
    clear q
    apply ite_e e3; clear e3; intro hpq e3
    cases e3
    have hx := nm_of h1
    obtain ⟨n, hn⟩ : ∃ n, l.length = n + 1 := by
      cases l with
      | nil => simp at hp
      | cons a r => exact ⟨r.length, rfl⟩
    refine ⟨by simp; exact hV, fun G M s a => ?_⟩
    rw [st_set hN hx hV]
    have hl : l[n]? = some (.str p) := by
      rw [List.getLast?_eq_getElem?] at hp
      rw [hn] at hp
      exact hp
    rw [hn]
    exact s_augidx ok eo a (x := _) (by rw [st_at hN hx (gm_some e2)]; rfl) (nok_of h3).1 (nok_of h3).2 k₀ (vis_of hnm h2) hn hl (fun G' s' S' => e_neg ok (e_int ok S'.go)) (fun G' s' S' => e_str ok S'.go) (fun _ _ _ => rfl) hpq
theorem ss_ret {e : CE} : SoS C Φ N FN A σ nm HK H F env G₀ s₀ (.ret e) := fun y h V f V' he hV => by
  apply onI_e h; clear h; intro y1 h
  apply sReturn_e h; clear h; intro y2 y3 h
  apply onSo_e h; clear h; intro x h
  · apply ms_e he; intro d e1 e2
    cases e2
    exact ⟨hV, fun G M s a => s_ret ok k₀ eo a (xe ok tops hA hN hN0 eo hnm k₀ hfl h hV e1 a)⟩
theorem ss_brk : SoS C Φ N FN A σ nm HK H F env G₀ s₀ .brk := fun y h V f V' he hV => by
  apply onI_e h; clear h; intro y1 h
  apply sBreak_e h; clear h; intro y2 h
  · cases he
    exact ⟨hV, fun G M s a => s_brk ok k₀ eo a⟩
theorem ss_asr {t : CE} : SoS C Φ N FN A σ nm HK H F env G₀ s₀ (.asr t) := fun y h V f V' he hV => by
  apply onI_e h; clear h; intro y1 h
  apply sAssert_e h; clear h; intro test y2 y3 h
  · apply bs_e he; intro c e1 e2
    cases c with
    | false => cases e2
    | true =>
      cases e2
      exact ⟨hV, fun G M s a => s_assert ok k₀ eo a (xt ok tops hA hN hN0 eo hnm k₀ hfl h hV e1 a)⟩
theorem ss_sk : SoS C Φ N FN A σ nm HK H F env G₀ s₀ .sk := fun y h V f V' he hV => by
  apply onR_e h; clear h; intro y1 h
  apply on0_e h; clear h; intro h
  cases he
  exact ⟨hV, fun G M s a => s_nil ok k₀ eo a⟩
theorem ss_stuck : SoS C Φ N FN A σ nm HK H F env G₀ s₀ .stuck := fun y h V f V' he hV => by cases he
theorem ss_frz {k : Nat} : SoS C Φ N FN A σ nm HK H F env G₀ s₀ (.frz k) := fun y h V f V' he hV => by
  exact Bool.noConfusion (show false = true from h)
theorem ss_drop {k : Nat} : SoS C Φ N FN A σ nm HK H F env G₀ s₀ (.drop k) := fun y h V f V' he hV => by
  exact Bool.noConfusion (show false = true from h)
theorem ss_sq {a r : CS} (ia : SoS C Φ N FN A σ nm HK H F env G₀ s₀ a) (ir : SoS C Φ N FN A σ nm HK H F env G₀ s₀ r) : SoS C Φ N FN A σ nm HK H F env G₀ s₀ (.sq a r) := fun y h V f V' he hV => by
  apply onR_e h; clear h; intro y1 h
  apply onC_e h; clear h; intro st rest h
  replace h := and_i h
  · apply thn_e he
    · intro W e1 he
      obtain ⟨l1, k1⟩ := ia _ h.1 V _ W e1 hV
      obtain ⟨l2, k2⟩ := ir _ h.2 W _ V' he l1
      exact ⟨l2, fun G M s at' => s_cons ok k₀ eo (k1 G M s at') fun s' G' M' a' le => k2 G' M' s' a'⟩
    · intro he hne
      obtain ⟨l1, k1⟩ := ia _ h.1 V f V' he hV
      exact ⟨l1, fun G M s at' => s_cons_stop ok k₀ eo hne (k1 G M s at')⟩
theorem ss_ifs {t : CE} {a b : CS} (ia : SoS C Φ N FN A σ nm HK H F env G₀ s₀ a) (ib : SoS C Φ N FN A σ nm HK H F env G₀ s₀ b) : SoS C Φ N FN A σ nm HK H F env G₀ s₀ (.ifs t a b) := fun y h V f V' he hV => by
  apply onI_e h; clear h; intro y1 h
  apply sIf_e h; clear h; intro test body orelse y2 h
  replace h := (⟨(and_i (and_i h).1).1, (and_i (and_i h).1).2, (and_i h).2⟩ : _ ∧ _ ∧ _)
  · obtain ⟨h1, h2, h3⟩ := h
    apply bs_e he; intro c e1 e2
    cases c with
    | true =>
      obtain ⟨l1, k1⟩ := ia _ h2 V f V' e2 hV
      exact ⟨l1, fun G M s at' => s_if ok k₀ eo (b := true) at' (xt ok tops hA hN hN0 eo hnm k₀ hfl h1 hV e1 at') fun s' G' a' le => k1 G' M s' a'⟩
    | false =>
      obtain ⟨l1, k1⟩ := ib _ h3 V f V' e2 hV
      exact ⟨l1, fun G M s at' => s_if ok k₀ eo (b := false) at' (xt ok tops hA hN hN0 eo hnm k₀ hfl h1 hV e1 at') fun s' G' a' le => k1 G' M s' a'⟩

theorem wh_ok {t : CE} {a : CS} (hl : ∀ V f V', ex Φ H F a V = some (f, V') → V.length = N.length → V'.length = N.length) {p : Fl × List CB} {n : Nat} : ∀ {V : List CB}, wh (fun V => asB (ev Φ t V)) (fun V => ex Φ H F a V) n V = some p → V.length = N.length →
    p.2.length = N.length ∧ Wh (fun S b => ∃ V, V.length = N.length ∧ S = stN N V ∧ asB (ev Φ t V) = some b) (fun S f S' => ∃ V V', V.length = N.length ∧ S = stN N V ∧ S' = stN N V' ∧ ex Φ H F a V = some (f, V')) n (stN N V) p.1 (stN N p.2) := by
  induction n with
  | zero => intro V h; exact no_some h
  | succ n ih =>
    intro V h hV
    apply bs_e h; clear h; intro c e h
    cases c with
    | false => exact Option.some.inj h ▸ ⟨hV, .stop ⟨V, hV, rfl, e⟩⟩
    | true =>
      apply lp_e (o := ex Φ H F a V) h
      · intro W e2 h
        have l2 := hl _ _ _ e2 hV
        obtain ⟨l1, w⟩ := ih h l2
        exact ⟨l1, .turn ⟨V, hV, rfl, e⟩ ⟨V, W, hV, rfl, rfl, e2⟩ w⟩
      · exact fun W e2 => ⟨hl _ _ _ e2 hV, .brk ⟨V, hV, rfl, e⟩ ⟨V, _, hV, rfl, rfl, e2⟩⟩
      · exact fun d W e2 => ⟨hl _ _ _ e2 hV, .ret ⟨V, hV, rfl, e⟩ ⟨V, _, hV, rfl, rfl, e2⟩⟩
theorem ss_whl {t : CE} {a : CS} (ia : SoS C Φ N FN A σ nm HK H F env G₀ s₀ a) : SoS C Φ N FN A σ nm HK H F env G₀ s₀ (.whl t a) := fun y h V f V' he hV => by
  apply onI_e h; clear h; intro y1 h
  apply sWhile_e h; clear h; intro test body y2 y3 h
  apply on0_e h; clear h; intro h
  replace h := and_i h
  · obtain ⟨h1, h2⟩ := h
    obtain ⟨l1, w⟩ := wh_ok ok tops hA hN hN0 eo hnm k₀ hfl (t := t) (a := a) (p := (f, V')) (fun V f V' e hV => (ia _ h2 V f V' e hV).1) he hV
    refine ⟨l1, fun G M s at' => ?_⟩
    refine s_while ok k₀ eo hA.hd (fun S b hT s G M a => ?_) (fun S f S' hB s G M a => ?_) w at'
    · obtain ⟨W, hW, rfl, e⟩ := hT
      exact xt ok tops hA hN hN0 eo hnm k₀ hfl h1 hW e a
    · obtain ⟨W, W', hW, rfl, rfl, e⟩ := hB
      exact (ia _ h2 W f W' e hW).2 G M s a

theorem fo_ok {bd : D → List CB → Option (List CB)} {tg : Tg} {a : CS} (hbd : ∀ d V V', bd d V = some V' → V.length = N.length → V'.length = N.length ∧ Bd env s₀ tg d (stN N V) (stN N V')) (hl : ∀ V f V', ex Φ H F a V = some (f, V') → V.length = N.length → V'.length = N.length)
    {p : Fl × List CB} {ds : List D} : ∀ {V : List CB}, fo bd (fun V => ex Φ H F a V) ds V = some p → V.length = N.length →
    p.2.length = N.length ∧ Fo (fun d S S' => Bd env s₀ tg d S S') (fun S f S' => ∃ V V', V.length = N.length ∧ S = stN N V ∧ S' = stN N V' ∧ ex Φ H F a V = some (f, V')) ds (stN N V) p.1 (stN N p.2) := by
  induction ds with
  | nil => intro V h hV; exact Option.some.inj h ▸ ⟨hV, .nil⟩
  | cons d r ih =>
    intro V h hV
    apply bs_e h; clear h; intro W e1 h
    obtain ⟨l1, b1⟩ := hbd d V W e1 hV
    apply lp_e (o := ex Φ H F a W) h
    · intro W' e3 h
      obtain ⟨l2, w⟩ := ih h (hl _ _ _ e3 l1)
      exact ⟨l2, .turn b1 ⟨W, W', l1, rfl, rfl, e3⟩ w⟩
    · exact fun V' e3 => ⟨hl _ _ _ e3 l1, .brk b1 ⟨W, _, l1, rfl, rfl, e3⟩⟩
    · exact fun x V' e3 => ⟨hl _ _ _ e3 l1, .ret b1 ⟨W, _, l1, rfl, rfl, e3⟩⟩
theorem ss_fr {g : CG} {it : CE} {a : CS} (ia : SoS C Φ N FN A σ nm HK H F env G₀ s₀ a) : SoS C Φ N FN A σ nm HK H F env G₀ s₀ (.fr g it a) := fun y h V f V' he hV => by
  apply isB_fr_i h
  clear h
  intro target iter body w1 h
  replace h := and_i h
  · obtain ⟨h0, h2⟩ := h
    apply and3_e h0; clear h0; intro h1 h3 h4
    apply bs_e he; intro d e1 e2
    apply bs_e e2; intro ds e3 e4
    obtain ⟨l1, w⟩ := fo_ok ok tops hA hN hN0 eo hnm k₀ hfl (tg := tgOf N g) (fun d V V' e hV => ⟨by rw [bindG_len e]; exact hV, bindG_bd hN hN0 (tg_ok ok tops hA hN hN0 eo hnm k₀ hfl h1) hV e⟩) (fun V f V' e hV => (ia _ h2 V f V' e hV).1) (p := (f, V')) e4 hV
    refine ⟨l1, fun G M s at' => ?_⟩
    refine s_forG ok k₀ eo hA.hd (folded_not h3) (isG_tg h1) at' (it_of ok hA.hd (xe ok tops hA hN hN0 eo hnm k₀ hfl h4 hV e1 at') e3) (fun S f S' hB s G M a => ?_) w
    obtain ⟨W, W', hW, rfl, rfl, e⟩ := hB
    exact (ia _ h2 W f W' e hW).2 G M s a
theorem ss_fre {k : Nat} {ks : List Nat} {it : CE} {a : CS} (ia : SoS C Φ N FN A σ nm HK H F env G₀ s₀ a) : SoS C Φ N FN A σ nm HK H F env G₀ s₀ (.fre k ks it a) := fun y h V fl V' he hV => by
  apply isB_fre_i h
  clear h
  intro x w1 es w2 w3 w4 w5 f w6 e w7 body w8 h
  replace h := and_i h
  · obtain ⟨h0, h2⟩ := h
    apply and7_e h0; clear h0; intro h1 h3 h4 h5 h6 h7 h8
    have := beq_iff_eq.mp h5
    subst this
    apply bs_e he; intro ds e1 e2
    apply bs_e e1; intro d e3 e5
    have := asL_some e5
    subst this
    have hx := nm_of h1
    have hf := fl_of ok tops hA hN hN0 eo hnm k₀ hfl h3
    obtain ⟨l1, w⟩ := fo_ok ok tops hA hN hN0 eo hnm k₀ hfl (tg := .tup [.nm (nmOf N k), .tup (ks.map fun k => .nm (nmOf N k))]) (fun d V V' e hV => by
      apply bindE_e e; clear e; intro a ds' e8 e7
      refine ⟨(setsV_len e7).trans (List.length_set.trans hV), .tup (.cons ?_ (.cons (.tup (setsV_bd hN hN0 (tgs_ok ok tops hA hN hN0 eo hnm k₀ hfl h4) (List.length_set.trans hV) e7)) .nil))⟩
      rw [nmOf_eq hx, st_set hN hx hV]
      exact .nm hf (noApp_st hN hx (ne0 ok tops hA hN hN0 eo hnm k₀ hfl hx) e8)) (fun V f V' e hV => (ia _ h2 V f V' e hV).1) (p := (fl, V')) e2 hV
    refine ⟨l1, fun G M s at' => ?_⟩
    have htg := nmOf_eq hx
    rw [htg] at w
    refine s_forG ok k₀ eo hA.hd (fun _ => rfl) (.tup (.cons (.nm _ _) (.cons (.tup (isTs_tg h4)) .nil))) at'
      (it_enum ok call_name hA.hd h7 (e_builtin ok eo at'.at0.st.go (glob_of hnm h6) tops.enum.1 tops.enum.2 (by decide +kernel)) fun G' s' S' => l_cons ok h7 (xe ok tops hA hN hN0 eo hnm k₀ hfl h8 hV e3 (at'.step ok eo S')) fun G'' s'' S'' => l_nil ok S''.go) (fun S f S' hB s G M a => ?_) w
    obtain ⟨W, W', hW, rfl, rfl, e⟩ := hB
    exact (ia _ h2 W f W' e hW).2 G M s a
theorem ss_frd {k : Nat} {it : CE} {a : CS} (ia : SoS C Φ N FN A σ nm HK H F env G₀ s₀ a) : SoS C Φ N FN A σ nm HK H F env G₀ s₀ (.frd k it a) := fun y h V fl V' he hV => by
  apply isB_frd_i h
  clear h
  intro x w1 f w2 ea w3 w4 w5 w6 w7 w8 body w9 h
  replace h := and_i h
  · obtain ⟨h0, h2⟩ := h
    apply and6_e h0; clear h0; intro h1 h3 h4 h5 h6 h7
    have := beq_iff_eq.mp h4
    subst this
    apply bs_e he; intro ds e1 e2
    apply bs_e e1; intro d e3 e5
    have hx := nm_of h1
    have hf := fl_of ok tops hA hN hN0 eo hnm k₀ hfl h3
    apply bs_e e5; clear e5; intro i q e5
    rw [asI_some q] at e3
    clear q
    apply ite_e e5; clear e5; intro hc e5
    cases e5
    obtain ⟨l1, w⟩ := fo_ok ok tops hA hN hN0 eo hnm k₀ hfl (tg := tgOf N (.nm k)) (fun d V V' e hV => ⟨by rw [bindG_len e]; exact hV, bindG_bd hN hN0 (fun k' hk' => by
      rw [tgKs, List.mem_singleton] at hk'
      subst hk'
      exact ⟨_, hx, hf⟩) hV e⟩) (fun V f V' e hV => (ia _ h2 V f V' e hV).1) (p := (fl, V')) e2 hV
    refine ⟨l1, fun G M s at' => ?_⟩
    have htg := tgOf_nm hx
    rw [htg] at w
    refine s_forG ok k₀ eo hA.hd (fun _ => rfl) (.nm _ _) at'
      (it_down ok call_name hA.hd (by rw [List.all_cons, h6]; rfl) (e_builtin ok eo at'.at0.st.go (glob_of hnm h5) tops.range.1 tops.range.2 (by decide +kernel)) (fun G' s' S' => l_cons ok h6 (xe ok tops hA hN hN0 eo hnm k₀ hfl h7 hV e3 (at'.step ok eo S')) fun G'' s'' S'' => l_cons ok rfl (e_int ok S''.go) fun G3 s3 S3 => l_cons ok rfl (e_neg ok (e_int ok S3.go)) fun G4 s4 S4 => l_nil ok S4.go) hc.1 hc.2) (fun S f S' hB s G M a => ?_) w
    obtain ⟨W, W', hW, rfl, rfl, e⟩ := hB
    exact (ia _ h2 W f W' e hW).2 G M s a
theorem gh_frz {k : Nat} {r : CS} (ir : SoS C Φ N FN A σ nm HK H F env G₀ s₀ r) {l : List Stmt} (h2 : isS N FN HK nm r (.inr l)) {V : List CB} {f : Fl} {V' : List CB} (he : ex Φ H F (.gh (.frz k) r) V = some (f, V')) (hV : V.length = N.length) :
    V'.length = N.length ∧ ∀ G M s, AtM C env G₀ s₀ (stN N V) G σ M s → EvS C A env G₀ s₀ (execs l env) (stN N V) G σ M s f (stN N V') := by
  apply thn_e (o := goNext _) he
  · intro W e1 he
    replace e1 := (gn e1).2
    apply bs_e e1; clear e1; intro m e3 e4
    apply ite_e e4; clear e4; intro hna e4
    cases e4
    obtain ⟨l1, k1⟩ := ir _ h2 _ _ V' he (List.length_set.trans hV)
    refine ⟨l1, fun G M s at' => ?_⟩
    have hk : k < N.length := hV ▸ (List.getElem?_eq_some_iff.mp (gm_some e3)).1
    have hx : N[k]? = some N[k] := List.getElem?_eq_getElem hk
    rw [st_set (V := V) (b := .val (.lst m)) hN hx hV] at k1
    refine s_frz ok k₀ eo at' (ds := m) (x := N[k]) (by rw [st_at hN hx (gm_some e3)]; rfl) (noApp_st hN hx (ne0 ok tops hA hN hN0 eo hnm k₀ hfl hx) hna) fun G' M' a' le => k1 G' M' s a'
  · intro e1 hne
    exact absurd (gn e1).1 hne
theorem gh_drop {k : Nat} {r : CS} (ir : SoS C Φ N FN A σ nm HK H F env G₀ s₀ r) {l : List Stmt} (h2 : isS N FN HK nm r (.inr l)) {V : List CB} {f : Fl} {V' : List CB} (he : ex Φ H F (.gh (.drop k) r) V = some (f, V')) (hV : V.length = N.length) :
    V'.length = N.length ∧ ∀ G M s, AtM C env G₀ s₀ (stN N V) G σ M s → EvS C A env G₀ s₀ (execs l env) (stN N V) G σ M s f (stN N V') := by
  apply thn_e (o := goNext _) he
  · intro W e1 he
    replace e1 := (gn e1).2
    apply ms_e e1; clear e1; intro z hz e4
    cases e4
    obtain ⟨l1, k1⟩ := ir _ h2 _ _ V' he (List.length_set.trans hV)
    refine ⟨l1, fun G M s at' => ?_⟩
    have hk : k < N.length := hV ▸ (List.getElem?_eq_some_iff.mp (ga_some hz)).1
    have hx : N[k]? = some N[k] := List.getElem?_eq_getElem hk
    refine k1 G M s ?_
    rw [st_set hN hx hV]
    exact at'.drop fun ds q => nomatch (st_at hN hx (ga_some hz)).symm.trans q
  · intro e1 hne
    exact absurd (gn e1).1 hne
theorem ss_gh {a r : CS} (ir : SoS C Φ N FN A σ nm HK H F env G₀ s₀ r) : SoS C Φ N FN A σ nm HK H F env G₀ s₀ (.gh a r) := fun y h V f V' he hV => by
  apply onR_e h; clear h; intro l h
  replace h := and_i h
  revert he
  apply isGhost_e h.1
  · intro k he
    exact gh_frz ok tops hA hN hN0 eo hnm k₀ hfl ir h.2 he hV
  · intro k he
    exact gh_drop ok tops hA hN hN0 eo hnm k₀ hfl ir h.2 he hV
end

/-- what the statements of a def do -/
theorem ex_ok {C : Cx} (ok : C.Ok) {Φ : Nat → List D → Option D} {N : List Str} {FN : Nat → Option Str} {A : Around} {σ : Addr} {lv : Nat} (tops : Tops C Φ FN lv) (hA : OkA lv A) (hN : N.Nodup) (hN0 : Str.ofString "" ∉ N)
    {nm : NmL} {HK : Nat → Stmt → Bool} {H : Nat → List CB → Option (List CB)} {F : Nat} {env : Env} {G₀ : PH} {s₀ : Shared} (eo : EnvOk C env) (hnm : env.scope.names = nm) (k₀ : Sok C s₀) (hfl : ∀ x k, (x, k) ∈ nm → k = NameKind.local ∨ k = NameKind.cell → FreshLoc env s₀ x)
    (hH : ∀ j st, HK j st = true → ∀ V V', H j V = some V' → V.length = N.length → V'.length = N.length ∧ ∀ G M s, AtM C env G₀ s₀ (stN N V) G σ M s → EvS C A env G₀ s₀ (exec st env) (stN N V) G σ M s .next (stN N V')) :
    ∀ c, SoS C Φ N FN A σ nm HK H F env G₀ s₀ c := by
  intro c
  induction c with
  | sk => exact ss_sk ok tops hA hN hN0 eo hnm k₀ hfl
  | sq a r ih_a ih_r => exact ss_sq ok tops hA hN hN0 eo hnm k₀ hfl ih_a ih_r
  | gh a r ih_a ih_r => exact ss_gh ok tops hA hN hN0 eo hnm k₀ hfl ih_r
  | set k e => exact ss_set ok tops hA hN hN0 eo hnm k₀ hfl
  | setc k e => exact ss_setc ok tops hA hN hN0 eo hnm k₀ hfl
  | sett ks e => exact ss_sett ok tops hA hN hN0 eo hnm k₀ hfl
  | set2 j k e => exact ss_set2 ok tops hA hN hN0 eo hnm k₀ hfl
  | newl k l => exact ss_newl ok tops hA hN hN0 eo hnm k₀ hfl
  | app k e => exact ss_app ok tops hA hN hN0 eo hnm k₀ hfl
  | adda k y => exact ss_adda ok tops hA hN hN0 eo hnm k₀ hfl
  | addc k y e => exact ss_addc ok tops hA hN hN0 eo hnm k₀ hfl
  | aug k e => exact ss_aug ok tops hA hN hN0 eo hnm k₀ hfl
  | augl k q => exact ss_augl ok tops hA hN hN0 eo hnm k₀ hfl
  | ifs t a b ih_a ih_b => exact ss_ifs ok tops hA hN hN0 eo hnm k₀ hfl ih_a ih_b
  | whl t a ih_a => exact ss_whl ok tops hA hN hN0 eo hnm k₀ hfl ih_a
  | fr g it a ih_a => exact ss_fr ok tops hA hN hN0 eo hnm k₀ hfl ih_a
  | fre k ks it a ih_a => exact ss_fre ok tops hA hN hN0 eo hnm k₀ hfl ih_a
  | frd k it a ih_a => exact ss_frd ok tops hA hN hN0 eo hnm k₀ hfl ih_a
  | ret e => exact ss_ret ok tops hA hN hN0 eo hnm k₀ hfl
  | brk => exact ss_brk ok tops hA hN hN0 eo hnm k₀ hfl
  | asr t => exact ss_asr ok tops hA hN hN0 eo hnm k₀ hfl
  | frz k => exact ss_frz ok tops hA hN hN0 eo hnm k₀ hfl
  | drop k => exact ss_drop ok tops hA hN hN0 eo hnm k₀ hfl
  | hook j =>
    intro y h V f V' he hV
    apply onI_e h; clear h; intro st h
    obtain ⟨rfl, e1⟩ := gn he
    exact hH j _ h V V' e1 hV
  | stuck => exact ss_stuck ok tops hA hN hN0 eo hnm k₀ hfl
end Mine
end TE8
section TE9
open PySem PySem.W PyProof.Rows PySem.Calls
namespace Mine

/-! steps of a core text -/
noncomputable def appNe (b : CB) (k : Nat) : Bool := match b with | .app j => j != k | _ => true
theorem noApp_all (V : List CB) (k : Nat) : noApp V k = V.all fun b => appNe b k := rfl
noncomputable def JK (c : CB) : Prop := ∀ k, appNe c k = true
theorem JK.val (d : D) : JK (.val d) := fun _ => rfl
theorem JK.mu (d : List D) : JK (.mu d) := fun _ => rfl
theorem JK.none : JK .none := fun _ => rfl
theorem na_nil (k : Nat) : noApp [] k = true := rfl
theorem na_cons {c : CB} {V : List CB} {k : Nat} (h : appNe c k = true) (r : noApp V k = true) : noApp (c :: V) k = true := by
  rw [noApp_all, List.all_cons, h]
  exact r
section
variable {Φ : Nat → List D → Option D} {H : Nat → List CB → Option (List CB)} {F : Nat} {V V' : List CB} {R : Option (Fl × List CB)}
theorem thn_n {o : Option (Fl × List CB)} {k : List CB → Option (Fl × List CB)} (h : o = some (.next, V')) (h2 : k V' = R) : thn o k = R := bq h h2
theorem lp_n {o : Option (Fl × List CB)} {k : List CB → Option (Fl × List CB)} (h : o = some (.next, V')) (h2 : k V' = R) : lp o k = R := bq h h2
theorem gx {o : Option (List CB)} (h : o = some V') : goNext o = some (.next, V') := mq h
theorem xs {a r : CS} (h : ex Φ H F a V = some (.next, V')) (k : ex Φ H F r V' = R) : ex Φ H F (.sq a r) V = R := thn_n h k
theorem xg {a r : CS} (h : ex Φ H F a V = some (.next, V')) (k : ex Φ H F r V' = R) : ex Φ H F (.gh a r) V = R := thn_n h k
theorem xs_brk {a r : CS} (h : ex Φ H F a V = some (.brk, V')) : ex Φ H F (.sq a r) V = some (.brk, V') := bq h rfl
theorem xs_ret {a r : CS} {d : D} (h : ex Φ H F a V = some (.ret d, V')) : ex Φ H F (.sq a r) V = some (.ret d, V') := bq h rfl
theorem xsk : ex Φ H F .sk V = some (.next, V) := rfl
theorem xbrk : ex Φ H F .brk V = some (.brk, V) := rfl
theorem setV_of {k : Nat} {b : CB} (hn : noApp V k = true) (e : V.set k b = V') : setV V k b = some V' := (if_pos hn).trans (congrArg some e)
theorem fitL_of {ds : List D} (hf : ds.length ≤ 16777216) : fitL ds = some ds := if_pos (fit_iff.mpr hf)
theorem setsV_c {k : Nat} {ks : List Nat} {d : D} {ds : List D} {W : List CB} (hn : noApp V k = true) (e : V.set k (.val d) = V') (h : setsV ks ds V' = some W) : setsV (k :: ks) (d :: ds) V = some W := bq (setV_of hn e) h
theorem xset {k : Nat} {e : CE} {d : D} (h : ev Φ e V = some d) (hn : noApp V k = true) (e' : V.set k (.val d) = V') : ex Φ H F (.set k e) V = some (.next, V') := gx (bq h (setV_of hn e'))
theorem xsetc {k : Nat} {e : CE} {d : D} (h : ev Φ e V = some d) (hn : noApp V k = true) (e' : V.set k (.val d) = V') : ex Φ H F (.setc k e) V = some (.next, V') := gx (bq h (setV_of hn e'))
theorem xift {t : CE} {a b : CS} (h : asB (ev Φ t V) = some true) (k : ex Φ H F a V = R) : ex Φ H F (.ifs t a b) V = R := bq h k
theorem xiff {t : CE} {a b : CS} (h : asB (ev Φ t V) = some false) (k : ex Φ H F b V = R) : ex Φ H F (.ifs t a b) V = R := bq h k
theorem xaug {k : Nat} {e : CE} {i j : Int} (h1 : gv V k = some (.int i)) (h : ev Φ e V = some (.int j)) (hn : noApp V k = true) (e' : V.set k (.val (.int (i + j))) = V') : ex Φ H F (.aug k e) V = some (.next, V') := gx (bq h1 (bq (a := i) rfl (bq h (bq (a := j) rfl (setV_of hn e')))))
theorem xnewl {k : Nat} {l : CE} {ds : List D} (h : ev Φ l V = some (.lst ds)) (hf : ds.length ≤ 16777216) (hn : noApp V k = true) (e' : V.set k (.mu ds) = V') : ex Φ H F (.newl k l) V = some (.next, V') := gx (bq (bq h rfl) (bq (fitL_of hf) (setV_of hn e')))
theorem xapp {k : Nat} {e : CE} {ds : List D} {d : D} (h1 : gm V k = some ds) (hf : ds.length ≤ 16777216) (h : ev Φ e V = some d) (e' : V.set k (.mu (ds ++ [d])) = V') : ex Φ H F (.app k e) V = some (.next, V') := gx (bq h1 (bq (fitL_of hf) ((mq h).trans (congrArg some e'))))
theorem xadda {k y : Nat} {ds : List D} (h1 : gm V y = some ds) (hn : noApp V k = true) (e' : V.set k (.app y) = V') : ex Φ H F (.adda k y) V = some (.next, V') := gx (bq h1 (setV_of hn e'))
theorem xaddc {k y : Nat} {e : CE} {ds : List D} {d : D} (h0 : V[k]? = some (.app y)) (h1 : gm V y = some ds) (hf : ds.length ≤ 16777216) (h : ev Φ e V = some d) (e' : V.set y (.mu (ds ++ [d])) = V') : ex Φ H F (.addc k y e) V = some (.next, V') :=
  gx (bq (bq h0 rfl) ((if_pos rfl).trans (bq h1 (bq (fitL_of hf) ((mq h).trans (congrArg some e'))))))
theorem xset2 {j k : Nat} {e : CE} {a b : D} {V1 : List CB} (h : ev Φ e V = some (.tup [a, b])) (hn : noApp V j = true) (hn2 : noApp V k = true) (e1 : V.set k (.val b) = V1) (hn3 : noApp V1 j = true) (e' : V1.set j (.val a) = V') : ex Φ H F (.set2 j k e) V = some (.next, V') :=
  gx (bq h (bq (a := [a, b]) rfl (show (if _ then _ else _) = _ from (if_pos hn).trans (bq (setV_of hn2 e1) (setV_of hn3 e')))))
theorem xsett {ks : List Nat} {e : CE} {d : D} (h : ev Φ e V = some d) (hb : bindG (.tp ks) d V = some V') : ex Φ H F (.sett ks e) V = some (.next, V') := gx (bq h hb)
theorem xret {e : CE} {d : D} (h : ev Φ e V = some d) : ex Φ H F (.ret e) V = some (.ret d, V) := mq h
theorem xasr {t : CE} (h : asB (ev Φ t V) = some true) : ex Φ H F (.asr t) V = some (.next, V) := bq h rfl
theorem xfrz {k : Nat} {ds : List D} (h1 : gm V k = some ds) (hn : noApp V k = true) (e' : V.set k (.val (.lst ds)) = V') : ex Φ H F (.frz k) V = some (.next, V') := gx (bq h1 ((if_pos hn).trans (congrArg some e')))
theorem xdrop {k y : Nat} (h : V[k]? = some (.app y)) (e' : V.set k .none = V') : ex Φ H F (.drop k) V = some (.next, V') := gx ((mq (show ga V k = some y from bq h rfl)).trans (congrArg some e'))
theorem xhook {j : Nat} (h : H j V = some V') : ex Φ H F (.hook j) V = some (.next, V') := gx h
noncomputable abbrev whl (Φ : Nat → List D → Option D) (H : Nat → List CB → Option (List CB)) (F : Nat) (t : CE) (a : CS) (n : Nat) (V : List CB) : Option (Fl × List CB) := wh (fun V => asB (ev Φ t V)) (fun V => ex Φ H F a V) n V
theorem xwhl {t : CE} {a : CS} (h : whl Φ H F t a F V = R) : ex Φ H F (.whl t a) V = R := h
theorem wt {t : CE} {a : CS} {n : Nat} (h : asB (ev Φ t V) = some true) (hb : ex Φ H F a V = some (.next, V')) (k : whl Φ H F t a n V' = R) : whl Φ H F t a (n + 1) V = R := bq h (lp_n hb k)
theorem wf {t : CE} {a : CS} {n : Nat} (h : asB (ev Φ t V) = some false) : whl Φ H F t a (n + 1) V = some (.next, V) := bq h rfl
theorem wb {t : CE} {a : CS} {n : Nat} (h : asB (ev Φ t V) = some true) (hb : ex Φ H F a V = some (.brk, V')) : whl Φ H F t a (n + 1) V = some (.next, V') := bq h (bq hb rfl)
noncomputable abbrev frl (Φ : Nat → List D → Option D) (H : Nat → List CB → Option (List CB)) (F : Nat) (bd : D → List CB → Option (List CB)) (a : CS) (ds : List D) (V : List CB) : Option (Fl × List CB) := fo bd (fun V => ex Φ H F a V) ds V
theorem xfr {g : CG} {it : CE} {a : CS} {d : D} {ds : List D} (h : ev Φ it V = some d) (hi : itemsD d = some ds) (k : frl Φ H F (bindG g) a ds V = R) : ex Φ H F (.fr g it a) V = R := bq h (bq hi k)
theorem xfre {k : Nat} {ks : List Nat} {it : CE} {a : CS} {ds : List D} (h : ev Φ it V = some (.lst ds)) (k' : frl Φ H F (bindE k ks) a (enumD 0 ds) V = R) : ex Φ H F (.fre k ks it a) V = R := bq (bq h rfl) k'
theorem xfrd {k : Nat} {it : CE} {a : CS} {d : D} {ds : List D} (h : ev Φ it V = some d) (hi : downD d = some ds) (k' : frl Φ H F (bindG (.nm k)) a ds V = R) : ex Φ H F (.frd k it a) V = R := bq (bq h hi) k'
theorem fn {bd : D → List CB → Option (List CB)} {a : CS} : frl Φ H F bd a [] V = some (.next, V) := rfl
theorem fc {bd : D → List CB → Option (List CB)} {a : CS} {d : D} {ds : List D} {V1 : List CB} (hb : bd d V = some V1) (h : ex Φ H F a V1 = some (.next, V')) (k : frl Φ H F bd a ds V' = R) : frl Φ H F bd a (d :: ds) V = R := bq hb (lp_n h k)
theorem fr_ret {bd : D → List CB → Option (List CB)} {a : CS} {d x : D} {ds : List D} {V1 : List CB} (hb : bd d V = some V1) (h : ex Φ H F a V1 = some (.ret x, V')) : frl Φ H F bd a (d :: ds) V = some (.ret x, V') := bq hb (bq h rfl)

/-! values -/
theorem yvar {k : Nat} {d : D} (h : gv V k = some d) : ev Φ (.var k) V = some d := h
theorem yrepl {a : CE} {x y z : List Nat} (h : ev Φ a V = some (.str x)) (h1 : x.length + (x.length + 1) * z.length ≤ 16777216) (h2 : y ≠ z) : ev Φ (.repl a y z) V = some (.str (replL x y z)) := bq h (if_pos ⟨h1, h2⟩)
theorem ycmpv {op : CmpOp} {a b : CE} {x y : D} {c : Bool} (h1 : ev Φ a V = some x) (h2 : ev Φ b V = some y) (h : cmpD op x y = some c) : ev Φ (.cmp op a b) V = some (ofB c) := bq h1 (bq h2 (mq h))
theorem ycmp {op : CmpOp} {a b : CE} {x y : D} {c : Bool} (h1 : ev Φ a V = some x) (h2 : ev Φ b V = some y) (h : cmpD op x y = some c) : asB (ev Φ (.cmp op a b) V) = some c := bq (ycmpv h1 h2 h) rfl
theorem yant {a b : CE} {c : Bool} (h1 : asB (ev Φ a V) = some true) (h2 : asB (ev Φ b V) = some c) : asB (ev Φ (.an a b) V) = some c := bq (a := ofB c) (bq h1 (mq h2)) rfl
theorem yanf {a b : CE} (h1 : asB (ev Φ a V) = some false) : asB (ev Φ (.an a b) V) = some false := bq (a := ofB false) (bq h1 rfl) rfl
theorem yort {a b : CE} (h1 : asB (ev Φ a V) = some true) : asB (ev Φ (.orr a b) V) = some true := bq (a := ofB true) (bq h1 rfl) rfl
theorem yorf {a b : CE} {c : Bool} (h1 : asB (ev Φ a V) = some false) (h2 : asB (ev Φ b V) = some c) : asB (ev Φ (.orr a b) V) = some c := bq (a := ofB c) (bq h1 (mq h2)) rfl
theorem ynt {a : CE} {c : Bool} (h : asB (ev Φ a V) = some c) : asB (ev Φ (.nt a) V) = some !c := bq (a := ofB !c) (mq h) rfl
theorem ytv {a : CE} {d : D} {c : Bool} (h : ev Φ a V = some d) (ht : truthD d = some c) : asB (ev Φ (.tv a) V) = some c := bq (a := ofB c) (mq (bq h ht)) rfl
theorem yidx {a i : CE} {d r : D} {j : Int} (h1 : ev Φ a V = some d) (h2 : ev Φ i V = some (.int j)) (h : idxD d j = some r) : ev Φ (.idx a i) V = some r := bq h1 (bq h2 h)
theorem ybin {op : Operator} {a b : CE} {x y d : D} (h1 : ev Φ a V = some x) (h2 : ev Φ b V = some y) (h : binD op x y = some d) : ev Φ (.bin op a b) V = some d := bq h1 (bq h2 h)
theorem ylen {a : CE} {d r : D} (h1 : ev Φ a V = some d) (h : lenD d = some r) : ev Φ (.len a) V = some r := bq h1 h
theorem ynil : ev Φ .nil V = some (.lst []) := rfl
theorem ycons {a r : CE} {x : D} {l : List D} (h1 : ev Φ a V = some x) (h2 : ev Φ r V = some (.lst l)) : ev Φ (.cons a r) V = some (.lst (x :: l)) := bq h1 (bq h2 rfl)
theorem ytup {l : CE} {ds : List D} (h : ev Φ l V = some (.lst ds)) (hf : ds.length ≤ 16777216) : ev Φ (.tup l) V = some (.tup ds) := bq (bq h rfl) (mq (fitL_of hf))
theorem ylst {l : CE} {ds : List D} (h : ev Φ l V = some (.lst ds)) (hf : ds.length ≤ 16777216) : ev Φ (.lst l) V = some (.lst ds) := bq (bq h rfl) (mq (fitL_of hf))
theorem ycal {j : Nat} {l : CE} {ds : List D} {d : D} (h : ev Φ l V = some (.lst ds)) (hc : Φ j ds = some d) : ev Φ (.cal j l) V = some d := bq (bq h rfl) hc
theorem yitet {t a b : CE} {d : D} (h : asB (ev Φ t V) = some true) (k : ev Φ a V = some d) : ev Φ (.ite t a b) V = some d := bq h k
theorem yitef {t a b : CE} {d : D} (h : asB (ev Φ t V) = some false) (k : ev Φ b V = some d) : ev Φ (.ite t a b) V = some d := bq h k
theorem yfmt {a : CE} {l : List Nat} (h : ev Φ a V = some (.str l)) (hf : l.length ≤ 16777216) : ev Φ (.fmt a) V = some (.str l) := bq h (if_pos (fit_iff.mpr hf))
theorem yjs {l : CE} {ds : List D} {ss : List (List Nat)} (h : ev Φ l V = some (.lst ds)) (hs : strsD ds = some ss) (hf : ss.flatten.length ≤ 16777216) : ev Φ (.js l) V = some (.str ss.flatten) := bq h (bq (a := ds) rfl (bq hs (if_pos (fit_iff.mpr hf))))
theorem yjoin {a l : CE} {x : List Nat} {d r : D} (h1 : ev Φ a V = some (.str x)) (h2 : ev Φ l V = some (.lst [d])) (h : joinD x d = some r) : ev Φ (.join a l) V = some r := bq h1 (bq h2 h)
theorem yfind {a l : CE} {x y : List Nat} {i j : Int} (h1 : ev Φ a V = some (.str x)) (h2 : ev Φ l V = some (.lst [.str y, .int i, .int j])) : ev Φ (.find a l) V = some (.int (findL x y i j)) := bq h1 (bq h2 rfl)
theorem ymidx {k : Nat} {i : CE} {l : List D} {j : Int} {d : D} (h1 : gm V k = some l) (h2 : ev Φ i V = some (.int j)) (h : pick l j = some d) : ev Φ (.midx k i) V = some d := bq h1 (bq h2 h)
theorem ymtv {k : Nat} {l : List D} (h1 : gm V k = some l) (hf : l.length ≤ 16777216) : asB (ev Φ (.mtv k) V) = some !l.isEmpty := bq (a := ofB !l.isEmpty) (bq h1 (mq (fitL_of hf))) rfl
theorem ymlen {k : Nat} {l : List D} (h1 : gm V k = some l) (hf : l.length ≤ 16777216) : ev Φ (.mlen k) V = some (.int l.length) := bq h1 (mq (fitL_of hf))
theorem ysl {a lo hi : CE} {d r : D} {l h : Option Int} (h1 : ev Φ a V = some d) (hl : partE (ev Φ lo V) lo = some l) (hh : partE (ev Φ hi V) hi = some h) (hs : sliceD d l h = some r) : ev Φ (.sl a lo hi) V = some r := bq h1 (bq hl (bq hh hs))
end

end Mine
end TE9
section TF1
open PySem PySem.W PyProof.Rows PySem.Calls
set_option maxRecDepth 100000
namespace Mine

noncomputable def defOf (x : Str) : List Stmt → Option (List Stmt × Scope)
  | [] => none
  | .FunctionDef n _ body _ _ _ sc _ _ _ :: r => if n == x then some (body, sc) else defOf x r
  | _ :: r => defOf x r
noncomputable def fnT : Nat → Option Str
  | 0 => some (Str.ofString "_platform")
  | 1 => some (Str.ofString "translate")
  | 2 => some (Str.ofString "_translate")
  | 3 => some (Str.ofString "_join_translated_parts")
  | 4 => some (Str.ofString "escape")
  | 5 => some (Str.ofString "_law_unit")
  | 6 => some (Str.ofString "_law_tokens")
  | 7 => some (Str.ofString "_law_fits")
  | 8 => some (Str.ofString "_law_takes")
  | 9 => some (Str.ofString "_law_pair")
  | 10 => some (Str.ofString "_law_alike")
  | 11 => some (Str.ofString "_law_meets")
  | _ => none
noncomputable def n_platform : List Str := [Str.ofString "args", Str.ofString "platform", Str.ofString "cleaned"]
noncomputable def c_platform : CS :=
  .sq (.hook 0) <|
  .sq (.set 1 (.repl (.var 1) [32] [95])) <|
  .sq (.set 1 (.repl (.var 1) [47] [45])) <|
  .sq (.set 1 (.repl (.var 1) [92] [45])) <|
  .sq (.set 1 (.repl (.var 1) [58] [45])) <|
  .sq (.set 1 (.repl (.var 1) [59] [45])) <|
  .sq (.set 1 (.repl (.var 1) [34] [45])) <|
  .sq (.set 1 (.repl (.var 1) [40] [45])) <|
  .sq (.set 1 (.repl (.var 1) [41] [45])) <|
  .sq (.set 1 (.repl (.var 1) [117, 110, 107, 110, 111, 119, 110] [])) <|
  .sq (.whl (.tv (.bool true)) (.sq (.set 2 (.repl (.var 1) [45, 45] [45])) <|
  .sq (.ifs (.cmp .Eq (.var 2) (.var 1)) (.sq (.brk) <|
  .sk) (.sk)) <|
  .sq (.set 1 (.var 2)) <|
  .sk)) <|
  .sq (.whl (.an (.tv (.var 1)) (.cmp .Eq (.idx (.var 1) (.neg (.int 1))) (.str [45]))) (.sq (.set 1 (.sl (.var 1) .no (.neg (.int 1)))) <|
  .sk)) <|
  .sq (.ret (.var 1)) <|
  .sk
noncomputable def n_translate : List Str := [Str.ofString "pat", Str.ofString "STAR", Str.ofString "QUESTION_MARK", Str.ofString "res", Str.ofString "add", Str.ofString "i", Str.ofString "n", Str.ofString "c", Str.ofString "j", Str.ofString "stuff", Str.ofString "chunks", Str.ofString "k", Str.ofString "chunk"]
noncomputable def c_translate : CS :=
  .sq (.newl 3 .nil) <|
  .sq (.adda 4 3) <|
  .sq (.set2 5 6 (.tup (.cons (.int 0) (.cons (.len (.var 0)) .nil)))) <|
  .sq (.whl (.cmp .Lt (.var 5) (.var 6)) (.sq (.set 7 (.idx (.var 0) (.var 5))) <|
  .sq (.set 5 (.bin .Add (.var 5) (.int 1))) <|
  .sq (.ifs (.cmp .Eq (.var 7) (.str [42])) (.sq (.ifs (.orr (.nt (.mtv 3)) (.cmp .IsNot (.midx 3 (.neg (.int 1))) (.var 1))) (.sq (.addc 4 3 (.var 1)) <|
  .sk) (.sk)) <|
  .sk) (.sq (.ifs (.cmp .Eq (.var 7) (.str [63])) (.sq (.addc 4 3 (.var 2)) <|
  .sk) (.sq (.ifs (.cmp .Eq (.var 7) (.str [91])) (.sq (.set 8 (.var 5)) <|
  .sq (.ifs (.an (.cmp .Lt (.var 8) (.var 6)) (.cmp .Eq (.idx (.var 0) (.var 8)) (.str [33]))) (.sq (.set 8 (.bin .Add (.var 8) (.int 1))) <|
  .sk) (.sk)) <|
  .sq (.ifs (.an (.cmp .Lt (.var 8) (.var 6)) (.cmp .Eq (.idx (.var 0) (.var 8)) (.str [93]))) (.sq (.set 8 (.bin .Add (.var 8) (.int 1))) <|
  .sk) (.sk)) <|
  .sq (.whl (.an (.cmp .Lt (.var 8) (.var 6)) (.cmp .NotEq (.idx (.var 0) (.var 8)) (.str [93]))) (.sq (.set 8 (.bin .Add (.var 8) (.int 1))) <|
  .sk)) <|
  .sq (.ifs (.cmp .GtE (.var 8) (.var 6)) (.sq (.addc 4 3 (.str [92, 91])) <|
  .sk) (.sq (.set 9 (.sl (.var 0) (.var 5) (.var 8))) <|
  .sq (.ifs (.cmp .NotIn (.str [45]) (.var 9)) (.sq (.set 9 (.repl (.var 9) [92] [92, 92])) <|
  .sk) (.sq (.newl 10 .nil) <|
  .sq (.set 11 (.ite (.cmp .Eq (.idx (.var 0) (.var 5)) (.str [33])) (.bin .Add (.var 5) (.int 2)) (.bin .Add (.var 5) (.int 1)))) <|
  .sq (.whl (.tv (.bool true)) (.sq (.set 11 (.find (.var 0) (.cons (.str [45]) (.cons (.var 11) (.cons (.var 8) .nil))))) <|
  .sq (.ifs (.cmp .Lt (.var 11) (.int 0)) (.sq (.brk) <|
  .sk) (.sk)) <|
  .sq (.app 10 (.sl (.var 0) (.var 5) (.var 11))) <|
  .sq (.set 5 (.bin .Add (.var 11) (.int 1))) <|
  .sq (.set 11 (.bin .Add (.var 11) (.int 3))) <|
  .sk)) <|
  .sq (.set 12 (.sl (.var 0) (.var 5) (.var 8))) <|
  .sq (.ifs (.tv (.var 12)) (.sq (.app 10 (.var 12)) <|
  .sk) (.sq (.augl 10 [45]) <|
  .sk)) <|
  .sq (.frd 11 (.bin .Sub (.mlen 10) (.int 1)) (.sq (.ifs (.cmp .Gt (.idx (.midx 10 (.bin .Sub (.var 11) (.int 1))) (.neg (.int 1))) (.idx (.midx 10 (.var 11)) (.int 0))) (.stuck) (.sk)) <|
  .sk)) <|
  .gh (.frz 10) <| .sq (.hook 0) <|
  .sk)) <|
  .sq (.hook 1) <|
  .sq (.set 5 (.bin .Add (.var 8) (.int 1))) <|
  .sq (.ifs (.nt (.tv (.var 9))) (.sq (.addc 4 3 (.str [40, 63, 33, 41])) <|
  .sk) (.sq (.ifs (.cmp .Eq (.var 9) (.str [33])) (.sq (.addc 4 3 (.str [46])) <|
  .sk) (.sq (.ifs (.cmp .Eq (.idx (.var 9) (.int 0)) (.str [33])) (.sq (.set 9 (.bin .Add (.str [94]) (.sl (.var 9) (.int 1) .no))) <|
  .sk) (.sq (.ifs (.cmp .In (.idx (.var 9) (.int 0)) (.tup (.cons (.str [94]) (.cons (.str [91]) .nil)))) (.sq (.set 9 (.bin .Add (.str [92]) (.var 9))) <|
  .sk) (.sk)) <|
  .sk)) <|
  .sq (.addc 4 3 (.js (.cons (.str [91]) (.cons (.fmt (.var 9)) (.cons (.str [93]) .nil))))) <|
  .sk)) <|
  .sk)) <|
  .sk)) <|
  .sk) (.sq (.addc 4 3 (.cal 4 (.cons (.var 7) .nil))) <|
  .sk)) <|
  .sk)) <|
  .sk)) <|
  .sk)) <|
  .sq (.asr (.cmp .Eq (.var 5) (.var 6))) <|
  .gh (.drop 4) <| .gh (.frz 3) <| .sq (.ret (.var 3)) <|
  .sk
noncomputable def n_join_translated_parts : List Str := [Str.ofString "inp", Str.ofString "STAR", Str.ofString "res", Str.ofString "add", Str.ofString "i", Str.ofString "n", Str.ofString "fixed"]
noncomputable def c_join_translated_parts : CS :=
  .sq (.newl 2 .nil) <|
  .sq (.adda 3 2) <|
  .sq (.set2 4 5 (.tup (.cons (.int 0) (.cons (.len (.var 0)) .nil)))) <|
  .sq (.whl (.an (.cmp .Lt (.var 4) (.var 5)) (.cmp .IsNot (.idx (.var 0) (.var 4)) (.var 1))) (.sq (.addc 3 2 (.idx (.var 0) (.var 4))) <|
  .sq (.aug 4 (.int 1)) <|
  .sk)) <|
  .sq (.whl (.cmp .Lt (.var 4) (.var 5)) (.sq (.asr (.cmp .Is (.idx (.var 0) (.var 4)) (.var 1))) <|
  .sq (.aug 4 (.int 1)) <|
  .sq (.ifs (.cmp .Eq (.var 4) (.var 5)) (.sq (.addc 3 2 (.str [46, 42])) <|
  .sq (.brk) <|
  .sk) (.sk)) <|
  .sq (.asr (.cmp .IsNot (.idx (.var 0) (.var 4)) (.var 1))) <|
  .sq (.newl 6 .nil) <|
  .sq (.whl (.an (.cmp .Lt (.var 4) (.var 5)) (.cmp .IsNot (.idx (.var 0) (.var 4)) (.var 1))) (.sq (.app 6 (.idx (.var 0) (.var 4))) <|
  .sq (.aug 4 (.int 1)) <|
  .sk)) <|
  .gh (.frz 6) <| .sq (.set 6 (.join (.str []) (.cons (.var 6) .nil))) <|
  .sq (.ifs (.cmp .Eq (.var 4) (.var 5)) (.sq (.addc 3 2 (.str [46, 42])) <|
  .sq (.addc 3 2 (.var 6)) <|
  .sk) (.sq (.addc 3 2 (.js (.cons (.str [40, 63, 62, 46, 42, 63]) (.cons (.fmt (.var 6)) (.cons (.str [41]) .nil))))) <|
  .sk)) <|
  .sk)) <|
  .sq (.asr (.cmp .Eq (.var 4) (.var 5))) <|
  .gh (.drop 3) <| .gh (.frz 2) <| .sq (.set 2 (.join (.str []) (.cons (.var 2) .nil))) <|
  .sq (.ret (.js (.cons (.str [40, 63, 115, 58]) (.cons (.fmt (.var 2)) (.cons (.str [41, 92, 90]) .nil))))) <|
  .sk
noncomputable def n_law_unit : List Str := [Str.ofString "text", Str.ofString "k", Str.ofString "bare", Str.ofString "off", Str.ofString "barred", Str.ofString "spans", Str.ofString "first", Str.ofString "last"]
noncomputable def c_law_unit : CS :=
  .sq (.ifs (.cmp .Eq (.idx (.var 0) (.var 1)) (.str [46])) (.sq (.ret (.tup (.cons (.tup (.cons (.bool true) (.cons (.lst .nil) .nil))) (.cons (.bin .Add (.var 1) (.int 1)) .nil)))) <|
  .sk) (.sk)) <|
  .sq (.ifs (.cmp .Eq (.sl (.var 0) (.var 1) (.bin .Add (.var 1) (.int 4))) (.str [40, 63, 33, 41])) (.sq (.ret (.tup (.cons (.tup (.cons (.bool false) (.cons (.lst .nil) .nil))) (.cons (.bin .Add (.var 1) (.int 4)) .nil)))) <|
  .sk) (.sk)) <|
  .sq (.ifs (.cmp .NotEq (.idx (.var 0) (.var 1)) (.str [91])) (.sq (.set 2 (.cmp .NotEq (.idx (.var 0) (.var 1)) (.str [92]))) <|
  .sq (.aug 1 (.ite (.tv (.var 2)) (.int 0) (.int 1))) <|
  .sq (.set 3 (.cmp .In (.idx (.var 0) (.var 1)) (.ite (.tv (.var 2)) (.str [36, 40, 41, 42, 43, 63, 94, 123, 124]) (.str [97, 65, 98, 66, 100, 68, 102, 110, 78, 114, 115, 83, 116, 117, 85, 118, 119, 87, 120, 90, 48, 49, 50, 51, 52, 53, 54, 55, 56, 57])))) <|
  .sq (.ret (.tup (.cons (.tup (.cons (.bool false) (.cons (.ite (.tv (.var 3)) (.lst .nil) (.lst (.cons (.tup (.cons (.idx (.var 0) (.var 1)) (.cons (.idx (.var 0) (.var 1)) .nil))) .nil))) .nil))) (.cons (.bin .Add (.var 1) (.int 1)) .nil)))) <|
  .sk) (.sk)) <|
  .sq (.set 4 (.cmp .Eq (.idx (.var 0) (.bin .Add (.var 1) (.int 1))) (.str [94]))) <|
  .sq (.aug 1 (.ite (.tv (.var 4)) (.int 2) (.int 1))) <|
  .sq (.newl 5 .nil) <|
  .sq (.whl (.cmp .NotEq (.idx (.var 0) (.var 1)) (.str [93])) (.sq (.aug 1 (.ite (.cmp .Eq (.idx (.var 0) (.var 1)) (.str [92])) (.int 1) (.int 0))) <|
  .sq (.set 6 (.idx (.var 0) (.var 1))) <|
  .sq (.set 7 (.var 6)) <|
  .sq (.aug 1 (.int 1)) <|
  .sq (.ifs (.an (.cmp .Eq (.idx (.var 0) (.var 1)) (.str [45])) (.cmp .NotEq (.idx (.var 0) (.bin .Add (.var 1) (.int 1))) (.str [93]))) (.sq (.aug 1 (.ite (.cmp .Eq (.idx (.var 0) (.bin .Add (.var 1) (.int 1))) (.str [92])) (.int 2) (.int 1))) <|
  .sq (.set 7 (.idx (.var 0) (.var 1))) <|
  .sq (.aug 1 (.int 1)) <|
  .sk) (.sk)) <|
  .sq (.app 5 (.tup (.cons (.var 6) (.cons (.var 7) .nil)))) <|
  .sk)) <|
  .gh (.frz 5) <| .sq (.ret (.tup (.cons (.tup (.cons (.var 4) (.cons (.var 5) .nil))) (.cons (.bin .Add (.var 1) (.int 1)) .nil)))) <|
  .sk
noncomputable def n_law_tokens : List Str := [Str.ofString "text", Str.ofString "tokens", Str.ofString "k", Str.ofString "units", Str.ofString "unit"]
noncomputable def c_law_tokens : CS :=
  .sq (.ifs (.orr (.cmp .NotEq (.sl (.var 0) .no (.int 4)) (.str [40, 63, 115, 58])) (.cmp .NotEq (.sl (.var 0) (.neg (.int 3)) .no) (.str [41, 92, 90]))) (.sq (.ret (.lst (.cons (.tup (.cons (.str [111, 110, 101]) (.cons (.lst (.cons (.tup (.cons (.bool false) (.cons (.lst .nil) .nil))) .nil)) .nil))) .nil))) <|
  .sk) (.sk)) <|
  .sq (.newl 1 .nil) <|
  .sq (.set 2 (.int 4)) <|
  .sq (.whl (.cmp .Lt (.var 2) (.bin .Sub (.len (.var 0)) (.int 3))) (.sq (.ifs (.cmp .Eq (.sl (.var 0) (.var 2) (.bin .Add (.var 2) (.int 6))) (.str [40, 63, 62, 46, 42, 63])) (.sq (.aug 2 (.int 6)) <|
  .sq (.newl 3 .nil) <|
  .sq (.whl (.cmp .NotEq (.idx (.var 0) (.var 2)) (.str [41])) (.sq (.sett [4, 2] (.cal 5 (.cons (.var 0) (.cons (.var 2) .nil)))) <|
  .sq (.app 3 (.var 4)) <|
  .sk)) <|
  .gh (.frz 3) <| .sq (.app 1 (.tup (.cons (.str [104, 101, 108, 100]) (.cons (.var 3) .nil)))) <|
  .sq (.aug 2 (.int 1)) <|
  .sk) (.sq (.ifs (.cmp .Eq (.sl (.var 0) (.var 2) (.bin .Add (.var 2) (.int 2))) (.str [46, 42])) (.sq (.app 1 (.tup (.cons (.str [114, 117, 110]) (.cons (.lst .nil) .nil)))) <|
  .sq (.aug 2 (.int 2)) <|
  .sk) (.sq (.sett [4, 2] (.cal 5 (.cons (.var 0) (.cons (.var 2) .nil)))) <|
  .sq (.app 1 (.tup (.cons (.str [111, 110, 101]) (.cons (.lst (.cons (.var 4) .nil)) .nil)))) <|
  .sk)) <|
  .sk)) <|
  .sk)) <|
  .gh (.frz 1) <| .sq (.ret (.var 1)) <|
  .sk
noncomputable def n_law_fits : List Str := [Str.ofString "units", Str.ofString "name", Str.ofString "place", Str.ofString "k", Str.ofString "barred", Str.ofString "spans", Str.ofString "first", Str.ofString "last", Str.ofString "sign"]
noncomputable def c_law_fits : CS :=
  .sq (.ifs (.cmp .Gt (.bin .Add (.var 2) (.len (.var 0))) (.len (.var 1))) (.sq (.ret (.bool false)) <|
  .sk) (.sk)) <|
  .sq (.fre 3 [4, 5] (.var 0) (.sq (.ifs (.cmp .NotIn (.bool true) (.comp (.nm 8) (.idx (.var 1) (.bin .Add (.var 2) (.var 3))) (.cmp .NotEq (.var 4) (.anyc (.comp (.tp [6, 7]) (.var 5) (.chain .LtE .LtE (.var 6) (.var 8) (.var 7)) .no))) .no)) (.sq (.ret (.bool false)) <|
  .sk) (.sk)) <|
  .sk)) <|
  .sq (.ret (.bool true)) <|
  .sk
noncomputable def n_law_takes : List Str := [Str.ofString "tokens", Str.ofString "name", Str.ofString "places", Str.ofString "kind", Str.ofString "units", Str.ofString "place", Str.ofString "after"]
noncomputable def c_law_takes : CS :=
  .sq (.set 2 (.lst (.cons (.int 0) .nil))) <|
  .sq (.fr (.tp [3, 4]) (.var 0) (.sq (.ifs (.cmp .Eq (.var 3) (.str [114, 117, 110])) (.sq (.set 2 (.ite (.tv (.var 2)) (.lrg (.idx (.var 2) (.int 0)) (.bin .Add (.len (.var 1)) (.int 1))) (.lst .nil))) <|
  .sk) (.sq (.ifs (.cmp .Eq (.var 3) (.str [111, 110, 101])) (.sq (.setc 2 (.comp (.nm 5) (.var 2) (.bin .Add (.var 5) (.int 1)) (.tv (.cal 7 (.cons (.var 4) (.cons (.var 1) (.cons (.var 5) .nil))))))) <|
  .sk) (.sq (.newl 6 .nil) <|
  .sq (.fr (.nm 5) (.var 2) (.sq (.whl (.an (.cmp .LtE (.bin .Add (.var 5) (.len (.var 4))) (.len (.var 1))) (.nt (.tv (.cal 7 (.cons (.var 4) (.cons (.var 1) (.cons (.var 5) .nil))))))) (.sq (.aug 5 (.int 1)) <|
  .sk)) <|
  .sq (.ifs (.cmp .LtE (.bin .Add (.var 5) (.len (.var 4))) (.len (.var 1))) (.sq (.app 6 (.bin .Add (.var 5) (.len (.var 4)))) <|
  .sk) (.sk)) <|
  .sk)) <|
  .gh (.frz 6) <| .sq (.set 2 (.var 6)) <|
  .sk)) <|
  .sk)) <|
  .sk)) <|
  .sq (.ret (.cmp .In (.len (.var 1)) (.var 2))) <|
  .sk
noncomputable def n_law_pair : List Str := [Str.ofString "kind", Str.ofString "rest", Str.ofString "signs", Str.ofString "one", Str.ofString "two", Str.ofString "free", Str.ofString "turn"]
noncomputable def c_law_pair : CS :=
  .sq (.set 2 (.str [32, 95, 45, 47, 92, 58, 59, 34, 40, 41])) <|
  .sq (.set 3 (.idx (.var 2) (.bin .Mod (.var 1) (.int 10)))) <|
  .sq (.set 4 (.idx (.var 2) (.bin .Mod (.bin .FloorDiv (.var 1) (.int 10)) (.int 10)))) <|
  .sq (.set 5 (.idx (.var 2) (.bin .Mod (.bin .Add (.bin .Mult (.var 1) (.int 3)) (.bin .FloorDiv (.var 1) (.int 100))) (.int 10)))) <|
  .sq (.set 6 (.bin .Mod (.bin .FloorDiv (.var 1) (.int 3)) (.int 3))) <|
  .sq (.ifs (.cmp .Lt (.var 0) (.int 2)) (.sq (.ret (.tup (.cons (.var 3) (.cons (.var 3) (.cons (.var 3) .nil))))) <|
  .sk) (.sk)) <|
  .sq (.ifs (.cmp .Lt (.var 0) (.int 5)) (.sq (.ret (.tup (.cons (.bin .Add (.bin .Add (.bin .Add (.str [91]) (.var 3)) (.var 4)) (.str [93])) (.cons (.bin .Add (.var 3) (.var 4)) (.cons (.idx (.lst (.cons (.var 3) (.cons (.var 4) (.cons (.var 5) .nil)))) (.var 6)) .nil))))) <|
  .sk) (.sk)) <|
  .sq (.ifs (.cmp .Lt (.var 0) (.int 7)) (.sq (.ret (.tup (.cons (.bin .Add (.bin .Add (.str [91]) (.ite (.cmp .Eq (.var 0) (.int 5)) (.bin .Add (.str [120]) (.var 3)) (.bin .Add (.var 3) (.str [120])))) (.str [93])) (.cons (.bin .Add (.str [120]) (.var 3)) (.cons (.idx (.lst (.cons (.var 3) (.cons (.var 5) (.cons (.str [120]) .nil)))) (.var 6)) .nil))))) <|
  .sk) (.sk)) <|
  .sq (.ifs (.cmp .Eq (.var 0) (.int 7)) (.sq (.ret (.tup (.cons (.str [63]) (.cons (.str [63]) (.cons (.var 3) .nil))))) <|
  .sk) (.sk)) <|
  .sq (.ifs (.cmp .Lt (.var 0) (.int 10)) (.sq (.ret (.tup (.cons (.str [42]) (.cons (.str [42]) (.cons (.idx (.lst (.cons (.var 3) (.cons (.bin .Add (.bin .Add (.var 3) (.str [120])) (.var 4)) (.cons (.str []) .nil)))) (.var 6)) .nil))))) <|
  .sk) (.sk)) <|
  .sq (.ifs (.cmp .Eq (.var 0) (.int 10)) (.sq (.ret (.tup (.cons (.var 3) (.cons (.var 3) (.cons (.var 4) .nil))))) <|
  .sk) (.sk)) <|
  .sq (.ret (.tup (.cons (.str [91, 119, 45, 121, 93]) (.cons (.str [119, 120, 121]) (.cons (.idx (.lst (.cons (.str [120]) (.cons (.str [120]) (.cons (.var 3) .nil)))) (.var 6)) .nil))))) <|
  .sk
noncomputable def n_law_alike : List Str := [Str.ofString "sign", Str.ofString "group"]
noncomputable def c_law_alike : CS :=
  .sq (.fr (.nm 1) (.lst (.cons (.str [95, 32]) (.cons (.str [45, 47, 92, 58, 59, 34, 40, 41]) .nil))) (.sq (.ifs (.cmp .In (.var 0) (.var 1)) (.sq (.ret (.var 1)) <|
  .sk) (.sk)) <|
  .sk)) <|
  .sq (.ret (.var 0)) <|
  .sk
noncomputable def n_law_meets : List Str := [Str.ofString "items", Str.ofString "alike", Str.ofString "places", Str.ofString "item", Str.ofString "ahead", Str.ofString "place", Str.ofString "sign"]
noncomputable def c_law_meets : CS :=
  .sq (.set 2 (.lst (.cons (.int 0) .nil))) <|
  .sq (.fr (.nm 3) (.var 0) (.sq (.ifs (.cmp .Eq (.var 3) (.str [42])) (.sq (.set 2 (.ite (.tv (.var 2)) (.lrg (.idx (.var 2) (.int 0)) (.bin .Add (.len (.var 1)) (.int 1))) (.lst .nil))) <|
  .sk) (.sq (.setc 4 (.comp (.nm 5) (.var 2) (.var 5) (.cmp .Lt (.var 5) (.len (.var 1))))) <|
  .sq (.setc 2 (.comp (.nm 5) (.var 4) (.bin .Add (.var 5) (.int 1)) (.orr (.cmp .Eq (.var 3) (.str [63])) (.cmp .In (.bool true) (.comp (.nm 6) (.idx (.var 1) (.var 5)) (.cmp .In (.var 6) (.var 3)) .no))))) <|
  .sk)) <|
  .sk)) <|
  .sq (.ret (.cmp .In (.len (.var 1)) (.var 2))) <|
  .sk
noncomputable def n_law : List Str := [Str.ofString "script", Str.ofString "patterns", Str.ofString "names", Str.ofString "written", Str.ofString "item", Str.ofString "run", Str.ofString "number", Str.ofString "pattern", Str.ofString "items", Str.ofString "tokens", Str.ofString "fit", Str.ofString "name", Str.ofString "alike", Str.ofString "sign", Str.ofString "told", Str.ofString "due", Str.ofString "signs"]
noncomputable def c_law : CS :=
  .sq (.newl 1 (.cons (.tup (.cons (.str [120]) (.cons (.lst (.cons (.str [120]) .nil)) .nil))) .nil)) <|
  .sq (.newl 2 (.cons (.str [120]) .nil)) <|
  .sq (.fr (.tp [3, 4, 5]) (.bin .Add (.comp (.nm 6) (.sl (.var 0) .no (.int 3)) (.cal 9 (.cons (.bin .Mod (.var 6) (.int 12)) (.cons (.bin .FloorDiv (.var 6) (.int 12)) .nil))) .no) (.lst (.cons (.tup (.cons (.str [91, 32, 47, 93]) (.cons (.str [32, 47]) (.cons (.str [95]) .nil)))) .nil))) (.sq (.app 1 (.tup (.cons (.bin .Add (.bin .Add (.idx (.midx 1 (.neg (.int 1))) (.int 0)) (.var 3)) (.str [120])) (.cons (.bin .Add (.idx (.midx 1 (.neg (.int 1))) (.int 1)) (.lst (.cons (.var 4) (.cons (.str [120]) .nil)))) .nil)))) <|
  .sq (.app 2 (.bin .Add (.bin .Add (.midx 2 (.neg (.int 1))) (.var 5)) (.str [120]))) <|
  .sk)) <|
  .gh (.frz 1) <| .gh (.frz 2) <| .sq (.fr (.tp [7, 8]) (.var 1) (.sq (.set 9 (.cal 6 (.cons (.cal 1 (.cons (.var 7) .nil)) .nil))) <|
  .sq (.set 10 (.cal 6 (.cons (.cal 1 (.cons (.cal 0 (.cons (.var 7) .nil)) .nil)) .nil))) <|
  .sq (.fr (.nm 11) (.var 2) (.sq (.setc 12 (.comp (.nm 13) (.var 11) (.cal 10 (.cons (.var 13) .nil)) .no)) <|
  .sq (.set 14 (.cal 0 (.cons (.var 11) .nil))) <|
  .sq (.set 15 (.cal 11 (.cons (.var 8) (.cons (.var 12) .nil)))) <|
  .sq (.ifs (.cmp .NotEq (.var 14) (.join (.str []) (.cons (.comp (.nm 16) (.var 12) (.idx (.var 16) (.int 0)) .no) .nil))) (.sq (.ret (.bool false)) <|
  .sk) (.sk)) <|
  .sq (.ifs (.orr (.cmp .IsNot (.cal 8 (.cons (.var 9) (.cons (.var 12) .nil))) (.var 15)) (.cmp .IsNot (.cal 8 (.cons (.var 10) (.cons (.var 14) .nil))) (.var 15))) (.sq (.ret (.bool false)) <|
  .sk) (.sk)) <|
  .sk)) <|
  .sk)) <|
  .sq (.ret (.bool true)) <|
  .sk
noncomputable def defAt (x : Str) : Option (List Stmt × Scope) := defOf x PySem.Challenge.pw_nq0086_01.main.body
noncomputable def fits (x : Str) (N : List Str) (hk : Nat → Stmt → Bool) (c : CS) : Bool := match defAt x with
  | some (b, sc) => isB N fnT hk sc.names c (.inr b)
  | none => false
noncomputable def noHk : Nat → Stmt → Bool := fun _ _ => false
noncomputable def anyHk : Nat → Stmt → Bool := fun _ _ => true
theorem m_unit : fits "_law_unit" n_law_unit noHk c_law_unit = true := by decide +kernel
theorem m_tokens : fits "_law_tokens" n_law_tokens noHk c_law_tokens = true := by decide +kernel
theorem m_fits : fits "_law_fits" n_law_fits noHk c_law_fits = true := by decide +kernel
theorem m_takes : fits "_law_takes" n_law_takes noHk c_law_takes = true := by decide +kernel
theorem m_pair : fits "_law_pair" n_law_pair noHk c_law_pair = true := by decide +kernel
theorem m_alike : fits "_law_alike" n_law_alike noHk c_law_alike = true := by decide +kernel
theorem m_meets : fits "_law_meets" n_law_meets noHk c_law_meets = true := by decide +kernel
theorem m_law : fits "law" n_law noHk c_law = true := by decide +kernel
theorem m_join : fits "_join_translated_parts" n_join_translated_parts noHk c_join_translated_parts = true := by decide +kernel
theorem m_translate : fits "_translate" n_translate anyHk c_translate = true := by decide +kernel
theorem m_platform : fits "_platform" n_platform anyHk c_platform = true := by decide +kernel
end Mine
end TF1
section TG1
open PySem PySem.W PyProof.Rows PySem.Calls
set_option maxRecDepth 100000
namespace Mine
namespace FF
theorem sub_key_lookup : isSubtype (.type "KeyError") (.type "LookupError") = pure true := by rw [isSubtype_type]; kernel_rfl
end FF
section
variable {prog : Program} {w : World} {A : Around} {E : Value → Shared → Prop} {s : Shared} {d : Addr} {kvs : List (Int × Value)}

theorem look_text {c : Nat} {l : Str} {t : Tok} {Q : Builtin.Str.Mapped → Shared → Prop} (hd : s.heap.DictOf (intKind prog w) d kvs) (hv : valueAt kvs (c : Int) = some (.str l t)) (h : ∀ tk, s.toks ≤ tk → Q (.text l) { s with toks := tk }) :
    wpAny (model prog w) A (Builtin.Str.tableLookup (.ref d) c) Q E s := by
  unfold Builtin.Str.tableLookup
  refine wpAny_bind (wpAny_attempt (wpAny_bind (wpAny_mkInt ?_)))
  refine wpAny_getItem_of (s := { s with toks := s.toks + 1 }) (intKind_is prog w c s.toks) hd.mapOf hv ?_
  dsimp only
  refine wpAny_bind (wpAny_of_eq (a := none) rfl ?_)
  dsimp only
  refine wpAny_bind (wpAny_of_eq (a := some l) rfl ?_)
  exact wpAny_pure (h _ (by show s.toks ≤ s.toks + 1 + 1; lia))
theorem look_keep {c : Nat} {Q : Builtin.Str.Mapped → Shared → Prop} (hd : s.heap.DictOf (intKind prog w) d kvs) (hlo : (d == sysModules) = false) (hh : A.handled = none) (hv : valueAt kvs (c : Int) = none)
    (h : ∀ h' tk, (∀ b o, s.heap.get? b = some o → h'.get? b = some o) → s.toks ≤ tk → Q .keep { s with heap := h', toks := tk }) :
    wpAny (model prog w) A (Builtin.Str.tableLookup (.ref d) c) Q E s := by
  unfold Builtin.Str.tableLookup
  refine wpAny_bind (wpAny_attempt (wpAny_bind (wpAny_mkInt ?_)))
  refine wpAny_getItem_missing_of (s := { s with toks := s.toks + 1 }) (intKind_is prog w c s.toks) hlo hh hd.mapOf hv fun h' e hx => ?_
  obtain ⟨ob, t, he, hc, hda⟩ := hx.there
  dsimp only
  have hT : ({ s with heap := h', toks := s.toks + 1 + 1 } : Shared).TypeIs (.ref e) "KeyError" := ⟨ob, he, hc⟩
  refine wpAny_bind (wpAny_isInstance hT FF.sub_key_lookup ?_)
  rw [if_pos rfl]
  exact wpAny_bind (wpAny_rule (wpAny_pure (h _ _ hx.keeps (by lia))))

theorem tr_text {c : Nat} {l : List Nat} {t u : Tok} {Q : Value → Shared → Prop} (hc : c < 128) (hd : s.heap.DictOf (intKind prog w) d kvs) (hv : valueAt kvs (c : Int) = some (.str ⟨l.toArray⟩ t)) (hl : l.length = 2)
    (h : ∀ t' tk, s.toks ≤ tk → Q (.str ⟨l.toArray⟩ t') { s with toks := tk }) : wpAny (model prog w) A (call (.builtin "str.translate") [.str ⟨#[c]⟩ u, .ref d]) Q E s := by
  refine wpAny_call_entry F.slot_str_translate (typeIs_str _ _ _) F.entry_str_translate ?_ (F.args_str_translate_2 _ _)
  unfold Builtin.«str.translate»
  refine wpAny_bind (wpAny_of_eq (a := (.str ⟨#[c]⟩ u, ⟨#[c]⟩, .ref d)) rfl ?_)
  dsimp only
  rw [if_neg (by simp [Str.length])]
  have hall : (#[c].all fun x => decide (x < 128)) = true := by simp [hc]
  simp only [hall]
  rw [← Array.forIn_toList]
  simp only [List.forIn_cons, List.forIn_nil]
  have hl1 : ((⟨l.toArray⟩ : Str).length == 1) = false := by simp [Str.length, hl]
  refine wpAny_bind (wpAny_bind ?_)
  rw [if_neg (by decide), if_pos trivial]
  dsimp only [List.lookup]
  refine wpAny_bind (look_text hd hv fun tk htk => ?_)
  simp only [hl1, Bool.false_and, Bool.false_eq_true, if_false]
  refine wpAny_bind (wpAny_pure ?_)
  dsimp only
  refine wpAny_bind (wpAny_rule ?_)
  refine wpAny_bind (look_text (s := { s with toks := tk }) hd hv fun tk2 htk2 => ?_)
  dsimp only
  refine wpAny_pure (wpAny_pure ?_)
  dsimp only
  rw [if_neg (by simp [Builtin.Str.tooLong, Str.length, hl, sizeLine])]
  have e : List.foldl (fun acc (p : Str) => acc ++ p.cps) #[] [({ cps := l.toArray } : Str)].reverse = l.toArray := by simp
  rw [e]
  refine wpAny_bind (wpAny_mkStr ?_ ?_)
  · have h2 : tk ≤ tk2 := htk2
    exact wpAny_pure ⟨_, rfl, h _ _ (show s.toks ≤ tk2 + 1 by lia)⟩
  · simp [Str.length, hl, sizeLine]
theorem tr_keep {c : Nat} {u : Tok} {Q : Value → Shared → Prop} (hc : c < 128) (hd : s.heap.DictOf (intKind prog w) d kvs) (hlo : (d == sysModules) = false) (hh : A.handled = none) (hv : valueAt kvs (c : Int) = none)
    (h : ∀ t' h' tk, (∀ b o, s.heap.get? b = some o → h'.get? b = some o) → s.toks ≤ tk → Q (.str ⟨#[c]⟩ t') { s with heap := h', toks := tk }) : wpAny (model prog w) A (call (.builtin "str.translate") [.str ⟨#[c]⟩ u, .ref d]) Q E s := by
  refine wpAny_call_entry F.slot_str_translate (typeIs_str _ _ _) F.entry_str_translate ?_ (F.args_str_translate_2 _ _)
  unfold Builtin.«str.translate»
  refine wpAny_bind (wpAny_of_eq (a := (.str ⟨#[c]⟩ u, ⟨#[c]⟩, .ref d)) rfl ?_)
  dsimp only
  rw [if_neg (by simp [Str.length])]
  have hall : (#[c].all fun x => decide (x < 128)) = true := by simp [hc]
  simp only [hall]
  rw [← Array.forIn_toList]
  simp only [List.forIn_cons, List.forIn_nil]
  refine wpAny_bind (wpAny_bind ?_)
  rw [if_neg (by decide), if_pos trivial]
  dsimp only [List.lookup]
  refine wpAny_bind (look_keep hd hlo hh hv fun h' tk hk htk => ?_)
  dsimp only
  refine wpAny_bind (wpAny_pure ?_)
  dsimp only
  refine wpAny_pure (wpAny_pure ?_)
  dsimp only
  rw [if_neg (by decide)]
  have e : List.foldl (fun acc (p : Str) => acc ++ p.cps) #[] [({ cps := #[c] } : Str)].reverse = #[c] := by simp
  rw [e]
  refine wpAny_bind (wpAny_mkStr ?_ ?_)
  · exact wpAny_pure ⟨_, rfl, h _ _ _ hk (show s.toks ≤ tk + 1 by lia)⟩
  · simp [Str.length, sizeLine]
end

noncomputable def special : List Nat := [40, 41, 91, 93, 123, 125, 63, 42, 43, 45, 124, 94, 36, 92, 46, 38, 126, 35, 32, 9, 10, 13, 11, 12]
noncomputable def escL (c : Nat) : List Nat := if special.contains c then [92, c] else [c]
/-- the table of the signs that are escaped -/
structure EscTab (C : Cx) (d : Addr) : Prop where
  noT : d ∉ C.T
  lo : (d == sysModules) = false
  at0 : ∃ kvs, C.hb.DictOf (intKind C.prog C.w) d kvs ∧ ∀ c, c < 128 → (special.contains c = true → ∃ t, valueAt kvs (c : Int) = some (.str ⟨[92, c].toArray⟩ t)) ∧ (special.contains c = false → valueAt kvs (c : Int) = none)
theorem esc_call {C : Cx} (ok : C.Ok) {A : Around} {G : PH} {σ : Addr} {s : Shared} (hh : A.handled = none) {d : Addr} (T : EscTab C d) (g : Go C G s) {c : Nat} {t : Tok} (hc : c < 128) :
    EvE C A (call (.builtin "str.translate") [.str ⟨[c].toArray⟩ t, .ref d]) G σ (.str (escL c)) s := fun Q E h => by
  obtain ⟨kvs, ⟨o, es, ep, ho, r⟩, hv⟩ := T.at0
  have hd : s.heap.DictOf (intKind C.prog C.w) d kvs := ⟨o, es, ep, g.sok.keep _ _ ho T.noT, r⟩
  obtain ⟨h1, h2⟩ := hv c hc
  unfold escL at h
  cases hs : special.contains c
  · rw [hs] at h
    exact tr_keep hc hd T.lo hh (h2 hs) fun t' h' tk hk htk => h _ _ G (Step.keeps ok g hk htk) (.str [c] t')
  · rw [hs] at h
    obtain ⟨t0, e⟩ := h1 hs
    exact tr_text hc hd e rfl fun t' tk htk => h _ _ G (Step.tick ok g htk) (.str [92, c] t')
end Mine
end TG1
section TG2
open PySem PySem.W PyProof.Rows PySem.Calls
set_option maxRecDepth 100000
namespace Mine

/-- a def of the program, as it stands in the heap -/
structure DefIn (C : Cx) (x : Str) (a : Addr) (fd : FuncData) (body : List Stmt) (sc : Scope) (ps : List Str) : Prop where
  mg : C.mg x = some (.ref a)
  df : DefAt C a fd body
  at0 : defAt x = some (body, sc)
  nm : fd.scope.names = sc.names
  bind : ∀ vs, vs.length = ps.length → bindArgs fd ⟨vs, []⟩ = pure (ps.zip vs)
  psn : ps.Nodup
  psk : ∀ x ∈ ps, (x, NameKind.local) ∈ sc.names ∨ (x, NameKind.cell) ∈ sc.names

theorem bindS_st0 {x : Str} {r : List Str} (N' : List Str) : ∀ {ps : List Str} {ds : List D}, ps.length = ds.length → (match ((ps ++ r).zip (ds.map CB.val ++ r.map fun _ => CB.none)).lookup x with | some b => cvB N' b | none => .none) = bindS ps ds x
  | [], ds, h => by
    have : ds = [] := List.length_eq_zero_iff.mp (by simpa using h.symm)
    subst this
    have key : ∀ b, (r.zip (r.map fun _ => CB.none)).lookup x = some b → b = .none := by
      intro b hb
      obtain ⟨k, _, h2⟩ := zip_at hb
      rw [List.getElem?_map] at h2
      cases q : r[k]? with
      | none => rw [q] at h2; simp at h2
      | some y => rw [q] at h2; simp at h2; exact h2.symm
    show (match (r.zip (r.map fun _ => CB.none)).lookup x with | some b => cvB N' b | none => .none) = B.none
    cases q : (r.zip (r.map fun _ => CB.none)).lookup x with
    | none => rfl
    | some b => rw [key b q]; rfl
  | p :: ps, [], h => by simp at h
  | p :: ps, d :: ds, h => by
    have ih := bindS_st0 (x := x) (r := r) N' (ps := ps) (ds := ds) (by simpa using h)
    unfold bindS at ih ⊢
    simp only [List.cons_append, List.map_cons, List.zip_cons_cons, List.lookup_cons]
    cases hx : x == p
    · exact ih
    · rfl
theorem bindS_st {ps r : List Str} {ds : List D} (h : ps.length = ds.length) : stN (ps ++ r) (ds.map CB.val ++ r.map fun _ => CB.none) = bindS ps ds := by
  funext x
  exact bindS_st0 _ h

section
variable {C : Cx} (ok : C.Ok)
include ok

/-- what a call of a def does: the frame is laid -/
theorem call_in {x : Str} {a : Addr} {fd : FuncData} {body : List Stmt} {sc : Scope} {ps : List Str} (hd : DefIn C x a fd body sc ps) {n : Nat} {A : Around} (hA : OkA (n + 1) A) {σ : Addr} {ds : List D} {vs : List Value} {d : D} {G : PH} {s : Shared}
    (hlen : ps.length = ds.length) (hg : Go C G s) (rl : RL G σ ds vs)
    (hB : ∀ (env : Env) (A' : Around) (s₀ s₁ : Shared) (G₀ : PH), OkA n A' → EnvOk C env → env.scope.names = sc.names → env.code = fd.code → Sok C s₀ → (∀ x k, (x, k) ∈ sc.names → k = .local ∨ k = .cell → FreshLoc env s₀ x) →
      AtM C env G₀ s₀ (bindS ps ds) G₀ σ (fun _ => False) s₁ → ∃ S', EvS C A' env G₀ s₀ (execs body env) (bindS ps ds) G₀ σ (fun _ => False) s₁ (.ret d) S') :
    EvE C A (call (.ref a) vs) G σ d s := by
  have hvl : vs.length = ps.length := by rw [rl.length, hlen]
  refine call_def ok hd.df hA (ps := ps) (ds := ds) (by simpa using hd.psn) hlen (fun x hx => ?_) hg (fun Q E h => ?_) fun env A' s₀ s₁ G₀ h1 h2 h3 h4 hcd h5 h6 h7 => hB env A' s₀ s₁ G₀ h1 h2 (by rw [h3]; exact hd.nm) hcd h5 (fun x k hx => h6 x k (by rw [hd.nm]; exact hx)) h7
  · rw [hd.nm]; exact hd.psk x hx
  · exact wpAny_of_eq (hd.bind vs hvl) (h s G vs (Step.refl hg) rl)

/-- a call of a def whose text fits a core text -/
theorem call_core {x : Str} {a : Addr} {fd : FuncData} {body : List Stmt} {sc : Scope} {ps r : List Str} (hd : DefIn C x a fd body sc ps) {Φ : Nat → List D → Option D} {n : Nat} (tops : Tops C Φ fnT n)
    {hk : Nat → Stmt → Bool} {c : CS} (hf : fits x (ps ++ r) hk c = true) (hN : (ps ++ r).Nodup) (hN0 : Str.ofString "" ∉ ps ++ r) {H : Nat → List CB → Option (List CB)} {F : Nat}
    {A : Around} (hA : OkA (n + 1) A) {σ : Addr} {ds : List D} {vs : List Value} {d : D} {V' : List CB} {G : PH} {s : Shared}
    (hlen : ps.length = ds.length) (hg : Go C G s) (rl : RL G σ ds vs)
    (he : ex Φ H F c (ds.map CB.val ++ r.map fun _ => CB.none) = some (.ret d, V'))
    (hH : ∀ (env : Env) (A' : Around) (s₀ : Shared) (G₀ : PH), OkA n A' → EnvOk C env → env.scope.names = sc.names → env.code = fd.code → Sok C s₀ → (∀ x k, (x, k) ∈ sc.names → k = NameKind.local ∨ k = NameKind.cell → FreshLoc env s₀ x) →
      ∀ j st, hk j st = true → ∀ V V', H j V = some V' → V.length = (ps ++ r).length → V'.length = (ps ++ r).length ∧ ∀ G M s, AtM C env G₀ s₀ (stN (ps ++ r) V) G σ M s → EvS C A' env G₀ s₀ (exec st env) (stN (ps ++ r) V) G σ M s .next (stN (ps ++ r) V')) :
    EvE C A (call (.ref a) vs) G σ d s := by
  refine call_in ok hd hA hlen hg rl fun env A' s₀ s₁ G₀ h1 h2 h3 hcd h5 h6 h7 => ?_
  have hfb : isB (ps ++ r) fnT hk sc.names c (.inr body) = true := by
    unfold fits at hf
    rw [hd.at0] at hf
    exact hf
  have hV : (ds.map CB.val ++ r.map fun _ => CB.none).length = (ps ++ r).length := by simp [hlen]
  obtain ⟨l1, k1⟩ := ex_ok ok tops h1 hN hN0 (nm := sc.names) (HK := hk) (H := H) (F := F) (env := env) (G₀ := G₀) (s₀ := s₀) h2 h3 h5 h6 (hH env A' s₀ G₀ h1 h2 h3 hcd h5 h6) c (.inr body) (isB_S hfb) _ _ _ he hV
  rw [bindS_st hlen] at k1
  exact ⟨_, k1 _ _ _ h7⟩
end
end Mine
end TG2
section TG3
open PySem PySem.W PyProof.Rows PySem.Calls
set_option maxRecDepth 100000
namespace Mine

noncomputable def escC (f p g q m t : Str) (ap cp : Pos) : Bool :=
    f == ("isinstance" : Str) && p == ("pattern" : Str) && g == ("str" : Str) && q == ("pattern" : Str) && m == ("translate" : Str) && t == ("_special_chars_map" : Str) && (ap.endLine == cp.line)
noncomputable def escB (l : List Stmt) : Bool :=
  on1 l fun st => sIf st fun c b _ _ => xCall c fun fe as kw _ => on0 kw (xName fe fun f _ => on2 as fun ep eg => xName ep fun p _ => xName eg fun g _ => on1 b fun r => sReturn r fun o _ => onSo o fun v => xCall v fun fa as2 kw2 cp => on0 kw2 (xAttribute fa fun eq m ap => xName eq fun q _ => on1 as2 fun et => xName et fun t _ =>
    escC f p g q m t ap cp))
theorem escB_i {bs : List Stmt} {P : List Stmt → Prop} (hb : escB bs = true) (hp : ∀ f fp p pp g gp cp0 q qp m ap t tp cp rp el ip, escC f p g q m t ap cp = true →
    P [.If (.Call (.Name f fp) [.Name p pp, .Name g gp] [] cp0) [.Return (some (.Call (.Attribute (.Name q qp) m ap) [.Name t tp] [] cp)) rp] el ip]) : P bs := by
  apply on1_e hb; clear hb; intro st hb
  apply sIf_e hb; clear hb; intro cd bd el ip hb
  apply xCall_e hb; clear hb; intro fe as kw cp0 hb
  apply on0_e hb; clear hb; intro hb
  apply xName_e hb; clear hb; intro f fp hb
  apply on2_e hb; clear hb; intro ep eg hb
  apply xName_e hb; clear hb; intro p pp hb
  apply xName_e hb; clear hb; intro g gp hb
  apply on1_e hb; clear hb; intro r hb
  apply sReturn_e hb; clear hb; intro o rp hb
  apply onSo_e hb; clear hb; intro v hb
  apply xCall_e hb; clear hb; intro fa as2 kw2 cp hb
  apply on0_e hb; clear hb; intro hb
  apply xAttribute_e hb; clear hb; intro eq m ap hb
  apply xName_e hb; clear hb; intro q qp hb
  apply on1_e hb; clear hb; intro et hb
  apply xName_e hb; clear hb; intro t tp hb
  exact hp _ _ _ _ _ _ _ _ _ _ _ _ _ _ _ _ _ hb
noncomputable def escNames : List (Str × NameKind) → Bool := fun nm => lk nm "pattern" && gk nm "isinstance" && gk nm "str" && gk nm "_special_chars_map"
noncomputable def escFits : Bool := match defAt "escape" with
  | some (b, sc) => escB b && escNames sc.names
  | none => false
theorem esc_fits : escFits = true := by decide +kernel

structure EscTops (C : Cx) (d : Addr) : Prop where
  isi : C.mg "isinstance" = none ∧ C.mb "isinstance" = some (.builtin "isinstance")
  str : C.mg "str" = none ∧ C.mb "str" = some (.type "str")
  map : C.mg "_special_chars_map" = some (.ref d)
  tab : EscTab C d

theorem escape_ok {C : Cx} (ok : C.Ok) {a d : Addr} {fd : FuncData} {body : List Stmt} {sc : Scope} (hd : DefIn C "escape" a fd body sc ["pattern"]) (T : EscTops C d) {n : Nat} {A : Around} (hA : OkA (n + 1) A) {σ : Addr} {vs : List Value} {G : PH} {s : Shared} {c : Nat} (hc : c < 128)
    (hg : Go C G s) (rl : RL G σ [.str [c]] vs) : EvE C A (call (.ref a) vs) G σ (.str (escL c)) s := by
  refine call_in ok hd hA rfl hg rl fun env A' s₀ s₁ G₀ h1 eo hnm hcd k₀ hfl at' => ?_
  have hf := esc_fits
  unfold escFits at hf
  rw [hd.at0] at hf
  dsimp only at hf
  apply and2_e hf; clear hf; intro hb hns
  unfold escNames at hns
  apply and4_e hns; clear hns; intro n1 n2 n3 n4
  apply escB_i hb
  clear hb
  intro f fp p pp g gp cp0 q qp m ap t tp cp rp el ip hb
  unfold escC at hb
  simp only [Bool.and_eq_true, beq_iff_eq] at hb
  obtain ⟨⟨⟨⟨⟨⟨e1, e2⟩, e3⟩, e4⟩, e5⟩, e6⟩, e7⟩ := hb
  subst e1 e2 e3 e4 e5 e6
  have hp : ∀ {G s M}, AtM C env G₀ s₀ (bindS ["pattern"] [.str [c]]) G σ M s → ∀ pos, EvE C A' (eval (.Name "pattern" pos) env) G σ (.str [c]) s := fun {G s M} a pos => by
    obtain ⟨v, l, r⟩ := a.at0.rd "pattern" (.str [c]) (by unfold vals bindS; rfl) (.inl (lk_of hnm n1))
    exact e_var eo a.at0.st.go l r (by decide +kernel) (by decide +kernel)
  refine ⟨_, s_cons_stop ok k₀ eo (by simp) (s_if ok k₀ eo (b := true) at' ?_ fun s' G' a' le => s_cons_stop ok k₀ eo (by simp) (s_ret ok k₀ eo a' ?_))⟩
  · refine t_val (σ := σ) (d := ofB true) ok ?_ rfl rfl
    refine e_callb ok call_name rfl (e_builtin ok eo at'.at0.st.go (glob_of hnm n2) T.isi.1 T.isi.2 (by decide +kernel)) (fun G' s' S' => l_cons ok rfl (hp (at'.step ok eo S') _) fun G2 s2 S2 => l_cons ok rfl (e_builtin ok eo S2.go (glob_of hnm n3) T.str.1 T.str.2 (by decide +kernel)) fun G3 s3 S3 => l_nil ok S3.go) fun G' s' vs S' r => ?_
    intro Q E h
    apply RL.cons_e r; clear r; intro _ _ r1 r
    apply RL.cons_e r; clear r; intro _ _ r2 r
    apply RL.nil_e r; clear r
    (first | (apply R.int_e r1; intro _) | (apply R.str_e r1; intro _) | apply R.raw_e r1)
    (first | (apply R.int_e r2; intro _) | (apply R.str_e r2; intro _) | apply R.raw_e r2)
    exact PySem.IsiPair.str_str (h _ _ G' (Step.refl S'.go) (.raw _))
  · refine e_strmeth ok F.slot_str_translate F.type_str_translate rfl (by simpa using e7) rfl (by simp) (hp a' _) (fun G' s' S' => l_cons ok rfl (e_glob ok eo S'.go (glob_of hnm n4) T.map (by decide +kernel)) fun G3 s3 S3 => l_nil ok S3.go) fun G' s' t vs S' r => ?_
    apply RL.cons_e r; clear r; intro _ _ r1 r
    apply RL.nil_e r; clear r
    (first | (apply R.int_e r1; intro _) | (apply R.str_e r1; intro _) | apply R.raw_e r1)
    exact esc_call ok h1.hd T.tab S'.go hc
end Mine
end TG3
section TG4
open PySem PySem.W PyProof.Rows PySem.Calls
set_option maxRecDepth 100000
namespace Mine
namespace FF
theorem mro_object : mroOf (.type "object") = pure [.type "object"] := by rw [mroOf_type]; kernel_rfl
theorem lookup_object_new : typeLookup (.type "object") "__new__" = pure (some (.builtin "object.__new__")) := by rw [typeLookup_type, builtinLookup_eq_fast]; kernel_rfl
theorem made_object : Bind.madeBy (.type "object") = pure (some "object.__new__") := PySem.madeBy_type mro_object lookup_object_new (by decide +kernel)
theorem sub_object : isSubtype (.type "object") (.type "object") = pure true := by rw [isSubtype_type]; kernel_rfl
theorem called_object : TypeCalled "object" "object.__new__" "object.__init__" :=
  ⟨by decide +kernel, by decide +kernel, ⟨_, _, mro_object⟩, made_object, by decide +kernel, sub_object, PySem.F.slot_object_init⟩
theorem typeCall_object : checkTypeCall "object" ⟨[], []⟩ = pure () := by kernel_rfl
theorem newCall_object : checkBuiltinCall "object.__new__" ⟨[.type "object"], []⟩ = pure () := by kernel_rfl
theorem args_object_init_1 (a : Value) : argsOk "object.__init__" ⟨[a], []⟩ := by unfold argsOk; kernel_rfl
end FF
theorem obj_init {M : Model} {A : Around} {E : Value → Shared → Prop} {s : Shared} {a : Value} {Q : PySem.Fin → Shared → Prop} (h : Q (.done (.ret .none)) s) : wpAny M A (Builtin.«object.__init__» ⟨[a], []⟩) Q E s := wpAny_pure h
theorem obj_new {prog : Program} {w : World} {A : Around} {E : Value → Shared → Prop} {s : Shared} {Q : PySem.Fin → Shared → Prop} (h : Q (.done (.ret (.ref s.heap.objs.size))) { s with heap := s.heap.push { cls := .type "object", data := .plain } }) :
    wpAny (model prog w) A (Builtin.«object.__new__» ⟨[.type "object"], []⟩) Q E s := by
  unfold Builtin.«object.__new__»
  dsimp only
  refine wpAny_bind (wpAny_of_eq (a := true) rfl ?_)
  rw [if_neg (by decide)]
  rw [if_neg (by decide +kernel)]
  have hm : (Bind.madeHere "object.__new__" (.type "object")) = pure () := by kernel_rfl
  refine wpAny_bind (wpAny_of_eq hm ?_)
  rw [if_neg (by decide)]
  have hdict : typeHasDict (.type "object") = false := by first | rfl | decide +kernel
  rw [hdict, if_neg (by decide)]
  refine wpAny_bind (wpAny_pure ?_)
  refine wpAny_bind (wpAny_newObj_type ?_)
  have hd : diesByItsTypesDel "object" = false := by decide +kernel
  rw [hd, if_neg (by decide)]
  exact wpAny_pure h
theorem call_object {prog : Program} {w : World} {A : Around} {E : Value → Shared → Prop} {s : Shared} {Q : Value → Shared → Prop} (h : Q (.ref s.heap.objs.size) { s with heap := s.heap.push { cls := .type "object", data := .plain } }) :
    wpAny (model prog w) A (call (.type "object") []) Q E s := by
  refine callType_codes (Q₁ := fun obj s₁ => obj = .ref s.heap.objs.size ∧ s₁ = { s with heap := s.heap.push { cls := .type "object", data := .plain } }) FF.called_object FF.typeCall_object PySem.F.entry_object_init ?_ fun obj s₁ h₁ => ?_
  · refine codeAny_call_builtin FF.called_object.plain PySem.F.entry_object_new (wpAny_of_eq FF.newCall_object (obj_new ?_))
    exact ⟨rfl, rfl⟩
  · obtain ⟨rfl, rfl⟩ := h₁
    refine ⟨⟨_, Heap.get?_push_size _ rfl, rfl⟩, FF.args_object_init_1 _, obj_init ?_⟩
    exact ⟨rfl, h⟩
end Mine
end TG4
section TG5
open PySem PySem.W PyProof.Rows PySem.Calls
set_option maxRecDepth 100000
namespace Mine

noncomputable def n_tr : List Str := ["pat", "STAR", "parts"]
noncomputable def c_tr : CS := .sq (.set 2 (.cal 2 (.cons (.var 0) (.cons (.var 1) (.cons (.str [46]) .nil))))) <| .sq (.ret (.cal 3 (.cons (.var 2) (.cons (.var 1) .nil)))) <| .sk
noncomputable def trB (nm : NmL) (l : List Stmt) : Bool :=
  onC l fun st rest => sAssign st fun ts v _ => on1 ts fun t => xName t fun x _ => xCall v fun fe as kw _ => on0 as (on0 kw (xName fe fun f _ => x == ("STAR" : Str) && f == ("object" : Str) && gk nm f && lk nm x && isB n_tr fnT noHk nm c_tr (.inr rest)))
noncomputable def trFits : Bool := match defAt "translate" with
  | some (b, sc) => trB sc.names b
  | none => false
theorem tr_fits : trFits = true := by decide +kernel

section
variable {C : Cx} (ok : C.Ok)
include ok
/-- flat values do not see the star -/
theorem AtM.sig {env : Env} {G G₀ : PH} {s₀ s : Shared} {S : St} {σ σ' : Addr} {M : Addr → Prop} (a : AtM C env G₀ s₀ S G σ M s) (hv : ∀ x d, S x = .val d → ∃ l, d = .str l) (hm : ∀ x ds, S x ≠ .mu ds) (ha : ∀ x y, S x ≠ .app y) : AtM C env G₀ s₀ S G σ' M s := by
  refine ⟨⟨a.at0.st, a.at0.fr, fun x d hx hvi => ?_⟩, ⟨fun _ => 0, fun x ds hx => absurd hx (hm x ds), fun x y ds _ hx => absurd hx (hm x ds), fun x y hx => absurd hx (ha x y)⟩, a.off⟩
  obtain ⟨v, l, r⟩ := a.at0.rd x d hx hvi
  have : S x = .val d := by
    exact val_i hx
  obtain ⟨m, rfl⟩ := hv x d this
  cases r
  exact ⟨_, l, .str _ _⟩

theorem translate_ok {a : Addr} {fd : FuncData} {body : List Stmt} {sc : Scope} (hd : DefIn C "translate" a fd body sc ["pat"]) {Φ : Nat → List D → Option D} {n : Nat} (tops : Tops C Φ fnT n) (hob : C.mg "object" = none ∧ C.mb "object" = some (.type "object"))
    {A : Around} (hA : OkA (n + 1) A) {σ : Addr} {vs : List Value} {G : PH} {s : Shared} {l out : List Nat} {parts : D} (h2 : Φ 2 [.str l, .star, .str [46]] = some parts) (h3 : Φ 3 [parts, .star] = some (.str out))
    (hg : Go C G s) (rl : RL G σ [.str l] vs) : EvE C A (call (.ref a) vs) G σ (.str out) s := by
  refine call_in ok hd hA rfl hg rl fun env A' s₀ s₁ G₀ h1 eo hnm hcd k₀ hfl at' => ⟨fun _ => .none, fun Q E h => ?_⟩
  have hf := tr_fits
  unfold trFits at hf
  rw [hd.at0] at hf
  dsimp only at hf
  apply onC_e hf; clear hf; intro st rest hf
  apply sAssign_e hf; clear hf; intro ts v pos hf
  apply on1_e hf; clear hf; intro t hf
  apply xName_e hf; clear hf; intro x xp hf
  apply xCall_e hf; clear hf; intro fe as kw cp hf
  apply on0_e hf; clear hf; intro hf
  apply on0_e hf; clear hf; intro hf
  apply xName_e hf; clear hf; intro f fp hf
  apply and5_e hf; clear hf; intro e1 e2 e3 e4 e5
  have := beq_iff_eq.mp e1
  subst this
  have := beq_iff_eq.mp e2
  subst this
  have hN : n_tr.Nodup := by decide +kernel
  have hN0 : Str.ofString "" ∉ n_tr := by decide +kernel
  have hS : bindS ["pat"] [.str l] = stN n_tr [.val (.str l), .none, .none] := (bindS_st (ps := ["pat"]) (r := ["STAR", "parts"]) (ds := [.str l]) rfl).symm
  have hno : ∀ x b, bindS ["pat"] [.str l] x = b → b = .val (.str l) ∨ b = .none := fun x b hb => by
    unfold bindS at hb
    split at hb
    · rename_i d e
      simp only [List.zip_cons_cons, List.zip_nil_right, List.lookup_cons, List.lookup_nil] at e
      split at e
      · cases e; exact .inl hb.symm
      · cases e
    · exact .inr hb.symm
  refine wpAny_execs_cons (wpAny_Assign_Name (Call_ (e_builtin (σ := σ) ok eo at'.at0.st.go (glob_of hnm e3) hob.1 hob.2 (by decide +kernel) _ _ fun v s2 G2 S2 r2 => ?_) rfl) (swaps_plain rfl))
  cases r2
  refine callWith_type0 (call_object ?_)
  have a2 := at'.step ok eo S2
  have P := Step.keeps (ht := by first | exact Nat.le_refl _ | exact Nat.le_succ _ | omega) ok S2.go (h' := s2.heap.push { cls := .type "object", data := .plain }) (tk := s2.toks) fun _ _ e => Heap.get?_push_of_some _ e
  have a3 := (a2.step ok eo P).sig ok (σ' := s2.heap.objs.size) (fun x d hx => by
    rcases hno x _ hx with q | q
    · cases q; exact ⟨_, rfl⟩
    · cases q) (fun x ds hx => by rcases hno x _ hx with q | q <;> cases q) (fun x y hx => by rcases hno x _ hx with q | q <;> cases q)
  have kp3 := (Step.kp ok eo at' S2).trans (Step.kp ok eo a2 P)
  obtain ⟨kk, hm, hor⟩ := tk_mem (sn := sc.names) (x := "STAR") (lk_tk e4)
  refine st_bind ok k₀ eo a3 (hfl _ kk hm hor) (fun y hy => by rcases hno y _ hy with q | q <;> cases q) (R.star (G := G2) (σ := s2.heap.objs.size)) fun s4 a4 kp4 => ?_
  have hst : upS (bindS ["pat"] [.str l]) "STAR" (.val .star) = stN n_tr [.val (.str l), .val .star, .none] := by
    rw [hS]
    exact (st_set (N := n_tr) (V := [.val (.str l), .none, .none]) (k := 1) (x := "STAR") (b := .val .star) hN rfl rfl).symm
  rw [hst] at a4
  have he : ex Φ (fun _ _ => none) 0 c_tr [.val (.str l), .val .star, .none] = some (.ret (.str out), [.val (.str l), .val .star, .val parts]) :=
    xs (xset (ycal rfl h2) rfl rfl) (xs_ret (xret (ycal rfl h3)))
  obtain ⟨l1, k1⟩ := ex_ok ok tops h1 hN hN0 (nm := sc.names) (HK := noHk) (H := fun _ _ => none) (F := 0) (env := env) (G₀ := G₀) (s₀ := s₀) (σ := s2.heap.objs.size) eo hnm k₀ hfl (fun j st hj => nomatch hj) c_tr (.inr rest) (isB_S e5) _ _ _ he rfl
  refine k1 _ _ _ a4 _ _ fun fl s5 G5 M5 a5 le5 kp5 fr => ?_
  refine h fl s5 G5 M5 ?_ (fun b o e => le5 b o (S2.le b o e)) (kp3.trans (kp4.trans kp5)) ?_
  · exact (a5.weaken ok (S' := fun _ => .none) (fun x d hx => nomatch hx) (fun x ds => by simp) (fun x y => by simp)).sig ok (fun x d hx => nomatch hx) (fun x ds => by simp) (fun x y => by simp)
  · cases fl <;> first | exact fr.elim | skip
    have fr' : R G5 s2.heap.objs.size (.str out) _ := fr
    show R G5 σ (.str out) _
    cases fr'
    exact .str _ _
end
end Mine
end TG5
section TG6a
open PySem PySem.W PyProof.Rows PySem.Calls
set_option maxRecDepth 100000
namespace Mine

/-! a block that is walked, one text at a time; the count of identities stays positive -/
noncomputable def gProto (L : Addr) (fp wr : List Addr) (n₀ : Nat) (F : Nat → Value → Prop) : Protocol := fun m s₀ v s kap =>
  F (n₀ - 1 - m) v ∧ GenSince L wr s₀ s ∧ 0 < s.toks ∧ ∀ s'' : Shared, 0 < s''.toks → (∀ b ∈ L :: fp, ∀ o, s.heap.get? b = some o → s''.heap.get? b = some o) → kap (.send .none) s''
noncomputable abbrev gEnd (L : Addr) (wr : List Addr) : GenEnd := fun n s₀ r s₁ => r = .ok .next ∧ (n = 0 ∧ GenSince L wr s₀ s₁)

section
variable {prog : Program} {w : World} {A : Around}

theorem g_loop {elt iter : Expr} {x : Str} {px : Pos} {scope : Scope} {pos : Pos} {I : Addr} {fp wr : List Addr} {n₀ : Nat} {P : Nat → Value → Prop} {St₀ : Nat → Heap → Prop} {cenv : Env}
    (hh : A.handled = none) (W₀ : ∀ A' : Around, A'.handled = none → Walks prog w A' I fp wr n₀ P St₀) (F : Nat → Value → Prop)
    (hx : cenv.kindOf x = some .local) (hk : cenv.scope.kind = .function) (hco : cenv.scope.isCoroutine = false) (hCf : cenv.locals ∉ fp)
    (he : ∀ (A' : Around) E' i v (s₂ : Shared) m₂, A'.handled = none → P i v → 0 < s₂.toks → s₂.heap.Ns cenv.locals m₂ → m₂ x = some v → wpAny (model prog w) A' (eval elt cenv) (fun y s₃ => F i y ∧ Keeps s₂ s₃) E' s₂) :
    ∀ (k i : Nat) (s₀ s : Shared) (m : Str → Option Value), n₀ - i = k → i ≤ n₀ → St₀ i s.heap → s.heap.Ns cenv.locals m → GenSince cenv.locals wr s₀ s → 0 < s.toks →
      Seg (model prog w) A (gEnd cenv.locals wr) (gProto cenv.locals fp wr n₀ F) k s₀ (.compLoop (.GeneratorExp elt [⟨.Name x px, iter, [], 0⟩] scope pos) 0 (.ref I) .none cenv)
        ((model prog w).den (.compLoop (.GeneratorExp elt [⟨.Name x px, iter, [], 0⟩] scope pos) 0 (.ref I) .none cenv)) [] s := by
  have hh' : (A.over (.compLoop (.GeneratorExp elt [⟨.Name x px, iter, [], 0⟩] scope pos) 0 (.ref I) .none cenv) []).handled = none := hh
  have hCw : cenv.locals ∉ wr := fun h => hCf ((W₀ A hh).sub _ h)
  have hp : (cenv.scope.kind == .class || (cenv.scope.kind == .module && cenv.locals != cenv.globals)) = false := by rw [hk]; rfl
  have hy : ∀ v, yieldOut cenv v = yieldValue v := fun v => by simp only [yieldOut, hco, Bool.false_eq_true, if_false]
  intro k
  induction k with
  | zero =>
    intro i s₀ s m hki hi hst hn hsince htk
    have hin : i = n₀ := by lia
    subst hin
    show Seg _ A _ _ _ s₀ _ ((compTurn (.GeneratorExp elt [⟨.Name x px, iter, [], 0⟩] scope pos) 0 (.ref I) .none cenv).onRaise (leaving cenv)) [] s
    rw [compTurn_gen, Sem.onRaise_eq_wrap]
    refine seg_bind_wrap (wpAny_standAt ?_)
    refine seg_bind_wrap ((W₀ _ hh').done s _ _ hst fun h' tk hk' => ?_)
    exact seg_end (.ok .next) ⟨rfl, rfl, hsince.step fun b o _ hw e => hk' b o hw e⟩
  | succ k ih =>
    intro i s₀ s m hki hi hst hn hsince htk
    have hlt : i < n₀ := by lia
    show Seg _ A _ _ _ s₀ _ ((compTurn (.GeneratorExp elt [⟨.Name x px, iter, [], 0⟩] scope pos) 0 (.ref I) .none cenv).onRaise (leaving cenv)) [] s
    rw [compTurn_gen, Sem.onRaise_eq_wrap]
    refine seg_bind_wrap (wpAny_standAt ?_)
    refine seg_bind_wrap (wpAny_with_toks (n := s.toks) (Nat.le_refl _) ((W₀ _ hh').item i s _ _ hlt hst fun v h₁ tk₁ hPv hst₁ hk₁ htk₁ => ?_))
    refine seg_bind_wrap (wpAny_of_eq (rfl : letOwnedTupleGo (.Name x px) (.ref I) v = pure ()) ?_)
    refine seg_bind_wrap (wpAny_assign_Name (wpAny_storeName_local hx (hn.at' fun o e => hk₁ _ o hCw e) (fun h₂ hn₂ hs₂ => ?_) hp))
    have up₂ : ∀ b o, b ≠ cenv.locals → b ∉ wr → s.heap.get? b = some o → h₂.get? b = some o := fun b o hbC hbw e => hs₂.extBut b o hbC (hk₁ b o hbw e)
    have hst₂ : St₀ (i + 1) h₂ := (W₀ A hh).frame _ _ _ hst₁ fun b hb o e => hs₂.extBut b o (fun h => hCf (h ▸ hb)) e
    refine seg_bind_wrap (wpAny_tests_nil ?_)
    simp only [if_true, hy]
    rw [Sem.bind_eq_wrap', Sem.bind_eq_wrap', Sem.wrap_wrap, Sem.wrap_wrap]
    have htk1 : s.toks ≤ tk₁ := htk₁
    refine seg_wrap (wpAny_with_toks (n := tk₁ + 1) (Nat.le_refl _) (wpAny_mono (he _ _ i v _ _ hh' hPv (Nat.succ_pos _) hn₂ (by simp)) (fun y s₄ h₄ htk4 => ?_) fun _ _ e _ => e))
    obtain ⟨hFy, h₄, tk₄, rfl, hk₄⟩ := h₄
    have htk4' : tk₁ + 1 ≤ tk₄ := htk4
    have e1 : n₀ - 1 - k = i := by lia
    refine seg_at (seg_yield rfl rfl rfl ⟨by rw [e1]; exact hFy, hsince.step fun b o hbC hbw e => hk₄ b o (up₂ b o hbC hbw e), show 0 < tk₄ by lia, fun s'' htks hal => ?_⟩)
    exact seg_again rfl (ih (i + 1) s'' s'' _ (by lia) hlt ((W₀ A hh).frame _ _ _ hst₂ fun b hb o e => hal b (List.mem_cons_of_mem _ hb) o (hk₄ b o e))
      ((hn₂.keeps hk₄).at' fun o e => hal _ (List.mem_cons_self ..) o e) (GenSince.refl _ _ _) htks)

noncomputable def GenA (prog : Program) (w : World) (A : Around) (a : Addr) (g : Nat) (L : Addr) (fp wr : List Addr) (n₀ : Nat) (F : Nat → Value → Prop) (j : Nat) (s : Shared) : Prop :=
  s.heap.IsGen a g ∧ s.heap.NoLimit ∧ 0 < s.toks ∧ ∃ gs, s.gens[g]? = some gs ∧ ∀ s'' : Shared, 0 < s''.toks → (∀ b ∈ L :: fp, ∀ o, s.heap.get? b = some o → s''.heap.get? b = some o) →
    gs.Goes (model prog w) A.in1 (gEnd L wr) (gProto L fp wr n₀ F) (n₀ - j) (.send .none) s''

theorem gen_walk (hh : A.handled = none) (a : Addr) (g : Nat) (L : Addr) (fp wr : List Addr) (n₀ : Nat) (F : Nat → Value → Prop) (haL : a ≠ L) (haf : a ∉ fp) (hsub : ∀ b ∈ wr, b ∈ fp)
    (hroom : A.depth < recursionLimit) (hcs : cStatics ∈ fp) (hcL : cStatics ≠ L) (hcw : cStatics ∉ wr) :
    WalksS prog w A a (a :: L :: fp) (L :: wr) (GenOnlyQ g) n₀ F (GenA prog w A a g L fp wr n₀ F) where
  sub := fun b hb => by
    rcases List.mem_cons.mp hb with rfl | hb
    · simp
    · exact List.mem_cons_of_mem _ (List.mem_cons_of_mem _ (hsub b hb))
  grefl := fun _ => .inl rfl
  gtrans := fun _ _ _ x y => x.trans y
  frame := fun j s h' tk st ht hk =>
    ⟨let ⟨o, nm, qn, ho, r⟩ := st.1; ⟨o, nm, qn, hk a (List.mem_cons_self ..) o ho, r⟩,
     (let ⟨mc, hns, hnn⟩ := st.2.1; ⟨mc, hns.at' fun o e => hk cStatics (List.mem_cons_of_mem _ (List.mem_cons_of_mem _ hcs)) o e, hnn⟩), Nat.lt_of_lt_of_le st.2.2.1 ht,
     let ⟨gs, hgs, hgo⟩ := st.2.2.2; ⟨gs, hgs, fun s'' h0 hal => hgo s'' h0 fun b hb o e => hal b hb o (hk b (List.mem_cons_of_mem _ hb) o e)⟩⟩
  item := fun j s Q E hj st hQ => by
    obtain ⟨hg, hl, h0, gs, hgs, hgo⟩ := st
    obtain ⟨m, hm⟩ : ∃ m, n₀ - j = m + 1 := ⟨n₀ - j - 1, by lia⟩
    rw [hm] at hgo
    refine wpAny_with_toks (Nat.le_refl s.toks) ?_
    refine wpAny_pyNext_genexpQ (P := fun n s₀ s₁ => n = 0 ∧ GenSince L wr s₀ s₁) hh hl hroom hg hgs (hgo _ h0 fun _ _ _ e => e) (fun v s₁ gs' hb hv => ?_) (fun s₁ hp h' hk => ?_)
    · obtain ⟨hF, ⟨h₁, tk₁, rfl, hk₁⟩, h1, hkap⟩ := hv
      have hidx : n₀ - 1 - (m + 1 - 1) = j := by lia
      rw [hidx] at hF
      have haw : a ∉ wr := fun h => haf (hsub a h)
      intro htk
      refine hQ v _ hF ⟨let ⟨o, nm, qn, ho, r⟩ := hg; ⟨o, nm, qn, hk₁ a o haL haw ho, r⟩, (let ⟨mc, hns, hnn⟩ := hl; ⟨mc, hns.at' fun o e => hk₁ cStatics o hcL hcw e, hnn⟩), h1, gs', setGen_self (gs := .running) (setGen_self hgs), fun s'' hs'' hal => ?_⟩
        ⟨fun b o hb e => hk₁ b o (fun h => hb (h ▸ List.mem_cons_self ..)) (fun h => hb (List.mem_cons_of_mem _ h)) e, GenOnlyQ.of ((GenOnly.setGen s g .running).trans (GenOnly.setGen _ g gs')) (setGen_self (gs := .running) (setGen_self hgs)) hb, rfl, rfl, htk⟩
      have e : n₀ - (j + 1) = m := by lia
      rw [e]
      exact hkap s'' hs'' hal
    · exact absurd hp.1 (Nat.succ_ne_zero m)
  done := fun s Q E st hQ => by
    obtain ⟨hg, hl, h0, gs, hgs, hgo⟩ := st
    rw [Nat.sub_self] at hgo
    refine wpAny_with_toks (Nat.le_refl s.toks) ?_
    refine wpAny_pyNext_genexpQ (P := fun n s₀ s₁ => n = 0 ∧ GenSince L wr s₀ s₁) hh hl hroom hg hgs (hgo _ h0 fun _ _ _ e => e) (fun v s₁ gs' hb hv => ?_) (fun s₁ hp h' hk => ?_)
    · obtain ⟨_, _, h1, hkap⟩ := hv
      exact False.elim (hkap s₁ h1 fun _ _ _ e => e)
    · obtain ⟨_, h₁, tk₁, rfl, hk₁⟩ := hp
      intro htk
      exact hQ _ ⟨fun b o hb e => hk b o (hk₁ b o (fun h => hb (h ▸ List.mem_cons_self ..)) (fun h => hb (List.mem_cons_of_mem _ h)) e), GenOnlyQ.of ((GenOnly.setGen s g .running).trans (GenOnly.setGen _ g .finished)) (setGen_self (gs := .running) (setGen_self hgs)) rfl, rfl, rfl, htk⟩
  self := fun _ _ _ _ st hQ => wpAny_pyIter_gen st.1 hQ

theorem gen_fresh {elt iter : Expr} {x : Str} {px : Pos} {scope : Scope} {pos : Pos} {I a : Addr} {g : Nat} {fp wr : List Addr} {n₀ : Nat} {P : Nat → Value → Prop} {St₀ : Nat → Heap → Prop} {cenv : Env}
    (hh : A.handled = none) (W₀ : ∀ A' : Around, A'.handled = none → Walks prog w A' I fp wr n₀ P St₀) (F : Nat → Value → Prop)
    (hx : cenv.kindOf x = some .local) (hk : cenv.scope.kind = .function) (hco : cenv.scope.isCoroutine = false) (hCf : cenv.locals ∉ fp)
    (he : ∀ (A' : Around) E' i v (s₂ : Shared) m₂, A'.handled = none → P i v → 0 < s₂.toks → s₂.heap.Ns cenv.locals m₂ → m₂ x = some v → wpAny (model prog w) A' (eval elt cenv) (fun y s₃ => F i y ∧ Keeps s₂ s₃) E' s₂)
    {s : Shared} {m : Str → Option Value} (h0 : 0 < s.toks)
    (hg : s.heap.IsGen a g) (hgs : s.gens[g]? = some (.fresh (.compStart (.GeneratorExp elt [⟨.Name x px, iter, [], 0⟩] scope pos) 0 (.ref I) .none cenv)))
    (hst : St₀ 0 s.heap) (hn : s.heap.Ns cenv.locals m) (hl : s.heap.NoLimit) : GenA prog w A a g cenv.locals fp wr n₀ F 0 s := by
  refine ⟨hg, hl, h0, _, hgs, fun s'' h0' hal => ⟨rfl, ?_⟩⟩
  have hh1 : A.in1.handled = none := hh
  have hh' : (A.in1.over (.compStart (.GeneratorExp elt [⟨.Name x px, iter, [], 0⟩] scope pos) 0 (.ref I) .none cenv) []).handled = none := hh
  have hst' := (W₀ A hh).frame _ _ _ hst fun b hb o e => hal b (List.mem_cons_of_mem _ hb) o e
  have hn' := hn.at' fun o e => hal _ (List.mem_cons_self ..) o e
  have loop := g_loop (A := A.in1) (elt := elt) (iter := iter) (px := px) (scope := scope) (pos := pos) hh1 W₀ F hx hk hco hCf he n₀ 0 s'' s'' m (Nat.sub_zero _) (Nat.zero_le _) hst' hn' (GenSince.refl _ _ _) h0'
  show Seg _ A.in1 _ _ _ s'' _ ((compStart (.GeneratorExp elt [⟨.Name x px, iter, [], 0⟩] scope pos) 0 (.ref I) .none cenv).onRaise (leaving cenv)) [] s''
  unfold compStart
  rw [Sem.onRaise_eq_wrap]
  show Seg _ A.in1 _ _ _ s'' _ ((ask >>= _).wrap _ _ _ _) [] s''
  refine seg_bind_wrap (wpAny_askSetting ?_)
  split
  · exact seg_again rfl loop
  · first
      | exact seg_bind_wrap (wpAny_rule (seg_bind_wrap (wpAny_standAt (seg_bind_wrap ((W₀ _ hh').self 0 s'' _ _ hst' (seg_again rfl loop))))))
      | (refine seg_bind_wrap (wpAny_rule ?_); show Seg _ A.in1 _ _ _ s'' _ ((standAt iter.pos >>= _).wrap _ _ _ _) [] s''; exact seg_bind_wrap (wpAny_standAt (seg_bind_wrap ((W₀ _ hh').self 0 s'' _ _ hst' (seg_again rfl loop)))))
end
end Mine
end TG6a
section TG6
open PySem PySem.W PyProof.Rows PySem.Calls
set_option maxRecDepth 100000
namespace Mine

section
variable {M : Model} {A : Around} {E : Value → Shared → Prop} {s : Shared}
theorem gcode_any {env : Env} {c P : Addr} {ps : Array Value} {pos : Pos} {qualname : Str} {scope : Scope} {Q : Value → Shared → Prop} (hc : env.code = .ref c) (hok : s.heap.IsCode c P ps) (ht : s.heap.TableAt c P ps)
    (hQ : ∀ code h' tk more, Heap.ExtBut P s.heap h' → h'.IsCode c P (ps ++ more) → h'.TableAt c P (ps ++ more) → Q code { s with heap := h', toks := tk }) : wpAny M A (genexprCode env pos qualname scope) Q E s := by
  cases hnf : codeAmong pos ps.toList with
  | some cv => exact wpAny_genexprCode_hit hc hok hnf (hQ cv s.heap s.toks #[] (Heap.ExtBut.refl _ _) (by simpa using hok) (by simpa using ht))
  | none => exact wpAny_genexprCodeX hc hok ht hnf fun c' h' tk hx _ _ hok' _ ht' _ => hQ _ h' tk _ hx hok' ht'
theorem fcode_any {env : Env} {c P : Addr} {ps : Array Value} {pos : Pos} {firstLine : Nat} {name qualname : Str} {p : Arguments} {scope : Scope} {body : FuncBody} {Q : Value → Shared → Prop} (hc : env.code = .ref c) (hok : s.heap.IsCode c P ps) (ht : s.heap.TableAt c P ps)
    (hQ : ∀ code h' tk more, Heap.ExtBut P s.heap h' → h'.IsCode c P (ps ++ more) → h'.TableAt c P (ps ++ more) → Q code { s with heap := h', toks := tk }) : wpAny M A (functionCode env pos firstLine name qualname p scope body) Q E s := by
  cases hnf : codeAmong pos ps.toList with
  | some cv => exact wpAny_functionCode_hit hc hok hnf (hQ cv s.heap s.toks #[] (Heap.ExtBut.refl _ _) (by simpa using hok) (by simpa using ht))
  | none => exact wpAny_functionCodeX hc hok ht hnf fun c' h' tk hx _ _ hok' _ ht' _ => hQ _ h' tk _ hx hok' ht'
end

/-- a def's code table -/
structure CodeTab (C : Cx) (c P : Addr) : Prop where
  PT : P ∈ C.T
  now : ∀ G h, C.TI G h → (∀ a o, C.hb.get? a = some o → a ∉ C.T → h.get? a = some o) → ∃ ps, h.IsCode c P ps ∧ h.TableAt c P ps
  grow : ∀ G h h' ps more, C.TI G h → h.TableAt c P ps → h'.IsCode c P (ps ++ more) → h'.TableAt c P (ps ++ more) → (∀ a, a ∈ C.T → a ≠ P → h'.get? a = h.get? a) → C.TI G h'
structure BIn (C : Cx) (bm : Addr) (ob : Obj) : Prop where
  name : C.mg "__builtins__" = some (.ref bm)
  ne : bm ≠ builtinsNs
  obj : C.hb.get? bm = some ob
  noT : bm ∉ C.T
  cls : ob.cls = .type "module"
  dict : ob.dict = some builtinsNs
  data : ob.data = .plain

noncomputable def ItemStr (P : Nat → Value → Prop) (xs : List (List Nat)) : Prop := ∀ i v, P i v → ∃ x t, xs[i]? = some x ∧ v = .str ⟨x.toArray⟩ t
/-- an iterated tree that gives texts -/
noncomputable def EvWk (C : Cx) (A : Around) (iter : Expr) (env : Env) (G : PH) (xs : List (List Nat)) (s : Shared) : Prop :=
  ∀ (Q E : Value → Shared → Prop), (∀ I s2 G2 fp wr P St, Step C G s G2 s2 → (∀ A' : Around, A'.handled = none → Walks C.prog C.w A' I fp wr xs.length P St) → St 0 s2.heap → (∀ b ∈ fp, ∃ o, s2.heap.get? b = some o) →
      (∀ b ∈ wr, s.heap.get? b = none ∧ G2 b = none) → (∀ b ∈ fp, b ∉ C.T) → ItemStr P xs → Q (.ref I) s2) →
    wpAny (model C.prog C.w) A (eval iter env) (fun v s1 => wpAny (model C.prog C.w) A (pyIter v) Q E s1) E s
/-- a block's value at a text -/
noncomputable def EltIs (C : Cx) (scope : Scope) (cl : List (Str × Addr)) (env : Env) (x : Str) (elt : Expr) (f : List Nat → List Nat) (xs : List (List Nat)) : Prop :=
  ∀ (L : Addr) (code : Value) (A' : Around) (E' : Value → Shared → Prop) (y : List Nat) (t : Tok) (s₂ : Shared) (m₂ : Str → Option Value), A'.handled = none → y ∈ xs → 0 < s₂.toks → s₂.heap.Ns L m₂ → m₂ x = some (.str ⟨y.toArray⟩ t) →
    wpAny (model C.prog C.w) A' (eval elt (genEnv scope cl L code builtinsNs env)) (fun v s₃ => (∃ u, v = .str ⟨(f y).toArray⟩ u) ∧ Keeps s₂ s₃) E' s₂

section
variable {C : Cx} (ok : C.Ok) {A : Around} {G : PH} {σ : Addr} {s : Shared} {env : Env}
include ok

theorem Step.code {c P : Addr} (ct : CodeTab C c P) (g : Go C G s) {h' : Heap} {tk : Nat} {ps more : Array Value} (h0 : s.heap.TableAt c P ps) (hx : Heap.ExtBut P s.heap h') (hc : h'.IsCode c P (ps ++ more)) (hc2 : h'.TableAt c P (ps ++ more)) (ht : s.toks ≤ tk) : Step C G s G { s with heap := h', toks := tk } := by
  have key : ∀ a o, s.heap.get? a = some o → a ∉ C.T → h'.get? a = some o := fun a o e n => hx a o (fun q => n (q ▸ ct.PT)) e
  refine ⟨key, fun _ _ e => e, fun _ _ e => .inl e, ⟨⟨fun a o e n => key a o (g.sok.keep a o e n) n, g.sok.gens, g.sok.os, Nat.lt_of_lt_of_le g.sok.toks ht⟩, ct.grow _ _ _ ps more g.ti h0 hc hc2 fun a ha hne => ?_, fun a o e => key a o (g.le a o e) (fun q => by rw [g.noT a q] at e; cases e), g.noT⟩, ht⟩
  obtain ⟨o, e⟩ := ok.tt _ _ g.ti a ha
  rw [e]
  exact hx a o hne e

/-- as EvE, where the count of identities is given -/
noncomputable def EvT (C : Cx) (A : Around) (t : Sem Value) (G : PH) (σ : Addr) (d : D) (s : Shared) : Prop :=
  ∀ (Q E : Value → Shared → Prop), (∀ v s', (s.toks ≤ s'.toks → ∃ G', Step C G s G' s' ∧ R G' σ d v) → Q v s') → wpAny (model C.prog C.w) A t Q E s
theorem EvT.ev {t : Sem Value} {d : D} (x : EvT C A t G σ d s) : EvE C A t G σ d s := fun Q E h =>
  wpAny_with_toks (n := s.toks) (Nat.le_refl _) (x _ _ fun v s' q ht => let ⟨G', S, r⟩ := q ht; h v s' G' S r)

/-- sep.join(block) -/
theorem e_genjoin (eo : EnvOk C env) {elt iter : Expr} {x : Str} {px : Pos} {scope : Scope} {gp cp ap bp : Pos} {kb : Nat} {sep : Str} {c P bm : Addr} {ob : Obj} (ct : CodeTab C c P) (bi : BIn C bm ob) (hcode : env.code = .ref c)
    (hh : A.handled = none) (hroom : A.depth < 900) (hline : (ap.endLine == cp.line) = true) (hco : scope.isCoroutine = false) (hclos : closureFor scope env = pure []) (hcell : ∀ y ∈ scope.names, y.2 ≠ .cell)
    (h0 : scope.names.lookup (".0" : Str) = some NameKind.local) (hx : scope.names.lookup x = some .local) (hkind : scope.kind = .function) (hs : ∀ y, genFold iter env y = pure y)
    {xs : List (List Nat)} {f : List Nat → List Nat} (hit : ∀ G' s', Step C G s G' s' → EvWk C A iter env G' xs s') (he : EltIs C scope [] env x elt f xs) (hg : Go C G s)
    (hfit : ((xs.map f).map List.length).sum + xs.length * sep.cps.toList.length ≤ 16777216) (hlen : xs.length ≤ 16777216) :
    EvT C A (eval (.Call (.Attribute (.Constant (.str sep) kb bp) "join" ap) [.GeneratorExp elt [⟨.Name x px, iter, [], 0⟩] scope gp] [] cp) env) G σ (.str (joinL sep.cps.toList (xs.map f))) s := fun Q E h => by
  refine wpAny_Call_method (T := "str") (id := "str.join") (attrBase_plain rfl) ?_ hline F.plainAttrs_str F.slot_str_join F.type_str_join (Constant_str (k := kb) (pos := bp) ⟨typeIs_str _ _ _, fun a h => (nomatch h), callWith_builtin (trees_any rfl) (evalArgs_plain (spliced_cons ?_))⟩)
  · rw [trees_plain rfl]; rfl
  have S0 : Step C G s G { s with toks := s.toks + 1 } := Step.tick (ht := by first | exact Nat.le_refl _ | exact Nat.le_succ _ | omega) ok hg
  refine wpAny_GeneratorExp_make hco hclos hcell h0 hkind (by show A.depth < 1000; lia) (hit G _ S0 _ _ fun I s2 G2 fp wr P' St S2 W hst hfp hwr hfpT hitem => ?_) hs
  have S02 := S0.trans S2
  obtain ⟨ps, hok, htb⟩ := ct.now _ _ S2.go.ti S2.go.sok.keep
  refine ⟨S2.go.lim ok, wpAny_with_toks (n := s2.toks) (Nat.le_refl _) (gcode_any hcode hok htb fun code h3 tk3 more3 hx3 hc3 ht3 htk3 => ?_)⟩
  have S3 := Step.code ok ct S2.go htb hx3 hc3 ht3 htk3
  have S := S02.trans S3
  refine wpAny_builtinsFor (by rw [eo.g]; exact S3.go.ns_g ok) bi.name bi.ne (S3.go.sok.keep _ _ bi.obj bi.noT) bi.cls bi.dict bi.data ?_
  have k3 : ∀ b o, b ∉ C.T → s2.heap.get? b = some o → h3.get? b = some o := fun b o n e => hx3 b o (fun q => n (q ▸ ct.PT)) e
  have hwr0 : ∀ b ∈ wr, s.heap.get? b = none ∧ G2 b = none := hwr
  have hcS : ∃ o, s.heap.get? cStatics = some o := by
    obtain ⟨_, ⟨o, _, _, ho, _⟩, _⟩ := hg.lim ok
    exact ⟨o, ho⟩
  intro h4 hn4 hs4
  dsimp only at hn4 hs4
  have hsz4 : h4.objs.size = h3.objs.size + 1 := by rw [hs4.1, Heap.size_push]
  have keep4 : ∀ b o, h3.get? b = some o → h4.get? b = some o := fun b o e => hs4.extBut b o (Nat.ne_of_lt (Heap.lt_size e)) (Heap.get?_push_of_some _ e)
  have hfp3 : ∀ b ∈ fp, ∃ o, h3.get? b = some o := fun b hb => by
    obtain ⟨o, e⟩ := hfp b hb
    exact ⟨o, k3 b o (hfpT b hb) e⟩
  have hst3 : St 0 h3 := (W A hh).frame _ _ _ hst fun b hb o e => k3 b o (hfpT b hb) e
  have hclt : cStatics < h3.objs.size := let ⟨_, hn, _⟩ := S3.go.lim ok; hn.lt
  have hsub : ∀ b ∈ wr, b ∈ List.range h3.objs.size := fun b hb => by
    obtain ⟨o, e⟩ := hfp3 b ((W A hh).sub b hb)
    exact List.mem_range.mpr (Heap.lt_size e)
  dsimp only
  refine spliced_nil ?_
  generalize hgob : ({ cls := .type "generator", data := .fields #[.int s2.gens.size 0, .str "<genexpr>" (tk3 + 1), .str (env.qual ++ "<genexpr>") (tk3 + 1 + 1)] } : Obj) = gob
  have hlt : h3.objs.size < h4.objs.size := by rw [hsz4]; exact Nat.lt_succ_self _
  generalize hcv : genEnv scope [] h3.objs.size code builtinsNs env = cenv
  have hcl : cenv.locals = h3.objs.size := by rw [← hcv]; rfl
  generalize ha : h4.objs.size = a
  generalize h5' : h4.push gob = h5
  have hsz : h5.objs.size = a + 1 := by rw [← h5', Heap.size_push, ha]
  have hk5 : ∀ b o, h3.get? b = some o → h5.get? b = some o := fun b o e => h5' ▸ Heap.get?_push_of_some _ (keep4 b o e)
  have hlt' : h3.objs.size < a := by rw [← ha]; exact hlt
  generalize hgs : GenState.fresh (.compStart (.GeneratorExp elt [⟨.Name x px, iter, [], 0⟩] scope gp) 0 (.ref I) .none cenv) = gs
  have hbare : gs.bare = true := by rw [← hgs]; rfl
  have hat : GenA C.prog C.w A.in4 a s2.gens.size cenv.locals (List.range h3.objs.size) wr xs.length (fun i y => ∃ z t, xs[i]? = some z ∧ y = .str ⟨(f z).toArray⟩ t) 0 { s2 with heap := h5, gens := s2.gens.push gs, toks := tk3 + 1 + 1 + 1 } := by
    refine gen_fresh (A := A.in4) (cenv := cenv) (m := fun y => if y = ".0" then some (.ref I) else none) (elt := elt) (iter := iter) (px := px) (scope := scope) (pos := gp) (I := I) (x := x) (P := P') (St₀ := St) hh (fun A' hA => (W A' hA).mono_fp fun b hb => by
      obtain ⟨o, e⟩ := hfp3 b hb
      exact List.mem_range.mpr (Heap.lt_size e)) _ (by rw [← hcv]; exact hx) (by rw [← hcv]; exact hkind) (by rw [← hcv]; exact hco) (by rw [hcl]; exact fun hm => Nat.lt_irrefl _ (List.mem_range.mp hm)) ?_ ?_ ?_ ?_ ?_ ?_ ?_
    · intro A' E' i v s₂ m₂ hA' hP h0' hns hm
      obtain ⟨z, t, hz, rfl⟩ := hitem i v hP
      rw [hcl] at hns
      rw [← hcv]
      exact wpAny_mono (he _ code A' E' z t s₂ m₂ hA' (List.mem_of_getElem? hz) h0' hns hm) (fun v s₃ q => ⟨let ⟨u, e⟩ := q.1; ⟨z, u, hz, e⟩, q.2⟩) fun _ _ q => q
    · show 0 < tk3 + 1 + 1 + 1
      lia
    · show Heap.IsGen h5 a s2.gens.size
      rw [← h5', ← ha, ← hgob]
      exact ⟨_, _, _, Heap.get?_push_size _ rfl, rfl, rfl, rfl⟩
    · rw [← hgs]; exact Array.getElem?_push_size ..
    · exact (W A hh).frame _ _ _ hst3 fun b _ o e => hk5 b o e
    · rw [hcl, ← h5']; exact hn4.push _
    · exact (S3.go.lim ok).keeps hk5
  have W5 := gen_walk (prog := C.prog) (w := C.w) (A := A.in4) hh a s2.gens.size cenv.locals (List.range h3.objs.size) wr xs.length (fun i y => ∃ z t, xs[i]? = some z ∧ y = .str ⟨(f z).toArray⟩ t) (by rw [hcl]; exact Nat.ne_of_gt hlt') (fun hm => by have := List.mem_range.mp hm; lia) hsub
    (by show A.depth < 1000; lia) (List.mem_range.mpr hclt) (by rw [hcl]; exact Nat.ne_of_lt hclt) (fun hm => by
      obtain ⟨o, e⟩ := hcS
      rw [(hwr0 _ hm).1] at e; cases e)
  rw [hcl] at W5 hat
  · have W6 := W5.in4_2
    generalize hs5 : ({ s2 with heap := h5, gens := s2.gens.push gs, toks := tk3 + 1 + 1 + 1 } : Shared) = s5 at hat
    have hheap : s5.heap = h5 := by rw [← hs5]
    have hgens : s5.gens = s2.gens.push gs := by rw [← hs5]
    have hos : s5.os = s2.os := by rw [← hs5]
    have hfrm : ∀ b o, h3.get? b = some o → b ≠ h3.objs.size := fun b o e q => by
      rw [q] at e
      exact Nat.lt_irrefl _ (Heap.lt_size e)
    refine SC.joinGen W6 (fun i s' st => st.1.typeIs) hat (fun b hb => ?_) List.mem_cons_self (fun j v hv => ?_) (fun s6 lt hm hacc => ?_) hlen
    · rw [hheap, hsz]
      rcases List.mem_cons.mp hb with rfl | hb
      · exact Nat.lt_succ_self _
      · rcases List.mem_cons.mp hb with rfl | hb
        · exact Nat.lt_succ_of_lt hlt'
        · exact Nat.lt_succ_of_lt (Nat.lt_trans (List.mem_range.mp hb) hlt')
    · obtain ⟨z, t, hz, rfl⟩ := hv
      exact ⟨_, t, rfl⟩
    · have hl : lt.map (·.1) = (xs.map f).map fun x => (⟨x.toArray⟩ : Str) := by
        apply List.ext_getElem?
        intro j
        have hsz' : lt.length = xs.length := by simpa [strValues] using hacc.1
        by_cases hj : j < xs.length
        · have hj' : j < lt.length := hsz' ▸ hj
          obtain ⟨z, t, hz, hv⟩ := hacc.2 j (.str lt[j].1 lt[j].2) (by simp [strValues, List.getElem?_eq_getElem hj'])
          injection hv with h1 _
          simp [List.getElem?_eq_getElem hj', h1, hz]
        · rw [List.getElem?_eq_none (by simpa [hsz'] using Nat.le_of_not_lt hj), List.getElem?_eq_none (by simpa using Nat.le_of_not_lt hj)]
      rw [hl]
      refine ⟨joinOk_of ?_, fun t' k => ?_⟩
      · have e1 : sep.length = sep.cps.toList.length := by simp [Str.length]
        rw [e1, List.map_map, List.length_map, List.length_map]
        have e2 : (Str.length ∘ fun x : List Nat => (⟨x.toArray⟩ : Str)) = List.length := by funext x; simp [Str.length]
        rw [e2]
        exact hfit
      · have hsep : sep = ⟨sep.cps.toList.toArray⟩ := by simp
        have e3 : Txt.join sep ((xs.map f).map fun x => (⟨x.toArray⟩ : Str)) = ⟨(joinL sep.cps.toList (xs.map f)).toArray⟩ := by
          rw [hsep, ← joinL_str]
          exact beq_iff_eq.mp (join_plain_closes _ _)
        rw [e3]
        have off : ∀ b o, s.heap.get? b = some o → h3.get? b = some o → s6.heap.get? b = some o := fun b o e0 e3 => by
          refine hm.heap b o (fun hb => ?_) (by rw [hheap]; exact hk5 b o e3)
          rcases List.mem_cons.mp hb with q | hb
          · exact hfrm b o e3 q
          · rw [(hwr0 b hb).1] at e0; cases e0
        have hT : ∀ b, b ∈ C.T → ∃ o, h3.get? b = some o ∧ s6.heap.get? b = some o := fun b hb => by
          obtain ⟨o, e⟩ := ok.tt _ _ S.go.ti b hb
          obtain ⟨o', e'⟩ := ok.tt _ _ hg.ti b hb
          refine ⟨o, e, hm.heap b o (fun hb' => ?_) (by rw [hheap]; exact hk5 b o e)⟩
          rcases List.mem_cons.mp hb' with q | hb'
          · exact hfrm b o e q
          · rw [(hwr0 b hb').1] at e'; cases e'
        have hgens6 : AllBare s6.gens := AllBare.movedS (s := s5) (by rw [hgens]; exact S2.go.sok.gens.push hbare) hm
        have S6 : s.toks ≤ k → Step C G s G2 { s6 with toks := k } := fun htk => by
          refine ⟨fun b o e n => off b o e (S.keep b o e n), S.le, S.fresh, ⟨⟨fun b o e n => off b o (hg.sok.keep b o e n) (S.go.sok.keep b o e n), hgens6, ?_, Nat.lt_of_lt_of_le hg.sok.toks htk⟩, ok.ti _ _ _ _ S.go.ti (fun _ _ _ e => e) (fun b hb => ?_), fun b o e => ?_, S.go.noT⟩, htk⟩
          · show s6.os = C.os
            rw [hm.os, hos]; exact S2.go.sok.os
          · obtain ⟨o, e1, e2⟩ := hT b hb
            show s6.heap.get? b = h3.get? b
            rw [e1, e2]
          · refine hm.heap b o (fun hb => ?_) (by rw [hheap]; exact hk5 b o (S.go.le b o e))
            rcases List.mem_cons.mp hb with q | hb
            · exact hfrm b o (S.go.le b o e) q
            · rw [(hwr0 b hb).2] at e; cases e
        exact h _ _ fun htk => ⟨G2, S6 htk, .str _ _⟩
end
end Mine
end TG6
section TG7
open PySem PySem.W PyProof.Rows PySem.Calls
set_option maxRecDepth 100000
namespace Mine

theorem repl_walk {prog : Program} {w : World} {A : Around} {E : Value → Shared → Prop} {s : Shared} {env : Env} {o : Expr} {apos pos cp1 cp2 : Pos} {k1 k2 : Nat} {y z : Str} {x : List Nat} {Q : Value → Shared → Prop}
    (hb : plainBase o = true) (hline : (apos.endLine == pos.line) = true) (hne : (y == z) = false) (hfit : x.length + (x.length + 1) * z.length ≤ 16777216)
    (ho : wpAny (model prog w) A (eval o env) (fun v s1 => ∃ t, v = .str ⟨x.toArray⟩ t ∧ 0 < s1.toks ∧ ∀ t' k, Q (.str ⟨(replL x y.cps.toList z.cps.toList).toArray⟩ t') { s1 with toks := k }) E s) :
    wpAny (model prog w) A (eval (.Call (.Attribute o "replace" apos) [.Constant (.str y) k1 cp1, .Constant (.str z) k2 cp2] [] pos) env) Q E s := by
  refine wpAny_Call_method (T := "str") (id := "str.replace") (attrBase_plain hb) ?_ hline F.plainAttrs_str F.slot_str_replace F.type_str_replace (wpAny_mono ho (fun v s1 h1 => ?_) fun _ _ e => e)
  · rw [trees_plain rfl]; rfl
  · obtain ⟨t, rfl, hp, hq⟩ := h1
    refine ⟨typeIs_str _ _ _, fun a h => (nomatch h), callWith_builtin (trees_any rfl) (evalArgs_plain (spliced_cons (Constant_str (k := k1) (pos := cp1) (spliced_cons (Constant_str (k := k2) (pos := cp2) (spliced_nil ?_))))))⟩
    refine SC.replace (Nat.ne_of_gt hp) (Nat.ne_of_gt (Nat.succ_pos _)) (Nat.ne_of_lt (Nat.lt_succ_self _)) hne ?_ fun t' k => ?_
    · have : (⟨x.toArray⟩ : Str).length = x.length := by simp [Str.length]
      rw [this]; exact hfit
    · have := hq t' k
      unfold replL at this
      simpa using this

theorem keeps_tok {s : Shared} {k : Nat} : Keeps s { s with toks := k } := ⟨s.heap, k, rfl, fun _ _ e => e⟩
theorem elt_repl2 {C : Cx} {scope : Scope} {env : Env} {x : Str} {p1 ap1 ap2 cp1 cp2 q1 q2 q3 q4 : Pos} {k1 k2 k3 k4 : Nat} {a1 b1 a2 b2 : Str} {xs : List (List Nat)}
    (hk : scope.kind = .function) (hx : scope.names.lookup x = some .local) (hd : (x == ("__debug__" : Str)) = false) (hl1 : (ap1.endLine == cp1.line) = true) (hl2 : (ap2.endLine == cp2.line) = true) (h1 : (a1 == b1) = false) (h2 : (a2 == b2) = false)
    (hs1 : ∀ y ∈ xs, y.length + (y.length + 1) * b1.length ≤ 16777216) (hs2 : ∀ y ∈ xs, (replL y a1.cps.toList b1.cps.toList).length + ((replL y a1.cps.toList b1.cps.toList).length + 1) * b2.length ≤ 16777216) :
    EltIs C scope [] env x (.Call (.Attribute (.Call (.Attribute (.Name x p1) "replace" ap1) [.Constant (.str a1) k1 q1, .Constant (.str b1) k2 q2] [] cp1) "replace" ap2) [.Constant (.str a2) k3 q3, .Constant (.str b2) k4 q4] [] cp2)
      (fun y => replL (replL y a1.cps.toList b1.cps.toList) a2.cps.toList b2.cps.toList) xs := fun L code A' E' y t s₂ m₂ hA hy h0 hns hm => by
  refine repl_walk (x := replL y a1.cps.toList b1.cps.toList) rfl hl2 h2 (hs2 y hy) ?_
  refine wpAny_with_toks (n := s₂.toks) (Nat.le_refl _) ?_
  refine repl_walk (x := y) rfl hl1 h1 (hs1 y hy) ?_
  refine wpAny_Name (wpAny_loadName_local (by exact hk) (by exact hx) hns hm ?_) hd
  exact ⟨t, rfl, h0, fun t' k htk => ⟨t', rfl, Nat.lt_of_lt_of_le h0 htk, fun t2 k2 => ⟨⟨t2, rfl⟩, keeps_tok⟩⟩⟩

section
variable {C : Cx} (ok : C.Ok) {A : Around} {G : PH} {σ : Addr} {s : Shared} {env : Env}
include ok
theorem wk_lst {iter : Expr} {xs : List (List Nat)} (hh : A.handled = none) (he : EvE C A (eval iter env) G σ (.lst (xs.map .str)) s) : EvWk C A iter env G xs s := fun Q E h => by
  refine he _ _ fun v s1 G1 S1 r1 => iter_ok ok S1.go r1 rfl fun fp P T o X hT0 hfr => ?_
  generalize hI : s1.heap.objs.size = I at X
  have hn : s1.heap.get? I = none := hI ▸ get_size _
  have hG : G1 I = none := by
    cases q : G1 I with
    | none => rfl
    | some o => rw [S1.go.le _ _ q] at hn; cases hn
  have hs0 : s.heap.get? I = none := by
    cases q : s.heap.get? I with
    | none => rfl
    | some o => rw [S1.keep _ _ q (S1.go.notT ok hn)] at hn; cases hn
  have P2 := Step.keeps (ht := by first | exact Nat.le_refl _ | exact Nat.le_succ _ | omega) ok S1.go (h' := s1.heap.push o) (tk := s1.toks) fun _ _ e => Heap.get?_push_of_some _ e
  refine h I _ G1 fp [I] P T (S1.trans P2) (fun A' hA => by have := X.W A' hA; rw [List.length_map] at this; exact this) hT0 (fun b hb => ?_) (fun b hb => ?_) (fun b hb => ?_) fun i v hP => ?_
  · rcases X.fp b hb with rfl | ⟨o', e⟩
    · exact ⟨o, by show (s1.heap.push o).get? b = _; rw [← hI]; exact Heap.get?_push_size _ hfr⟩
    · exact ⟨o', Heap.get?_push_of_some _ (S1.go.le _ _ e)⟩
  · rw [List.mem_singleton.mp hb]; exact ⟨hs0, hG⟩
  · rcases X.fp b hb with rfl | ⟨o', e⟩
    · exact S1.go.notT ok hn
    · exact fun q => by rw [S1.go.noT b q] at e; cases e
  · obtain ⟨d, e, r⟩ := X.val i v hP
    rw [List.getElem?_map] at e
    cases q : xs[i]? with
    | none => rw [q] at e; simp at e
    | some y =>
      rw [q] at e
      simp at e
      subst e
      cases r
      exact ⟨y, _, rfl, rfl⟩
end
end Mine
end TG7
section TG8
open PySem PySem.W PyProof.Rows PySem.Calls
set_option maxRecDepth 100000
namespace Mine

/-! the join over a block in _translate: stuff = '-'.join(s.replace(..).replace(..) for s in chunks) -/
noncomputable def gjC (nm : NmL) (x sep m m1 m2 a1 b1 a2 b2 s s' it : Str) (ap cp ap1 cp1 ap2 cp2 : Pos) (scope : Scope) : Bool :=
    x == ("stuff" : Str) && tk nm x && sep == ("-" : Str) && m == ("join" : Str) && m1 == ("replace" : Str) && m2 == ("replace" : Str) && a1 == ("\\" : Str) && b1 == ("\\\\" : Str) && a2 == ("-" : Str) && b2 == ("\\-" : Str) && s == ("s" : Str) && s' == ("s" : Str) && it == ("chunks" : Str) && vk nm it &&
    (ap.endLine == cp.line) && (ap1.endLine == cp1.line) && (ap2.endLine == cp2.line) && decide (scope.kind = .function) && !scope.isCoroutine && scope.names.all (fun p => p.2 != .cell && p.2 != .free) && lk scope.names ".0" && lk scope.names "s"
noncomputable def gjB (nm : NmL) (st : Stmt) : Bool :=
  sAssign st fun ts v _ => on1 ts fun t => xName t fun x _ => xCall v fun f as kw cp => on0 kw (xAttribute f fun se m ap => xStr se fun sep _ _ => on1 as fun g => xGeneratorExp g fun el gs scope _ => on1 gs fun c => onComp c fun ct ci cf ca => on0 cf (onZ ca 0 (xName ct fun s' _ => xName ci fun it _ =>
  xCall el fun f2 as2 kw2 cp2 => on0 kw2 (xAttribute f2 fun e2 m2 ap2 => on2 as2 fun ea2 eb2 => xStr ea2 fun a2 _ _ => xStr eb2 fun b2 _ _ => xCall e2 fun f1 as1 kw1 cp1 => on0 kw1 (xAttribute f1 fun e1 m1 ap1 => xName e1 fun s _ => on2 as1 fun ea1 eb1 => xStr ea1 fun a1 _ _ => xStr eb1 fun b1 _ _ =>
    gjC nm x sep m m1 m2 a1 b1 a2 b2 s s' it ap cp ap1 cp1 ap2 cp2 scope)))))
theorem gjB_i {nm : NmL} {st : Stmt} {P : Stmt → Prop} (hst : gjB nm st = true) (hp : ∀ x xp sep k0 p0 m ap s sp m1 ap1 a1 k3 p3 b1 k4 p4 cp1 m2 ap2 a2 k1 p1 b2 k2 p2 cp2 s' sp' it ip scope gp cp pos, gjC nm x sep m m1 m2 a1 b1 a2 b2 s s' it ap cp ap1 cp1 ap2 cp2 scope = true →
    P (.Assign [.Name x xp] (.Call (.Attribute (.Constant (.str sep) k0 p0) m ap) [.GeneratorExp (.Call (.Attribute (.Call (.Attribute (.Name s sp) m1 ap1) [.Constant (.str a1) k3 p3, .Constant (.str b1) k4 p4] [] cp1) m2 ap2) [.Constant (.str a2) k1 p1, .Constant (.str b2) k2 p2] [] cp2) [⟨.Name s' sp', .Name it ip, [], 0⟩] scope gp] [] cp) pos)) : P st := by
  apply sAssign_e hst; clear hst; intro ts v pos hst
  apply on1_e hst; clear hst; intro t hst
  apply xName_e hst; clear hst; intro x xp hst
  apply xCall_e hst; clear hst; intro f as kw cp hst
  apply on0_e hst; clear hst; intro hst
  apply xAttribute_e hst; clear hst; intro se m ap hst
  apply xStr_e hst; clear hst; intro sep k0 p0 hst
  apply on1_e hst; clear hst; intro g hst
  apply xGeneratorExp_e hst; clear hst; intro el gs scope gp hst
  apply on1_e hst; clear hst; intro c hst
  apply onComp_e hst; clear hst; intro ct ci cf ca hst
  apply on0_e hst; clear hst; intro hst
  apply onZ_e hst; clear hst; intro hst
  apply xName_e hst; clear hst; intro s' sp' hst
  apply xName_e hst; clear hst; intro it ip hst
  apply xCall_e hst; clear hst; intro f2 as2 kw2 cp2 hst
  apply on0_e hst; clear hst; intro hst
  apply xAttribute_e hst; clear hst; intro e2 m2 ap2 hst
  apply on2_e hst; clear hst; intro ea2 eb2 hst
  apply xStr_e hst; clear hst; intro a2 k1 p1 hst
  apply xStr_e hst; clear hst; intro b2 k2 p2 hst
  apply xCall_e hst; clear hst; intro f1 as1 kw1 cp1 hst
  apply on0_e hst; clear hst; intro hst
  apply xAttribute_e hst; clear hst; intro e1 m1 ap1 hst
  apply xName_e hst; clear hst; intro s sp hst
  apply on2_e hst; clear hst; intro ea1 eb1 hst
  apply xStr_e hst; clear hst; intro a1 k3 p3 hst
  apply xStr_e hst; clear hst; intro b1 k4 p4 hst
  exact hp _ _ _ _ _ _ _ _ _ _ _ _ _ _ _ _ _ _ _ _ _ _ _ _ _ _ _ _ _ _ _ _ _ _ _ hst
noncomputable def chk (y : List Nat) : List Nat := replL (replL y [92] [92, 92]) [45] [92, 45]
noncomputable def chkOk (xs : List (List Nat)) : Bool := decide (xs.length ≤ 1000) && xs.all fun y => decide (y.length ≤ 1000) && decide ((replL y [92] [92, 92]).length ≤ 2000) && decide ((chk y).length ≤ 4000)
noncomputable def hkGen (V : List CB) : Option (List CB) := (gv V 10).bind fun d => (asL d).bind fun ds => (strsD ds).bind fun xs => if chkOk xs then setV V 9 (.val (.str (joinL [45] (xs.map chk)))) else none

theorem strsD_map : ∀ {ds : List D} {xs : List (List Nat)}, strsD ds = some xs → ds = xs.map .str
  | [], xs, h => by cases h; rfl
  | d :: r, xs, h => by
    unfold strsD at h
    split at h
    · rename_i q; cases q
    · rename_i q
      cases q
      obtain ⟨ys, e, rfl⟩ := ms h
      rw [strsD_map e]; rfl
    · cases h
theorem closL_nil {env : Env} : ∀ {names : List (Str × NameKind)}, (∀ p ∈ names, p.2 ≠ .free) → closL env names [] = []
  | [], _ => rfl
  | (n, k) :: r, h => by
    unfold closL
    rw [if_neg (by have := h (n, k) List.mem_cons_self; simpa using this)]
    exact closL_nil fun p hp => h p (List.mem_cons_of_mem _ hp)
theorem sum_le {l : List Nat} {b : Nat} (h : ∀ x ∈ l, x ≤ b) : l.sum ≤ l.length * b := by
  induction l with
  | nil => simp
  | cons x r ih =>
    have h1 := h x List.mem_cons_self
    have h2 := ih fun y hy => h y (List.mem_cons_of_mem _ hy)
    rw [List.sum_cons, List.length_cons, Nat.succ_mul]
    lia

theorem hook_gen {C : Cx} (ok : C.Ok) {A : Around} {env : Env} {G₀ : PH} {s₀ : Shared} {σ : Addr} {nm : NmL} (eo : EnvOk C env) (hnm : env.scope.names = nm) (k₀ : Sok C s₀) (hfl : ∀ x k, (x, k) ∈ nm → k = NameKind.local ∨ k = NameKind.cell → FreshLoc env s₀ x)
    (hh : A.handled = none) (hroom : A.depth < 900) {c P bm : Addr} {ob : Obj} (ct : CodeTab C c P) (bi : BIn C bm ob) (hcode : env.code = .ref c) {st : Stmt} (hst : gjB nm st = true) {V V' : List CB} (hV : hkGen V = some V') (hl : V.length = n_translate.length) :
    V'.length = n_translate.length ∧ ∀ G s M, AtM C env G₀ s₀ (stN n_translate V) G σ M s → EvS C A env G₀ s₀ (exec st env) (stN n_translate V) G σ M s .next (stN n_translate V') := by
  have hN : n_translate.Nodup := by decide +kernel
  have hN0 : Str.ofString "" ∉ n_translate := by decide +kernel
  apply bs_e hV; intro d e1 e2
  apply bs_e e2; intro ds e3 e4
  have := asL_some e3
  subst this
  apply bs_e e4; intro xs e5 e6
  have := strsD_map e5
  subst this
  split at e6
  case isFalse => cases e6
  rename_i hck
  obtain ⟨e7, rfl⟩ := setV_some e6
  refine ⟨by simp; exact hl, fun G s M a => ?_⟩
  apply gjB_i hst
  clear hst
  intro x xp sep k0 p0 m ap s sp m1 ap1 a1 k3 p3 b1 k4 p4 cp1 m2 ap2 a2 k1 p1 b2 k2 p2 cp2 s' sp' it ip scope gp cp pos hst
  unfold gjC at hst
  simp only [Bool.and_eq_true, Bool.not_eq_true', beq_iff_eq] at hst
  obtain ⟨⟨⟨⟨⟨⟨⟨⟨⟨⟨⟨⟨⟨⟨⟨⟨⟨⟨⟨⟨⟨q1, q2⟩, q3⟩, q4⟩, q5⟩, q6⟩, q7⟩, q8⟩, q9⟩, q10⟩, q11⟩, q12⟩, q13⟩, q14⟩, q15⟩, q16⟩, q17⟩, q18⟩, q19⟩, q20⟩, q21⟩, q22⟩ := hst
  subst q1 q3 q4 q5 q6 q7 q8 q9 q10 q11 q12 q13
  have hkind := bx q18
  have hnames := List.all_eq_true.mp q20
  have hcell : ∀ y ∈ ‹Scope›.names, y.2 ≠ .cell := fun y hy => by have := hnames y hy; simp at this; exact this.1
  have hfree : ∀ y ∈ ‹Scope›.names, y.2 ≠ .free := fun y hy => by have := hnames y hy; simp at this; exact this.2
  have hclos : closureFor ‹Scope› env = pure [] := by
    rw [closureFor_is fun n hn => absurd rfl (hfree (n, .free) hn), closL_nil hfree]
  have hlk : ∀ {x : Str} {sn : NmL}, lk sn x = true → sn.lookup x = some .local := fun {x sn} h => bx h
  have hx9 : n_translate[9]? = some (Str.ofString "stuff") := rfl
  have hx10 : n_translate[10]? = some (Str.ofString "chunks") := rfl
  rw [st_set hN hx9 hl]
  obtain ⟨kk, hm, hor⟩ := tk_mem q2
  unfold chkOk at hck
  rw [Bool.and_eq_true] at hck
  have hcl := of_decide_eq_true hck.1
  have hcx := fun y hy => List.all_eq_true.mp hck.2 y hy
  have c1 : ∀ y ∈ xs, y.length ≤ 1000 ∧ (replL y [92] [92, 92]).length ≤ 2000 ∧ (chk y).length ≤ 4000 := fun y hy => by
    have := hcx y hy
    simp only [Bool.and_eq_true, decide_eq_true_eq] at this
    exact ⟨this.1.1, this.1.2, this.2⟩
  refine s_assign ok k₀ eo rfl a (hfl _ kk hm hor) (noApp_st hN hx9 (by decide +kernel) e7) (EvT.ev ok ?_)
  refine e_genjoin ok (f := chk) eo ct bi hcode hh hroom (by simpa using q15) q19 hclos hcell (hlk q21) (hlk q22) hkind (fun _ => rfl) (fun G' s' S' => wk_lst ok (σ := σ) hh ?_) ?_ a.at0.st.go ?_ (by lia)
  · have a' := a.step ok eo S'
    obtain ⟨v, l, r⟩ := a'.at0.rd (Str.ofString "chunks") (.lst (xs.map .str)) (by unfold vals; rw [st_at hN hx10 (gv_some e1)]; rfl) (vis_of hnm q14)
    exact e_var eo S'.go l r (by decide +kernel) (by decide +kernel)
  · exact elt_repl2 hkind (hlk q22) (by decide +kernel) (by simpa using q16) (by simpa using q17) (by decide +kernel) (by decide +kernel) (fun y hy => by
      have h1 := (c1 y hy).1
      have : (Str.ofString "\\\\").length = 2 := by decide +kernel
      rw [this]; lia) fun y hy => by
      have h1 := (c1 y hy).2.1
      have : (Str.ofString "\\-").length = 2 := by decide +kernel
      rw [this]
      have e8 : (Str.ofString "\\").cps.toList = [92] := by decide +kernel
      have e9 : (Str.ofString "\\\\").cps.toList = [92, 92] := by decide +kernel
      rw [e8, e9]
      lia
  · have h2 : ((xs.map chk).map List.length).sum ≤ ((xs.map chk).map List.length).length * 4000 := sum_le fun x hx => by
      obtain ⟨y, hy, rfl⟩ := List.mem_map.mp hx
      obtain ⟨z, hz, rfl⟩ := List.mem_map.mp hy
      exact (c1 z hz).2.2
    rw [List.length_map, List.length_map] at h2
    have h3 : (Str.ofString "-").cps.toList.length = 1 := by decide +kernel
    rw [h3]
    lia
end Mine
end TG8
section TG9
open PySem PySem.W PyProof.Rows PySem.Calls
set_option maxRecDepth 100000
namespace Mine
namespace FF
theorem slot_filter_next : Slot "filter" "__next__" "filter.__next__" :=
  .of (owner := "filter") (n := "__next__") (by rw [typeLookup_type, builtinLookup_eq_fast]; kernel_rfl) (by decide +kernel) (by decide +kernel) (by decide +kernel)
    (by first | exact .inl (by decide +kernel) | exact .inr (by decide +kernel)) (by rw [isSubtype_type]; kernel_rfl)
theorem slot_filter_iter : Slot "filter" "__iter__" "filter.__iter__" :=
  .of (owner := "filter") (n := "__iter__") (by rw [typeLookup_type, builtinLookup_eq_fast]; kernel_rfl) (by decide +kernel) (by decide +kernel) (by decide +kernel)
    (by first | exact .inl (by decide +kernel) | exact .inr (by decide +kernel)) (by rw [isSubtype_type]; kernel_rfl)
theorem entry_filter_next : entryFor table "filter.__next__" = some Builtin.«filter.__next__» := entryFor_of_tree (by kernel_rfl)
theorem args_filter_next (a : Value) : argsOk "filter.__next__" ⟨[a], []⟩ := by unfold argsOk; kernel_rfl
theorem args_filter_iter (a : Value) : argsOk "filter.__iter__" ⟨[a], []⟩ := by unfold argsOk; kernel_rfl
theorem mro_filter : mroOf (.type "filter") = pure [.type "filter", .type "object"] := by rw [mroOf_type]; kernel_rfl
theorem lookup_filter_new : typeLookup (.type "filter") "__new__" = pure (some (.builtin "filter.__new__")) := by rw [typeLookup_type, builtinLookup_eq_fast]; kernel_rfl
theorem made_filter : Bind.madeBy (.type "filter") = pure (some "filter.__new__") := PySem.madeBy_type mro_filter lookup_filter_new (by decide +kernel)
theorem sub_filter : isSubtype (.type "filter") (.type "filter") = pure true := by rw [isSubtype_type]; kernel_rfl
theorem slot_filter_init : Slot "filter" "__init__" "object.__init__" :=
  .of (owner := "object") (n := "__init__") (by rw [typeLookup_type, builtinLookup_eq_fast]; kernel_rfl) (by decide +kernel) (by decide +kernel) (by decide +kernel)
    (by first | exact .inl (by decide +kernel) | exact .inr (by decide +kernel)) (by rw [isSubtype_type]; kernel_rfl)
theorem called_filter : TypeCalled "filter" "filter.__new__" "object.__init__" :=
  ⟨by decide +kernel, by decide +kernel, ⟨_, _, mro_filter⟩, made_filter, by decide +kernel, sub_filter, slot_filter_init⟩
theorem typeCall_filter (a b : Value) : checkTypeCall "filter" ⟨[a, b], []⟩ = pure () := by kernel_rfl
theorem newCall_filter (a b : Value) : checkBuiltinCall "filter.__new__" ⟨[.type "filter", a, b], []⟩ = pure () := by kernel_rfl
theorem entry_filter_new : entryFor table "filter.__new__" = some Builtin.«filter.__new__» := entryFor_of_tree (by kernel_rfl)
theorem entry_filter_iter : entryFor table "filter.__iter__" = some Builtin.«dict_keyiterator.__iter__» :=
  entryFor_alias (id' := "dict_keyiterator.__iter__") (by kernel_rfl) (by first | rfl | decide +kernel | (unfold String.splitOn; simp +decide [String.splitOnAux])) (by decide +kernel) (by kernel_rfl)
end FF

noncomputable def IsFil (h : Heap) (fa it : Addr) : Prop := h.get? fa = some { cls := .type "filter", data := .fields #[.builtin "len", .ref it] }
section
variable {prog : Program} {w : World} {A : Around} {E : Value → Shared → Prop} {s : Shared}

theorem fil_item {fa it t : Addr} {i : Nat} {items : Array Value} {y : List Nat} {u : Tok} {Q : Option Value → Shared → Prop} (hF : IsFil s.heap fa it) (hit : s.heap.IsTupleIter it t i) (ht : s.heap.IsTuple t items) (hx : items[i]? = some (.str ⟨y.toArray⟩ u))
    (hy : y ≠ []) (hyl : y.length ≤ 16777216) (hne : fa ≠ it) (hQ : ∀ h' tk, h'.IsTupleIter it t (i + 1) → Heap.SameBut it s.heap h' → s.toks ≤ tk → Q (some (.str ⟨y.toArray⟩ u)) { s with heap := h', toks := tk }) :
    wpAny (model prog w) A (pyNext (.ref fa)) Q E s := by
  have hT : s.TypeIs (.ref fa) "filter" := ⟨_, hF, rfl⟩
  obtain ⟨o, ho, hc, hd⟩ := id hit
  obtain ⟨ol, hol, _, nl, hdl⟩ := ht
  unfold pyNext
  refine wpAny_bind (wpAny_attempt (wpAny_callSpecial?_slot (name := Str.ofString "__next__") hT FF.slot_filter_next (wpAny_call_entry FF.slot_filter_next hT FF.entry_filter_next ?_ (FF.args_filter_next _))))
  show wpAny _ _ (field (.ref fa) 0 >>= _) _ _ s
  refine wpAny_bind (wpAny_field hF rfl (x := .builtin "len") rfl ?_)
  show wpAny _ _ (field (.ref fa) 1 >>= _) _ _ s
  refine wpAny_bind (wpAny_field hF rfl (x := .ref it) rfl ?_)
  refine wpAny_bind (wpAny_callSpecial?_slot (name := Str.ofString "__next__") hit.typeIs PySem.F.slot_tuple_iterator_next (wpAny_call_entry PySem.F.slot_tuple_iterator_next hit.typeIs PySem.F.entry_tuple_iterator_next ?_ (PySem.F.args_tuple_iterator_next_1 _)))
  show wpAny _ _ (field (.ref it) 0 >>= _) _ _ s
  refine wpAny_bind (wpAny_field ho hd (x := .ref t) rfl ?_)
  show wpAny _ _ (if (Value.ref t == Value.none) = true then _ else _) _ _ s
  rw [if_neg (show ¬ ((Value.ref t == Value.none) = true) from Bool.false_ne_true)]
  show wpAny _ _ (field (.ref it) 1 >>= _) _ _ s
  refine wpAny_bind (wpAny_field ho hd (x := .int i 0) rfl ?_)
  show wpAny _ _ (seqItems? (.ref t) >>= _) _ _ s
  refine wpAny_bind (wpAny_seqItems hol hdl ?_)
  simp only [Int.toNat_natCast, hx]
  refine wpAny_bind (wpAny_setField ho hd (by simp) (wpAny_pure ⟨_, rfl, ?_⟩))
  refine wpAny_bind (wpAny_holding ?_)
  rw [if_neg (by decide)]
  refine wpAny_bind (P.len_str (by simp [Str.length]; lia) ?_)
  refine wpAny_holding (P.truthy_int ?_)
  have hlen : (((⟨y.toArray⟩ : Str).length : Int) != 0) = true := by
    cases y with
    | nil => exact absurd rfl hy
    | cons a r => simp [Str.length]; lia
  rw [if_pos hlen]
  refine wpAny_pure ⟨_, rfl, wpAny_pure (hQ _ _ ?_ (Heap.SameBut.update ..) (show s.toks ≤ s.toks + 1 + 1 by lia))⟩
  exact ⟨_, Heap.get?_update_self _ ho (Obj.isFreed_of_fields (Obj.data_mapFields hd _)), (Obj.cls_mapFields ..).trans hc, by
    rw [Obj.data_mapFields hd]; simp [rawInt]⟩
end
end Mine
end TG9
section TG10
open PySem PySem.W PyProof.Rows PySem.Calls
set_option maxRecDepth 100000
namespace Mine
namespace FF
theorem args_object_init_3 (a b c : Value) : argsOk "object.__init__" ⟨[a, b, c], []⟩ := by unfold argsOk; kernel_rfl
end FF
section
variable {prog : Program} {w : World} {A : Around} {E : Value → Shared → Prop} {s : Shared}

theorem fil_done {fa it t : Addr} {i : Nat} {items : Array Value} {Q : Option Value → Shared → Prop} (hh : A.handled = none) (hF : IsFil s.heap fa it) (hit : s.heap.IsTupleIter it t i) (ht : s.heap.IsTuple t items) (hx : items[i]? = none)
    (hQ : ∀ h', Heap.ExtBut it s.heap h' → Q none { s with heap := h' }) : wpAny (model prog w) A (pyNext (.ref fa)) Q E s := by
  have hT : s.TypeIs (.ref fa) "filter" := ⟨_, hF, rfl⟩
  obtain ⟨o, ho, hc, hd⟩ := id hit
  obtain ⟨ol, hol, _, nl, hdl⟩ := ht
  unfold pyNext
  refine wpAny_bind (wpAny_attempt (wpAny_callSpecial?_slot (name := Str.ofString "__next__") hT FF.slot_filter_next (wpAny_call_entry FF.slot_filter_next hT FF.entry_filter_next ?_ (FF.args_filter_next _))))
  show wpAny _ _ (field (.ref fa) 0 >>= _) _ _ s
  refine wpAny_bind (wpAny_field hF rfl (x := .builtin "len") rfl ?_)
  show wpAny _ _ (field (.ref fa) 1 >>= _) _ _ s
  refine wpAny_bind (wpAny_field hF rfl (x := .ref it) rfl ?_)
  refine wpAny_bind (wpAny_callSpecial?_slot (name := Str.ofString "__next__") hit.typeIs PySem.F.slot_tuple_iterator_next (wpAny_call_entry PySem.F.slot_tuple_iterator_next hit.typeIs PySem.F.entry_tuple_iterator_next ?_ (PySem.F.args_tuple_iterator_next_1 _)))
  show wpAny _ _ (field (.ref it) 0 >>= _) _ _ s
  refine wpAny_bind (wpAny_field ho hd (x := .ref t) rfl ?_)
  show wpAny _ _ (if (Value.ref t == Value.none) = true then _ else _) _ _ s
  rw [if_neg (show ¬ ((Value.ref t == Value.none) = true) from Bool.false_ne_true)]
  show wpAny _ _ (field (.ref it) 1 >>= _) _ _ s
  refine wpAny_bind (wpAny_field ho hd (x := .int i 0) rfl ?_)
  show wpAny _ _ (seqItems? (.ref t) >>= _) _ _ s
  refine wpAny_bind (wpAny_seqItems hol hdl ?_)
  simp only [Int.toNat_natCast, hx]
  refine wpAny_bind (wpAny_rule (wpAny_bind (wpAny_setField ho hd (by simp) ?_)))
  show wpAny _ _ (newExc (.type "StopIteration") [] >>= _) _ _ _
  refine wpAny_bind ?_
  simp only [newExc, newTuple]
  refine wpAny_bind (wpAny_newObj_type ?_ (by size_fits))
  refine wpAny_bind (m := firstArgMember _ _) (wpAny_of_eq (a := Value.none) (by first | rfl | (simp only [firstArgMember]; rfl)) ?_)
  refine wpAny_newObj_type ?_ (by size_fits)
  simp only [raiseNew]
  refine wpAny_bind (wpAny_handled ?_)
  first | rw [show A.in1.handled = none from hh] | rw [show A.in1.in1.handled = none from hh] | rw [hh]
  refine wpAny_bind (wpAny_pure (wpAny_throw ?_))
  refine wpAny_bind (wpAny_isInstance (T := "StopIteration") (b := true) ⟨_, Heap.get?_push_size _ rfl, rfl⟩ isSubtype_stop ?_)
  exact wpAny_pure (hQ _ (((Heap.SameBut.update ..).extBut.push _).push _))

theorem fil_self {fa it : Addr} {Q : Value → Shared → Prop} (hF : IsFil s.heap fa it) (h : Q (.ref fa) s) : wpAny (model prog w) A (pyIter (.ref fa)) Q E s := by
  have hT : s.TypeIs (.ref fa) "filter" := ⟨_, hF, rfl⟩
  refine wpAny_pyIter_slot hT FF.slot_filter_iter (wpAny_call_entry FF.slot_filter_iter hT FF.entry_filter_iter ?_ (FF.args_filter_iter _))
  show wpAny _ _ (ret (.ref fa)) _ _ s
  exact wpAny_pure ⟨_, rfl, "filter", _, hT, FF.slot_filter_next.lookup, h⟩

theorem IsFil.at {h h' : Heap} {a it : Addr} (x : IsFil h a it) (e : ∀ o, h.get? a = some o → h'.get? a = some o) : IsFil h' a it := e _ x

theorem Walks.fil (hh : A.handled = none) (I it t : Addr) (h1 : t ≠ it) (h2 : I ≠ it) (items : Array Value) (hs : ∀ (i : Nat) v, items[i]? = some v → ∃ y u, y ≠ [] ∧ List.length y ≤ 16777216 ∧ v = .str ⟨y.toArray⟩ u) :
    Walks prog w A I [I, it, t] [it] items.size (fun i v => items[i]? = some v) (fun i h => IsFil h I it ∧ h.IsTupleIter it t i ∧ h.IsTuple t items) where
  sub := fun b hb => by simp at hb; simp [hb]
  frame := fun _ _ _ st hk => ⟨st.1.at fun o e => hk I (by simp) o e, st.2.1.at fun o e => hk it (by simp) o e, st.2.2.at fun o e => hk t (by simp) o e⟩
  item := fun i s Q E hi st hQ => by
    obtain ⟨y, u, hy, hyl, hv⟩ := hs i items[i] (by simp [hi])
    have hx : items[i]? = some (.str ⟨y.toArray⟩ u) := by rw [← hv]; simp [hi]
    refine fil_item st.1 st.2.1 st.2.2 hx hy hyl h2 fun h' tk hit' hs' _ => ?_
    exact hQ _ h' tk hx ⟨st.1.at fun o e => hs'.extBut I o h2 e, hit', st.2.2.extBut hs'.extBut h1⟩ fun b o hb e => hs'.extBut b o (fun h => hb (by simp [h])) e
  done := fun s Q E st hQ => fil_done hh st.1 st.2.1 st.2.2 (by simp) fun h' he' => hQ h' s.toks fun b o hb e => he' b o (fun h => hb (by simp [h])) e
  self := fun i s Q E st hQ => fil_self st.1 hQ

theorem obj_init_fil {fa it : Addr} {a b : Value} {Q : PySem.Fin → Shared → Prop} (hF : IsFil s.heap fa it) (h : Q (.done (.ret .none)) s) : wpAny (model prog w) A (Builtin.«object.__init__» ⟨[.ref fa, a, b], []⟩) Q E s := by
  have hT : s.TypeIs (.ref fa) "filter" := ⟨_, hF, rfl⟩
  unfold Builtin.«object.__init__»
  dsimp only
  rw [if_pos (by rfl)]
  refine wpAny_bind (wpAny_typeOf hT ?_)
  refine wpAny_bind (wpAny_of_eq FF.slot_filter_init.lookup ?_)
  refine wpAny_bind (wpAny_of_eq FF.made_filter ?_)
  dsimp only
  simp
  exact wpAny_pure h
theorem fil_new {t : Addr} {items : Array Value} {Q : PySem.Fin → Shared → Prop} (ht : s.heap.IsTuple t items)
    (h : Q (.done (.ret (.ref (s.heap.objs.size + 1)))) { s with heap := (s.heap.push { cls := .type "tuple_iterator", data := .fields #[.ref t, .int 0 0] }).push { cls := .type "filter", data := .fields #[.builtin "len", .ref s.heap.objs.size] } }) :
    wpAny (model prog w) A (Builtin.«filter.__new__» ⟨[.type "filter", .builtin "len", .ref t], []⟩) Q E s := by
  unfold Builtin.«filter.__new__»
  have hn : (Builtin.SmallTypes.newClass "filter" ⟨[.type "filter", .builtin "len", .ref t], []⟩) = pure (.type "filter", [.builtin "len", .ref t]) := by kernel_rfl
  refine wpAny_bind (wpAny_of_eq hn ?_)
  dsimp only
  refine wpAny_bind (wpAny_of_eq (a := ()) (by rfl) ?_)
  refine wpAny_bind (wpAny_of_eq (a := ()) (by rfl) ?_)
  refine wpAny_bind (wpAny_pyIter_tuple ht ?_)
  refine wpAny_bind ?_
  show wpAny _ _ (newObj (.type "filter") (.fields #[.builtin "len", .ref s.heap.objs.size])) _ _ _
  refine wpAny_newObj_type ?_
  have e : (s.heap.push { cls := .type "tuple_iterator", data := .fields #[.ref t, .int 0 0] }).objs.size = s.heap.objs.size + 1 := Heap.size_push ..
  exact wpAny_pure (by rw [← e] at h; exact h)
theorem call_filter {t : Addr} {items : Array Value} {Q : Value → Shared → Prop} (ht : s.heap.IsTuple t items)
    (h : Q (.ref (s.heap.objs.size + 1)) { s with heap := (s.heap.push { cls := .type "tuple_iterator", data := .fields #[.ref t, .int 0 0] }).push { cls := .type "filter", data := .fields #[.builtin "len", .ref s.heap.objs.size] } }) :
    wpAny (model prog w) A (call (.type "filter") [.builtin "len", .ref t]) Q E s := by
  refine callType_codes (Q₁ := fun obj s₁ => obj = .ref (s.heap.objs.size + 1) ∧ s₁ = { s with heap := (s.heap.push { cls := .type "tuple_iterator", data := .fields #[.ref t, .int 0 0] }).push { cls := .type "filter", data := .fields #[.builtin "len", .ref s.heap.objs.size] } }) FF.called_filter (FF.typeCall_filter _ _) PySem.F.entry_object_init ?_ fun obj s₁ h₁ => ?_
  · refine codeAny_call_builtin FF.called_filter.plain FF.entry_filter_new (wpAny_of_eq (FF.newCall_filter _ _) (fil_new ht ?_))
    exact ⟨rfl, rfl⟩
  · obtain ⟨rfl, rfl⟩ := h₁
    have e : (s.heap.push { cls := .type "tuple_iterator", data := .fields #[.ref t, .int 0 0] }).objs.size = s.heap.objs.size + 1 := Heap.size_push ..
    have hF : IsFil ((s.heap.push { cls := .type "tuple_iterator", data := .fields #[.ref t, .int 0 0] }).push { cls := .type "filter", data := .fields #[.builtin "len", .ref s.heap.objs.size] }) (s.heap.objs.size + 1) s.heap.objs.size := by
      rw [← e]; exact Heap.get?_push_size _ rfl
    refine ⟨⟨_, hF, rfl⟩, FF.args_object_init_3 _ _ _, obj_init_fil hF ?_⟩
    exact ⟨rfl, h⟩
end

section
variable {C : Cx} (ok : C.Ok) {A : Around} {G : PH} {σ : Addr} {s : Shared} {env : Env}
include ok
/-- filter(len, names) -/
theorem wk_fil {f g e : Expr} {pos : Pos} {xs : List (List Nat)} (hcall : eval (.Call f [g, e] [] pos) env = (do callWith pos (← eval f env) [] (backTo pos (starEach [g, e] env)) (backToKw pos (keywordEach [] env))))
    (hh : A.handled = none) (ha : [g, e].all notStar = true) (hf : EvE C A (eval f env) G σ (.raw (.type "filter")) s) (hg : ∀ G' s', Step C G s G' s' → EvE C A (eval g env) G' σ (.raw (.builtin "len")) s') (he : ∀ G' s', Step C G s G' s' → EvE C A (eval e env) G' σ (.tup (xs.map .str)) s')
    (hx : ∀ y ∈ xs, y ≠ [] ∧ y.length ≤ 16777216) : EvWk C A (.Call f [g, e] [] pos) env G xs s := fun Q E h => by
  have hg1 : notStar g = true := by simp at ha; exact ha.1
  have he1 : notStar e = true := by simp at ha; exact ha.2
  refine w_callt ok hcall ha hf (fun G' s' S' => l_cons ok hg1 (hg G' s' S') fun G2 s2 S2 => l_cons ok he1 (he G2 s2 (S'.trans S2)) fun G3 s3 S3 => l_nil ok S3.go) fun G1 s1 vs S1 r => ?_
  apply RL.cons_e r; clear r; intro _ _ r1 r
  apply RL.cons_e r; clear r; intro _ _ r2 r
  apply RL.nil_e r; clear r
  (first | (apply R.int_e r1; intro _) | (apply R.str_e r1; intro _) | apply R.raw_e r1)
  obtain ⟨t, vs, rfl, ht, rl⟩ := r2.tup_at S1.go
  refine call_filter ht ?_
  have htG : ∃ o, G1 t = some o := by
    cases r2 with
    | tup ho hc hd hr => exact ⟨_, ho⟩
  have htlt : t < s1.heap.objs.size := let ⟨o, ho, _⟩ := ht; Heap.lt_size ho
  generalize hO1 : ({ cls := .type "tuple_iterator", data := .fields #[.ref t, .int 0 0] } : Obj) = o1
  have e1 : (s1.heap.push o1).objs.size = s1.heap.objs.size + 1 := Heap.size_push ..
  generalize hO2 : ({ cls := .type "filter", data := .fields #[.builtin "len", .ref s1.heap.objs.size] } : Obj) = o2
  have keep : ∀ b o, s1.heap.get? b = some o → ((s1.heap.push o1).push o2).get? b = some o := fun b o q => Heap.get?_push_of_some _ (Heap.get?_push_of_some _ q)
  have P := Step.keeps (ht := by first | exact Nat.le_refl _ | exact Nat.le_succ _ | omega) ok S1.go (h' := (s1.heap.push o1).push o2) (tk := s1.toks) keep
  have hF : IsFil ((s1.heap.push o1).push o2) (s1.heap.objs.size + 1) s1.heap.objs.size := by
    rw [← e1, ← hO2]; exact Heap.get?_push_size _ rfl
  have hI : ((s1.heap.push o1).push o2).IsTupleIter s1.heap.objs.size t 0 := by
    rw [← hO1]
    exact ⟨_, Heap.get?_push_of_some _ (Heap.get?_push_size _ rfl), rfl, rfl⟩
  have hT : ((s1.heap.push o1).push o2).IsTuple t vs.toArray := (ht.push _).push _
  have fresh : ∀ b : Addr, @LE.le Nat _ s1.heap.objs.size b → s1.heap.get? b = none := fun b hb => by
    cases q : s1.heap.get? b with
    | none => rfl
    | some o => exact absurd (Heap.lt_size q) (Nat.not_lt.mpr hb)
  have n1 := fresh s1.heap.objs.size (Nat.le_refl _)
  have n2 := fresh (s1.heap.objs.size + 1) (Nat.le_succ _)
  have noG : ∀ b, s1.heap.get? b = none → G1 b = none := fun b hb => by
    cases q : G1 b with
    | none => rfl
    | some o' => rw [S1.go.le _ _ q] at hb; cases hb
  have nos : ∀ b, s1.heap.get? b = none → s.heap.get? b = none := fun b hb => by
    cases q : s.heap.get? b with
    | none => rfl
    | some o' => rw [S1.keep _ _ q (S1.go.notT ok hb)] at hb; cases hb
  have hval : ∀ (i : Nat) v, vs.toArray[i]? = some v → ∃ y u, xs[i]? = some y ∧ v = .str ⟨y.toArray⟩ u := fun i v hv => by
    have hv' : vs[i]? = some v := by simpa using hv
    have hlt : i < vs.length := (List.getElem?_eq_some_iff.mp hv').1
    have hlx : vs.length = xs.length := by rw [rl.length, List.length_map]
    have hd : (xs.map D.str)[i]? = some (.str xs[i]) := by simp [show i < xs.length by omega]
    obtain ⟨v', e', r'⟩ := rl.get hd
    rw [hv'] at e'
    cases e'
    cases r'
    exact ⟨_, _, by simp [show i < xs.length by omega], rfl⟩
  have hlen : vs.toArray.size = xs.length := by
    have := rl.length
    simp at this
    simp [this]
  refine fil_self hF ?_
  refine h (s1.heap.objs.size + 1) { s1 with heap := (s1.heap.push o1).push o2 } G1 [s1.heap.objs.size + 1, s1.heap.objs.size, t] [s1.heap.objs.size] (fun i v => vs.toArray[i]? = some v) (fun i h => IsFil h (s1.heap.objs.size + 1) s1.heap.objs.size ∧ h.IsTupleIter s1.heap.objs.size t i ∧ h.IsTuple t vs.toArray) (S1.trans P) (fun A' hA => by
    have := Walks.fil (prog := C.prog) (w := C.w) hA (s1.heap.objs.size + 1) s1.heap.objs.size t (Nat.ne_of_lt htlt) (Nat.succ_ne_self _) vs.toArray (fun i v hv => by
      obtain ⟨y, u, hy, hv⟩ := hval i v hv
      exact ⟨y, u, (hx y (List.mem_of_getElem? hy)).1, (hx y (List.mem_of_getElem? hy)).2, hv⟩)
    rw [hlen] at this
    exact this) ⟨hF, hI, hT⟩ (fun b hb => ?_) (fun b hb => ?_) (fun b hb => ?_) fun i v hP => hval i v hP
  · show ∃ o, ((s1.heap.push o1).push o2).get? b = some o
    simp at hb
    rcases hb with rfl | rfl | rfl
    · exact ⟨_, hF⟩
    · obtain ⟨o, e, _⟩ := hI; exact ⟨o, e⟩
    · obtain ⟨o, e, _⟩ := hT; exact ⟨o, e⟩
  · simp at hb
    subst hb
    exact ⟨nos _ n1, noG _ n1⟩
  · simp at hb
    rcases hb with rfl | rfl | rfl
    · exact S1.go.notT ok n2
    · exact S1.go.notT ok n1
    · obtain ⟨o, e⟩ := htG
      exact fun q => by rw [S1.go.noT _ q] at e; cases e
end
end Mine
end TG10
section TG11
open PySem PySem.W PyProof.Rows PySem.Calls
set_option maxRecDepth 100000
namespace Mine

/-! the join over a block in _platform: platform = '-'.join(x.strip() for x in filter(len, args)) -/
noncomputable def stripL (y : List Nat) : List Nat := (Txt.strip ⟨y.toArray⟩).cps.toList
theorem elt_strip {C : Cx} {scope : Scope} {env : Env} {x : Str} {p1 ap cp : Pos} {xs : List (List Nat)}
    (hk : scope.kind = .function) (hx : scope.names.lookup x = some .local) (hd : (x == ("__debug__" : Str)) = false) (hl1 : (ap.endLine == cp.line) = true) (hs : ∀ y ∈ xs, y.length ≤ 16777216) :
    EltIs C scope [] env x (.Call (.Attribute (.Name x p1) "strip" ap) [] [] cp) stripL xs := fun L code A' E' y t s₂ m₂ hA hy h0 hns hm => by
  refine wpAny_Call_method (T := "str") (id := "str.strip") (attrBase_plain rfl) ?_ hl1 F.plainAttrs_str F.slot_str_strip F.type_str_strip (wpAny_Name (wpAny_loadName_local (by exact hk) (by exact hx) hns hm ?_) hd)
  · rfl
  · refine ⟨typeIs_str _ _ _, fun a h => (nomatch h), callWith_builtin (by rfl) (evalArgs_nil3 ?_)⟩
    refine SC.strip (fun t' k => ?_) (by have := hs y hy; simpa [Str.length, sizeLine] using this)
    exact ⟨⟨t', by unfold stripL; simp⟩, keeps_tok⟩

noncomputable def gpC (nm : NmL) (x sep m m1 f l s s' it : Str) (ap cp ap1 cp1 : Pos) (scope : Scope) : Bool :=
    x == ("platform" : Str) && tk nm x && sep == ("-" : Str) && m == ("join" : Str) && m1 == ("strip" : Str) && f == ("filter" : Str) && gk nm f && l == ("len" : Str) && gk nm l && s == ("x" : Str) && s' == ("x" : Str) && it == ("args" : Str) && vk nm it &&
    (ap.endLine == cp.line) && (ap1.endLine == cp1.line) && decide (scope.kind = .function) && !scope.isCoroutine && scope.names.all (fun p => p.2 != .cell && p.2 != .free) && lk scope.names ".0" && lk scope.names "x"
noncomputable def gpB (nm : NmL) (st : Stmt) : Bool :=
  sAssign st fun ts v _ => on1 ts fun t => xName t fun x _ => xCall v fun f0 as kw cp => on0 kw (xAttribute f0 fun se m ap => xStr se fun sep _ _ => on1 as fun g => xGeneratorExp g fun el gs scope _ => on1 gs fun c => onComp c fun ct ci cf ca => on0 cf (onZ ca 0 (xName ct fun s' _ =>
  xCall ci fun f3 as3 kw3 _ => on0 kw3 (xName f3 fun f _ => on2 as3 fun el3 ei3 => xName el3 fun l _ => xName ei3 fun it _ => xCall el fun f1 as1 kw1 cp1 => on0 kw1 (on0 as1 (xAttribute f1 fun e1 m1 ap1 => xName e1 fun s _ =>
    gpC nm x sep m m1 f l s s' it ap cp ap1 cp1 scope))))))
theorem gpB_i {nm : NmL} {st : Stmt} {P : Stmt → Prop} (hst : gpB nm st = true) (hp : ∀ x xp sep k0 p0 m ap s sp m1 ap1 cp1 s' sp' f fp l lp it ip cp3 scope gp cp pos, gpC nm x sep m m1 f l s s' it ap cp ap1 cp1 scope = true →
    P (.Assign [.Name x xp] (.Call (.Attribute (.Constant (.str sep) k0 p0) m ap) [.GeneratorExp (.Call (.Attribute (.Name s sp) m1 ap1) [] [] cp1) [⟨.Name s' sp', .Call (.Name f fp) [.Name l lp, .Name it ip] [] cp3, [], 0⟩] scope gp] [] cp) pos)) : P st := by
  apply sAssign_e hst; clear hst; intro ts v pos hst
  apply on1_e hst; clear hst; intro t hst
  apply xName_e hst; clear hst; intro x xp hst
  apply xCall_e hst; clear hst; intro f0 as kw cp hst
  apply on0_e hst; clear hst; intro hst
  apply xAttribute_e hst; clear hst; intro se m ap hst
  apply xStr_e hst; clear hst; intro sep k0 p0 hst
  apply on1_e hst; clear hst; intro g hst
  apply xGeneratorExp_e hst; clear hst; intro el gs scope gp hst
  apply on1_e hst; clear hst; intro c hst
  apply onComp_e hst; clear hst; intro ct ci cf ca hst
  apply on0_e hst; clear hst; intro hst
  apply onZ_e hst; clear hst; intro hst
  apply xName_e hst; clear hst; intro s' sp' hst
  apply xCall_e hst; clear hst; intro f3 as3 kw3 cp3 hst
  apply on0_e hst; clear hst; intro hst
  apply xName_e hst; clear hst; intro f fp hst
  apply on2_e hst; clear hst; intro el3 ei3 hst
  apply xName_e hst; clear hst; intro l lp hst
  apply xName_e hst; clear hst; intro it ip hst
  apply xCall_e hst; clear hst; intro f1 as1 kw1 cp1 hst
  apply on0_e hst; clear hst; intro hst
  apply on0_e hst; clear hst; intro hst
  apply xAttribute_e hst; clear hst; intro e1 m1 ap1 hst
  apply xName_e hst; clear hst; intro s sp hst
  exact hp _ _ _ _ _ _ _ _ _ _ _ _ _ _ _ _ _ _ _ _ _ _ _ _ _ hst
noncomputable def plOk (xs : List (List Nat)) : Bool := decide (xs.length ≤ 1000) && xs.all fun y => !y.isEmpty && decide (y.length ≤ 4000) && decide ((stripL y).length ≤ 4000)
noncomputable def hkPl (V : List CB) : Option (List CB) := (gv V 0).bind fun d => (asT d).bind fun ds => (strsD ds).bind fun xs => if plOk xs then setV V 1 (.val (.str (joinL [45] (xs.map stripL)))) else none

theorem hook_pl {C : Cx} (ok : C.Ok) {A : Around} {env : Env} {G₀ : PH} {s₀ : Shared} {σ : Addr} {nm : NmL} (eo : EnvOk C env) (hnm : env.scope.names = nm) (k₀ : Sok C s₀) (hfl : ∀ x k, (x, k) ∈ nm → k = NameKind.local ∨ k = NameKind.cell → FreshLoc env s₀ x)
    (hh : A.handled = none) (hroom : A.depth < 900) {c P bm : Addr} {ob : Obj} (ct : CodeTab C c P) (bi : BIn C bm ob) (hcode : env.code = .ref c)
    (hfil : C.mg "filter" = none ∧ C.mb "filter" = some (.type "filter")) (hlen : C.mg "len" = none ∧ C.mb "len" = some (.builtin "len"))
    {st : Stmt} (hst : gpB nm st = true) {V V' : List CB} (hV : hkPl V = some V') (hl : V.length = n_platform.length) :
    V'.length = n_platform.length ∧ ∀ G s M, AtM C env G₀ s₀ (stN n_platform V) G σ M s → EvS C A env G₀ s₀ (exec st env) (stN n_platform V) G σ M s .next (stN n_platform V') := by
  have hN : n_platform.Nodup := by decide +kernel
  have hN0 : Str.ofString "" ∉ n_platform := by decide +kernel
  apply bs_e hV; intro d e1 e2
  apply bs_e e2; intro ds e3 e4
  have := asT_i e3
  subst this
  apply bs_e e4; intro xs e5 e6
  have := strsD_map e5
  subst this
  split at e6
  case isFalse => cases e6
  rename_i hck
  obtain ⟨e7, rfl⟩ := setV_some e6
  refine ⟨by simp; exact hl, fun G s M a => ?_⟩
  apply gpB_i hst
  clear hst
  intro x xp sep k0 p0 m ap s sp m1 ap1 cp1 s' sp' f fp l lp it ip cp3 scope gp cp pos hst
  unfold gpC at hst
  simp only [Bool.and_eq_true, Bool.not_eq_true', beq_iff_eq] at hst
  obtain ⟨⟨⟨⟨⟨⟨⟨⟨⟨⟨⟨⟨⟨⟨⟨⟨⟨⟨⟨q1, q2⟩, q3⟩, q4⟩, q5⟩, q6⟩, q7⟩, q8⟩, q9⟩, q10⟩, q11⟩, q12⟩, q13⟩, q14⟩, q15⟩, q16⟩, q17⟩, q18⟩, q19⟩, q20⟩ := hst
  subst q1 q3 q4 q5 q6 q8 q10 q11 q12
  have hkind := bx q16
  have hnames := List.all_eq_true.mp q18
  have hcell : ∀ y ∈ ‹Scope›.names, y.2 ≠ .cell := fun y hy => by have := hnames y hy; simp at this; exact this.1
  have hfree : ∀ y ∈ ‹Scope›.names, y.2 ≠ .free := fun y hy => by have := hnames y hy; simp at this; exact this.2
  have hclos : closureFor ‹Scope› env = pure [] := by
    rw [closureFor_is fun n hn => absurd rfl (hfree (n, .free) hn), closL_nil hfree]
  have hlk : ∀ {x : Str} {sn : NmL}, lk sn x = true → sn.lookup x = some .local := fun {x sn} h => bx h
  have hx1 : n_platform[1]? = some (Str.ofString "platform") := rfl
  have hx0 : n_platform[0]? = some (Str.ofString "args") := rfl
  rw [st_set hN hx1 hl]
  obtain ⟨kk, hm, hor⟩ := tk_mem q2
  unfold plOk at hck
  rw [Bool.and_eq_true] at hck
  have hcl := of_decide_eq_true hck.1
  have hcx := fun y hy => List.all_eq_true.mp hck.2 y hy
  have c1 : ∀ y ∈ xs, y ≠ [] ∧ y.length ≤ 4000 ∧ (stripL y).length ≤ 4000 := fun y hy => by
    have := hcx y hy
    simp only [Bool.and_eq_true, decide_eq_true_eq, Bool.not_eq_true', List.isEmpty_eq_false_iff] at this
    exact ⟨this.1.1, this.1.2, this.2⟩
  refine s_assign ok k₀ eo rfl a (hfl _ kk hm hor) (noApp_st hN hx1 (by decide +kernel) e7) (EvT.ev ok ?_)
  refine e_genjoin ok (f := stripL) eo ct bi hcode hh hroom (by simpa using q14) q17 hclos hcell (hlk q19) (hlk q20) hkind (fun _ => rfl) (fun G' s' S' => ?_) ?_ a.at0.st.go ?_ (by lia)
  · have a' := a.step ok eo S'
    refine wk_fil (σ := σ) ok call_name hh (by rfl) (e_builtin ok eo S'.go (glob_of hnm q7) hfil.1 hfil.2 (by decide +kernel)) (fun G2 s2 S2 => e_builtin ok eo S2.go (glob_of hnm q9) hlen.1 hlen.2 (by decide +kernel)) (fun G2 s2 S2 => ?_) fun y hy => ⟨(c1 y hy).1, by have := (c1 y hy).2.1; lia⟩
    have a2 := a'.step ok eo S2
    obtain ⟨v, l, r⟩ := a2.at0.rd (Str.ofString "args") (.tup (xs.map .str)) (by unfold vals; rw [st_at hN hx0 (gv_some e1)]; rfl) (vis_of hnm q13)
    exact e_var eo S2.go l r (by decide +kernel) (by decide +kernel)
  · exact elt_strip hkind (hlk q20) (by decide +kernel) (by simpa using q15) fun y hy => by have := (c1 y hy).2.1; lia
  · have h2 : ((xs.map stripL).map List.length).sum ≤ ((xs.map stripL).map List.length).length * 4000 := sum_le fun x hx => by
      obtain ⟨y, hy, rfl⟩ := List.mem_map.mp hx
      obtain ⟨z, hz, rfl⟩ := List.mem_map.mp hy
      exact (c1 z hz).2.2
    rw [List.length_map, List.length_map] at h2
    have h3 : (Str.ofString "-").cps.toList.length = 1 := by decide +kernel
    rw [h3]
    lia
end Mine
end TG11
section TG12
open PySem PySem.W PyProof.Rows PySem.Calls
set_option maxRecDepth 100000
namespace Mine
namespace FF
theorem plainAttrs_pat : PlainAttrs "re.Pattern" :=
  ⟨⟨"object.__getattribute__", by rw [typeLookup_type, builtinLookup_eq_fast]; kernel_rfl, by decide +kernel⟩, by rw [typeLookup_type, builtinLookup_eq_fast]; kernel_rfl⟩
theorem slot_pat_sub : Slot "re.Pattern" "sub" "re.Pattern.sub" :=
  .of (owner := "re.Pattern") (n := "sub") (by rw [typeLookup_type, builtinLookup_eq_fast]; kernel_rfl) (by decide +kernel) (by decide +kernel) (by decide +kernel)
    (by first | exact .inl (by decide +kernel) | exact .inr (by decide +kernel)) (by rw [isSubtype_type]; kernel_rfl)
theorem type_pat_sub : typeOf (.builtin "re.Pattern.sub") = pure (.type "method_descriptor") := by show builtinType _ = _; rw [builtinType_eq_fast]; kernel_rfl
theorem entry_pat_sub : entryFor table "re.Pattern.sub" = some Builtin.«re.Pattern.sub» := entryFor_of_tree (by kernel_rfl)
theorem entry_pat_loop : entryFor table "re.Pattern.sub.loop" = some Builtin.«re.Pattern.sub.loop» := entryFor_of_tree (by kernel_rfl)
theorem plain_pat_loop : plainId "re.Pattern.sub.loop" = true := by decide +kernel
theorem args_pat_sub (a b c : Value) : argsOk "re.Pattern.sub" ⟨[a, b, c], []⟩ := by unfold argsOk; kernel_rfl
theorem lookup_function_call : typeLookup (.type "function") "__call__" = pure (some (.builtin "function.__call__")) := by rw [typeLookup_type, builtinLookup_eq_fast]; kernel_rfl
theorem sub_str_bytearray : isSubtype (.type "str") (.type "bytearray") = pure false := by rw [isSubtype_type]; kernel_rfl
end FF

noncomputable def subCode : Array Nat := #[14, 14, 4, 1, 1, 9, 0, 64, 0, 1342177280, 0, 0, 0, 0, 0, 17, 0, 13, 11, 9, 0, 64, 0, 1342177280, 0, 0, 0, 0, 0, 17, 1, 1]
noncomputable def subOk (x : List Nat) : Bool := !x.isEmpty && decide (x.length ≤ 1000) && match ((Sre.forSearch subCode x.toArray 1 0 x.toArray.size false).runFor 4).outcome with | some .failed => true | _ => false
/-- the pattern object -/
structure IsPat (h : Heap) (pa ca : Addr) : Prop where
  pat : ∃ o fs, h.get? pa = some o ∧ o.cls = .type "re.Pattern" ∧ o.dict = none ∧ o.data = .fields fs ∧ Builtin.Re.reRawNat (fs.getD 2 .none) = 1 ∧ fs.getD 5 .none = .ref ca ∧ Builtin.Re.reRawNat (fs.getD 6 .none) = 0
  code : ∃ o items n, h.get? ca = some o ∧ o.data = .seq items n ∧ (items.map Builtin.Re.reRawOf).map (·.toNat) = subCode

section
variable {prog : Program} {w : World} {A : Around} {E : Value → Shared → Prop} {s : Shared}
open Builtin.Re
theorem wt_pat {pa ca : Addr} {x : List Nat} {u : Tok} {Q : ReTarget → Shared → Prop} (hp : IsPat s.heap pa ca)
    (h : Q { pattern := .ref pa, string := .str ⟨x.toArray⟩ u, code := subCode, text := x.toArray, kind := 0, groups := 1, pos := 0, lim := x.toArray.size } s) :
    wpAny (model prog w) A (reWholeTarget (.ref pa) (.str ⟨x.toArray⟩ u)) Q E s := by
  obtain ⟨⟨o, fs, ho, hc, hdi, hd, h2, h5, h6⟩, ⟨oc, items, n, hoc, hdc, hit⟩⟩ := hp
  unfold reWholeTarget
  refine wpAny_bind (wpAny_fieldsOf ho hd ?_)
  refine wpAny_bind (wpAny_of_eq (a := (x.toArray, 0)) rfl ?_)
  dsimp only
  simp only [h2, h5, h6]
  rw [if_neg (by decide), if_neg (by decide)]
  refine wpAny_bind (wpAny_of_eq (a := ()) rfl ?_)
  refine wpAny_bind (m := reRawItems _) ?_
  unfold reRawItems
  refine wpAny_bind (wpAny_seqItems hoc hdc ?_)
  refine wpAny_pure (wpAny_pure ?_)
  have hit' : Array.map (fun x => x.toNat) (Array.map reRawOf ((some items).getD #[])) = subCode := hit
  rw [hit']
  exact h

theorem rules_walk {p : Nat → Bool} {f : Nat → String} {Q : PUnit → Shared → Prop} : ∀ {l : List Nat}, (h : Q ⟨⟩ s) →
    wpAny (model prog w) A (forIn l PUnit.unit fun i _ => if p i = true then do rule (f i); pure (ForInStep.yield PUnit.unit) else pure (ForInStep.yield PUnit.unit)) Q E s
  | [], h => by
    rw [List.forIn_nil]; exact wpAny_pure h
  | i :: l, h => by
    rw [List.forIn_cons]
    refine wpAny_bind ?_
    split
    · exact wpAny_bind (wpAny_rule (wpAny_pure (rules_walk h)))
    · exact wpAny_pure (rules_walk h)
theorem run_fails {m : Sre.M} {Q : Option Sre.M → Shared → Prop} (hm : (match (m.runFor 4).outcome with | some .failed => true | _ => false) = true) (h : Q none s) : wpAny (model prog w) A (reRunToEnd m) Q E s := by
  have ho : (m.runFor 4).outcome = some .failed := by
    revert hm
    split
    · intro _; assumption
    · intro q; cases q
  unfold reRunToEnd
  have e : (2 : Nat) ^ 64 = (2 ^ 64 - 1) + 1 := by decide
  rw [e]
  unfold reDrive reTurnSteps
  dsimp only
  rw [ho]
  refine wpAny_bind ?_
  rw [if_pos (show (some Sre.Outcome.failed).isSome = true from rfl)]
  refine wpAny_pure ?_
  refine wpAny_bind (rules_walk ?_)
  rw [ho]
  exact wpAny_pure h

theorem sub_walk {pa ca fa : Addr} {of : Obj} {x : List Nat} {u : Tok} {Q : Value → Shared → Prop} (hp : IsPat s.heap pa ca) (hf : s.heap.get? fa = some of) (hfc : of.cls = .type "function") (hx : subOk x = true)
    (h : ∀ t' h' k, (∀ b o, s.heap.get? b = some o → h'.get? b = some o) → Q (.str ⟨x.toArray⟩ t') { s with heap := h', toks := k }) :
    wpAny (model prog w) A (call (.builtin "re.Pattern.sub") [.ref pa, .ref fa, .str ⟨x.toArray⟩ u]) Q E s := by
  unfold subOk at hx
  simp only [Bool.and_eq_true, Bool.not_eq_true', decide_eq_true_eq] at hx
  obtain ⟨⟨hx1, hx2⟩, hx3⟩ := hx
  have hpT : s.TypeIs (.ref pa) "re.Pattern" := by
    obtain ⟨⟨o, fs, ho, hc, _⟩, _⟩ := hp
    exact ⟨o, ho, hc⟩
  have hfT : s.TypeIs (.ref fa) "function" := ⟨of, hf, hfc⟩
  refine wpAny_call (codeAny_call_builtin FF.slot_pat_sub.plain FF.entry_pat_sub (FF.slot_pat_sub.check _ _ _ _ _ _ _ _ hpT (FF.args_pat_sub _ _ _) ?_))
  unfold Builtin.«re.Pattern.sub» reSubstitute
  dsimp only
  have hn : reNamed "re.Pattern.sub" "sub" ["repl", "string", "count"] 2 [.ref fa, .str ⟨x.toArray⟩ u] [] = pure [some (.ref fa), some (.str ⟨x.toArray⟩ u), none] := by kernel_rfl
  refine wpAny_bind (wpAny_of_eq hn ?_)
  dsimp only
  refine wpAny_bind (wpAny_pure ?_)
  refine wpAny_bind (wpAny_specialOf hfT FF.lookup_function_call ?_)
  simp only [Option.isSome_some, if_true]
  refine wpAny_bind (wpAny_pure (wpAny_bind (wpAny_pure ?_)))
  dsimp only
  refine wpAny_bind (wpAny_holding (wt_pat hp ?_))
  rw [if_pos (by decide)]
  have hnh : wpAny (model prog w) A.in1 (reNotHeld "re.Pattern.sub" (.str ⟨x.toArray⟩ u)) (fun _ s' => s' = s) (fun e s' => E e s') s := by
    unfold reNotHeld
    refine wpAny_bind (wpAny_isInstance (typeIs_str _ _ _) FF.sub_str_bytearray ?_)
    rw [if_neg (by decide)]
    exact wpAny_pure rfl
  refine wpAny_bind (wpAny_mono hnh (fun _ s' e => ?_) fun _ _ e => e)
  rw [e]; clear e
  refine wpAny_bind (wpAny_newObj_type ?_ (by size_fits))
  refine wpAny_pure ⟨plainId_quiet FF.plain_pat_loop _, codeAny_builtin FF.entry_pat_loop ?_⟩
  rw [Around.under_plainId FF.plain_pat_loop _]
  generalize hL : s.heap.objs.size = L
  have hnewL : (s.heap.push { cls := .type "list", data := .seq ([] : List Value).toArray }).get? L = some { cls := .type "list", data := .seq #[] 0 } := by rw [← hL]; exact Heap.get?_push_size _ rfl
  have kp : ∀ b o, s.heap.get? b = some o → (s.heap.push { cls := .type "list", data := .seq ([] : List Value).toArray }).get? b = some o := fun b o e => Heap.get?_push_of_some _ e
  have hp' : IsPat (s.heap.push { cls := .type "list", data := .seq ([] : List Value).toArray }) pa ca := by
    obtain ⟨⟨o, fs, ho, r⟩, ⟨oc, items, n, hoc, r2⟩⟩ := hp
    exact ⟨⟨o, fs, kp _ _ ho, r⟩, ⟨oc, items, n, kp _ _ hoc, r2⟩⟩
  generalize hH : s.heap.push { cls := .type "list", data := .seq ([] : List Value).toArray } = H at hnewL kp hp'
  unfold Builtin.«re.Pattern.sub.loop»
  dsimp only [rawInt]
  refine wpAny_bind (wt_pat (s := { s with heap := H }) hp' ?_)
  rw [if_neg (by decide)]
  dsimp only
  refine wpAny_bind ?_
  rw [if_neg (by decide)]
  refine run_fails hx3 ?_
  dsimp only
  have hne : (Int.toNat 0) < x.toArray.size := by
    cases x with
    | nil => simp at hx1
    | cons a r => simp
  have hfull : x.toArray.extract (Int.toNat 0) x.toArray.size = x.toArray := by simp
  have hz : x.toArray.extract 0 0 = #[] := by simp
  rw [if_pos hne]
  unfold reSlice
  rw [if_pos (show (0 == 0) = true from rfl), hfull, if_pos (show (0 == 0) = true from rfl), hz]
  refine wpAny_bind (wpAny_mkStr ?_ ?_)
  refine wpAny_bind (wpAny_updateSeq hnewL rfl ?_ (by size_fits) (by simp [sizeLine]))
  refine wpAny_bind (wpAny_mkStr ?_ ?_)
  have hL2 := Heap.get?_update_self (h := H) (Obj.mapSeq (fun a => a.push (Value.str ⟨x.toArray⟩ s.toks))) hnewL rfl
  obtain ⟨nn, hnn⟩ := Obj.data_mapSeq (o := { cls := .type "list", data := .seq #[] 0 }) (xs := #[]) (n := 0) rfl (fun a => a.push (Value.str ⟨x.toArray⟩ s.toks))
  have hlist : (H.update L (Obj.mapSeq fun a => a.push (Value.str ⟨x.toArray⟩ s.toks))).IsList L (strValues [((⟨x.toArray⟩ : Str), s.toks)]).toArray := ⟨_, hL2, rfl, nn, by rw [hnn]; simp [strValues]⟩
  refine wpAny_bind (wpAny_seqItems hL2 (items := #[Value.str ⟨x.toArray⟩ s.toks]) (n := nn) (by rw [hnn]; simp) ?_)
  rw [if_neg (by simp)]
  refine wpAny_bind (SC.join hlist (texts := [⟨x.toArray⟩]) rfl ?_ fun t' k => ?_)
  · exact joinOk_of (by simp [Str.length]; omega)
  · have e1 : Txt.join ⟨#[]⟩ [(⟨x.toArray⟩ : Str)] = ⟨x.toArray⟩ := by
      have := beq_iff_eq.mp (join_plain_closes (⟨#[]⟩ : Str) [(⟨x.toArray⟩ : Str)])
      rw [this]; rfl
    rw [e1]
    dsimp only
    rw [if_neg (by decide)]
    refine wpAny_pure (h t' _ k fun b o e => ?_)
    exact (Heap.get?_update_other _ _ (by rw [← hL]; exact Nat.ne_of_gt (Heap.lt_size e))).trans (kp b o e)
  · simp [Str.length, sizeLine]
  · simp [Str.length, sizeLine]; omega
end
end Mine
end TG12
section TG13
open PySem PySem.W PyProof.Rows PySem.Calls
set_option maxRecDepth 100000
namespace Mine

noncomputable def lamArgs (p : Arguments) : Bool := match p with
  | ⟨_, _, _, [], [], _, []⟩ => true
  | _ => false

section
variable {C : Cx} (ok : C.Ok) {A : Around} {G : PH} {σ : Addr} {s : Shared} {env : Env}
include ok
theorem w_lambda (eo : EnvOk C env) {args : Arguments} {body : Expr} {scope : Scope} {pos : Pos} {c P bm : Addr} {ob : Obj} (ct : CodeTab C c P) (bi : BIn C bm ob) (hcode : env.code = .ref c) (hargs : lamArgs args = true) (hclos : closureFor scope env = pure [])
    (hg : Go C G s) {Q E : Value → Shared → Prop} (h : ∀ fa of s' , (s.toks ≤ s'.toks → Step C G s G s') → s'.heap.get? fa = some of → of.cls = .type "function" → fa ∉ C.T → Q (.ref fa) s') :
    wpAny (model C.prog C.w) A (eval (.Lambda args body scope pos) env) Q E s := by
  unfold lamArgs at hargs
  split at hargs
  case h_2 => cases hargs
  rw [arm_eval_Lambda, defaultsOf_eq]
  show wpAny _ _ (evalAll [] >>= _) _ _ _
  refine wpAny_bind (wpAny_pure ?_)
  refine wpAny_bind (wpAny_holding (wpAny_pure ?_))
  rw [makeFunction_eq]
  refine wpAny_bind (wpAny_pure ?_)
  refine wpAny_bind (wpAny_pure ?_)
  refine wpAny_bind (wpAny_pure ?_)
  unfold makeTail
  refine wpAny_bind (wpAny_of_eq hclos ?_)
  refine wpAny_bind (wpAny_pure ?_)
  obtain ⟨ps, hok, htb⟩ := ct.now _ _ hg.ti hg.sok.keep
  refine wpAny_bind (fcode_any hcode hok htb fun code h3 tk3 more3 hx3 hc3 ht3 => ?_)
  have key : ∀ a o, s.heap.get? a = some o → a ∉ C.T → h3.get? a = some o := fun a o e n => hx3 a o (fun q => n (q ▸ ct.PT)) e
  have hng := hg.ns_g ok
  have hng3 : h3.Ns mainGlobals C.mg := by
    obtain ⟨o, es, ep, ho, r⟩ := hng
    exact ⟨o, es, ep, key _ _ ho ok.gT, r⟩
  refine wpAny_bind (wpAny_builtinsFor (s := { s with heap := h3, toks := tk3 }) (by rw [eo.g]; exact hng3) bi.name bi.ne (key _ _ (hg.sok.keep _ _ bi.obj bi.noT) bi.noT) bi.cls bi.dict bi.data ?_)
  refine wpAny_bind (wpAny_nsGet (s := { s with heap := h3, toks := tk3 }) (by rw [eo.g]; exact hng3) ?_)
  refine wpAny_bind (wpAny_pure ?_)
  refine wpAny_newObj_type ?_ (by size_fits)
  have hn : s.heap.get? h3.objs.size = none := by
    cases q : s.heap.get? h3.objs.size with
    | none => rfl
    | some o =>
      by_cases e : h3.objs.size ∈ C.T
      · obtain ⟨o', e'⟩ := ok.tt _ _ hg.ti _ e
        have hPt := hc3.lt
        have hne : h3.objs.size ≠ P := Nat.ne_of_gt hPt.2
        have := hx3 _ _ hne e'
        exact absurd (Heap.lt_size this) (Nat.lt_irrefl _)
      · exact absurd (Heap.lt_size (key _ _ q e)) (Nat.lt_irrefl _)
  refine h _ _ _ (fun htk => ?_) (Heap.get?_push_size _ rfl) rfl (hg.notT ok hn)
  have htk' : s.toks ≤ tk3 := htk
  have S3 := Step.code ok ct hg htb hx3 hc3 ht3 htk'
  exact S3.trans (Step.keeps (ht := by first | exact Nat.le_refl _ | exact Nat.le_succ _ | omega) ok S3.go (fun _ _ e => Heap.get?_push_of_some _ e))
end

noncomputable def sbB (nm : NmL) (st : Stmt) : Bool :=
  sAssign st fun ts v _ => on1 ts fun t => xName t fun x _ => xCall v fun f0 as kw cp => on0 kw (xAttribute f0 fun e0 m ap => xName e0 fun p _ => on2 as fun el ei => xLambda el fun args _ scope _ => xName ei fun it _ =>
    x == ("stuff" : Str) && tk nm x && p == ("_twin_re_1" : Str) && gk nm p && m == ("sub" : Str) && (ap.endLine == cp.line) && lamArgs args && scope.names.all (fun p => p.2 != .free) && it == ("stuff" : Str) && vk nm it)
noncomputable def hkSub (V : List CB) : Option (List CB) := (gv V 9).bind fun d => match d with | .str x => if subOk x then setV V 9 (.val (.str x)) else none | _ => none

structure PatIn (C : Cx) (pa ca : Addr) : Prop where
  mg : C.mg "_twin_re_1" = some (.ref pa)
  pat : IsPat C.hb pa ca
  pT : pa ∉ C.T
  cT : ca ∉ C.T

theorem hook_sub {C : Cx} (ok : C.Ok) {A : Around} {env : Env} {G₀ : PH} {s₀ : Shared} {σ : Addr} {nm : NmL} (eo : EnvOk C env) (hnm : env.scope.names = nm) (k₀ : Sok C s₀) (hfl : ∀ x k, (x, k) ∈ nm → k = NameKind.local ∨ k = NameKind.cell → FreshLoc env s₀ x)
    (hh : A.handled = none) (hroom : A.depth < 900) {c P bm pa ca : Addr} {ob : Obj} (ct : CodeTab C c P) (bi : BIn C bm ob) (hcode : env.code = .ref c) (hpat : PatIn C pa ca)
    {st : Stmt} (hst : sbB nm st = true) {V V' : List CB} (hV : hkSub V = some V') (hl : V.length = n_translate.length) :
    V'.length = n_translate.length ∧ ∀ G s M, AtM C env G₀ s₀ (stN n_translate V) G σ M s → EvS C A env G₀ s₀ (exec st env) (stN n_translate V) G σ M s .next (stN n_translate V') := by
  have hN : n_translate.Nodup := by decide +kernel
  have hN0 : Str.ofString "" ∉ n_translate := by decide +kernel
  apply bs_e hV; intro d e1 e2
  split at e2
  case h_2 => cases e2
  rename_i x
  split at e2
  case isFalse => cases e2
  rename_i hck
  obtain ⟨e7, rfl⟩ := setV_some e2
  refine ⟨by simp; exact hl, fun G s M a => ?_⟩
  apply sAssign_e hst; clear hst; intro ts v pos hst
  apply on1_e hst; clear hst; intro t hst
  apply xName_e hst; clear hst; intro x xp hst
  apply xCall_e hst; clear hst; intro f0 as kw cp hst
  apply on0_e hst; clear hst; intro hst
  apply xAttribute_e hst; clear hst; intro e0 m ap hst
  apply xName_e hst; clear hst; intro p pp hst
  apply on2_e hst; clear hst; intro el ei hst
  apply xLambda_e hst; clear hst; intro args lb scope lp hst
  apply xName_e hst; clear hst; intro it ip hst
  simp only [Bool.and_eq_true, beq_iff_eq] at hst
  obtain ⟨⟨⟨⟨⟨⟨⟨⟨⟨q1, q2⟩, q3⟩, q4⟩, q5⟩, q6⟩, q7⟩, q8⟩, q9⟩, q10⟩ := hst
  subst q1 q3 q5 q9
  have hnames := List.all_eq_true.mp q8
  have hfree : ∀ y ∈ ‹Scope›.names, y.2 ≠ .free := fun y hy => by have := hnames y hy; simpa using this
  have hclos : closureFor ‹Scope› env = pure [] := by
    rw [closureFor_is fun n hn => absurd rfl (hfree (n, .free) hn), closL_nil hfree]
  have hx9 : n_translate[9]? = some (Str.ofString "stuff") := rfl
  rw [st_set hN hx9 hl]
  obtain ⟨kk, hm, hor⟩ := tk_mem q2
  refine s_assign ok k₀ eo rfl a (hfl _ kk hm hor) (noApp_st hN hx9 (by decide +kernel) e7) (fun Q E h => ?_)
  refine wpAny_Call_method (T := "re.Pattern") (id := "re.Pattern.sub") (attrBase_plain rfl) ?_ (by simpa using q6) FF.plainAttrs_pat FF.slot_pat_sub FF.type_pat_sub (e_glob (σ := σ) ok eo a.at0.st.go (glob_of hnm q4) hpat.mg (by decide +kernel) _ _ fun v s1 G1 S1 r1 => ?_)
  · rw [trees_plain rfl]; rfl
  (first | (apply R.int_e r1; intro _) | (apply R.str_e r1; intro _) | apply R.raw_e r1 | (apply RL.nil_e r1; clear r1) | cases r1)
  have hp1 : IsPat s1.heap pa ca := by
    obtain ⟨⟨o, fs, ho, r⟩, ⟨oc, items, n, hoc, r2⟩⟩ := hpat.pat
    exact ⟨⟨o, fs, S1.go.sok.keep _ _ ho hpat.pT, r⟩, ⟨oc, items, n, S1.go.sok.keep _ _ hoc hpat.cT, r2⟩⟩
  have hpo := hp1.pat
  obtain ⟨o, fs, ho, hc, hdi, _⟩ := hpo
  refine ⟨⟨o, ho, hc⟩, fun a' e => by cases e; exact ⟨o, ho, hdi⟩, callWith_builtin (trees_any rfl) (evalArgs_plain (spliced_cons ?_))⟩
  refine wpAny_with_toks (n := s1.toks) (Nat.le_refl _) (w_lambda ok eo ct bi hcode q7 hclos S1.go fun fa of s2 S2 hfo hfc hfT htk2 => ?_)
  have S2 := S2 htk2
  have S12 := S1.trans S2
  have a2 := a.step ok eo S12
  refine spliced_cons ?_
  obtain ⟨v, l, r⟩ := a2.at0.rd (Str.ofString "stuff") (.str x) (by unfold vals; rw [st_at hN hx9 (gv_some e1)]; rfl) (vis_of hnm q10)
  refine e_var (σ := σ) eo S2.go l r (by decide +kernel) (by decide +kernel) _ _ fun v3 s3 G3 S3 r3 => ?_
  (first | (apply R.int_e r3; intro _) | (apply R.str_e r3; intro _) | apply R.raw_e r3 | (apply RL.nil_e r3; clear r3) | cases r3)
  refine spliced_nil ?_
  have hp3 : IsPat s3.heap pa ca := by
    obtain ⟨⟨o, fs, ho, r⟩, ⟨oc, items, n, hoc, r2⟩⟩ := hpat.pat
    exact ⟨⟨o, fs, S3.go.sok.keep _ _ ho hpat.pT, r⟩, ⟨oc, items, n, S3.go.sok.keep _ _ hoc hpat.cT, r2⟩⟩
  refine wpAny_with_toks (n := s3.toks) (Nat.le_refl _) (sub_walk hp3 (S3.keep _ _ hfo hfT) hfc hck fun t' h' k hk htk => ?_)
  exact h _ _ G3 ((S12.trans S3).trans (Step.keeps ok S3.go hk htk)) (.str _ _)
end Mine
end TG13
section TG14
open PySem PySem.W PyProof.Rows PySem.Calls
set_option maxRecDepth 100000
namespace Mine

/-! what the defs compute, level by level -/
noncomputable def nmD (x : Str) : NmL := match defAt x with | some (_, sc) => sc.names | none => []
noncomputable def hkT : Nat → Stmt → Bool
  | 0, st => gjB (nmD "_translate") st
  | 1, st => sbB (nmD "_translate") st
  | _, _ => false
noncomputable def hT : Nat → List CB → Option (List CB)
  | 0, V => hkGen V
  | 1, V => hkSub V
  | _, _ => none
noncomputable def hkP : Nat → Stmt → Bool
  | 0, st => gpB (nmD "_platform") st
  | _, _ => false
noncomputable def hP : Nat → List CB → Option (List CB)
  | 0, V => hkPl V
  | _, _ => none
noncomputable def hZ : Nat → List CB → Option (List CB) := fun _ _ => none
theorem m_translate2 : fits "_translate" n_translate hkT c_translate = true := by decide +kernel
theorem m_platform2 : fits "_platform" n_platform hkP c_platform = true := by decide +kernel

noncomputable abbrev Fn := Nat → List D → Option D
noncomputable def FU : Nat := 1000
noncomputable def retD : Fl → Option D
  | .ret d => some d
  | _ => none
theorem retD_i {f : Fl} {d : D} (h : retD f = some d) : f = .ret d := by
  cases f <;> first | exact no_some h | exact congrArg Fl.ret (Option.some.inj h)
theorem oneS {ds : List D} {l : List Nat} (h : oneO ds strOf = some l) : ds = [.str l] := oneO_e (P := fun ds => ds = [.str l]) h fun x q => congrArg (fun d => [d]) (strOf_i q)
/-- a def's core text, run -/
noncomputable def run (Φ : Fn) (H : Nat → List CB → Option (List CB)) (c : CS) (N : List Str) (ds : List D) : Option D :=
  (ex Φ H FU c (ds.map CB.val ++ (N.drop ds.length).map fun _ => CB.none)).bind fun p => retD p.1
noncomputable def Φ0 : Fn := fun _ _ => none
noncomputable def strsOnly (ds : List D) : Bool := (oneO ds strOf).isSome
noncomputable def escF (ds : List D) : Option D := (oneO ds strOf).bind fun l => oneO l fun c => if c < 128 then some (.str (escL c)) else none
noncomputable def Φ1 : Fn
  | 0, ds => if strsOnly ds then run Φ0 hP c_platform n_platform [.tup ds] else none
  | 3, ds => if ds.length = 2 then run Φ0 hZ c_join_translated_parts n_join_translated_parts ds else none
  | 4, ds => escF ds
  | 5, ds => if ds.length = 2 then run Φ0 hZ c_law_unit n_law_unit ds else none
  | 7, ds => if ds.length = 3 then run Φ0 hZ c_law_fits n_law_fits ds else none
  | 9, ds => if ds.length = 2 then run Φ0 hZ c_law_pair n_law_pair ds else none
  | 10, ds => if ds.length = 1 then run Φ0 hZ c_law_alike n_law_alike ds else none
  | 11, ds => if ds.length = 2 then run Φ0 hZ c_law_meets n_law_meets ds else none
  | _, _ => none
noncomputable def Φ2 : Fn
  | 2, ds => if ds.length = 3 then run Φ1 hT c_translate n_translate ds else none
  | 6, ds => if ds.length = 1 then run Φ1 hZ c_law_tokens n_law_tokens ds else none
  | 8, ds => if ds.length = 2 then run Φ1 hZ c_law_takes n_law_takes ds else none
  | j, ds => Φ1 j ds
noncomputable def outF (o : Option D) : Option D := o.bind fun d => (strOf d).map .str
noncomputable def trF (ds : List D) : Option D := (oneO ds strOf).bind fun l => (Φ2 2 [.str l, .star, .str [46]]).bind fun parts => outF (Φ2 3 [parts, .star])
noncomputable def Φ3 : Fn
  | 1, ds => trF ds
  | j, ds => Φ2 j ds

/-- the def with a star for its names -/
structure PlIn (C : Cx) (a : Addr) (fd : FuncData) (body : List Stmt) (sc : Scope) : Prop where
  mg : C.mg "_platform" = some (.ref a)
  df : DefAt C a fd body
  at0 : defAt "_platform" = some (body, sc)
  nm : fd.scope.names = sc.names
  bind : ∀ v, bindArgs fd ⟨[v], []⟩ = (newTuple [v] >>= fun t => pure [(Str.ofString "args", t)])
  psk : (Str.ofString "args", NameKind.local) ∈ sc.names ∨ (Str.ofString "args", NameKind.cell) ∈ sc.names

noncomputable abbrev LD (C : Cx) (x : Str) (ps : List Str) : Prop := ∃ a fd b sc, DefIn C x a fd b sc ps
/-- how the program lies in the heap -/
structure Lay (C : Cx) : Prop where
  len : C.mg "len" = none ∧ C.mb "len" = some (.builtin "len")
  any : C.mg "any" = none ∧ C.mb "any" = some (.builtin "any")
  list : C.mg "list" = none ∧ C.mb "list" = some (.type "list")
  range : C.mg "range" = none ∧ C.mb "range" = some (.type "range")
  enum : C.mg "enumerate" = none ∧ C.mb "enumerate" = some (.type "enumerate")
  filter : C.mg "filter" = none ∧ C.mb "filter" = some (.type "filter")
  object : C.mg "object" = none ∧ C.mb "object" = some (.type "object")
  bi : ∃ bm ob, BIn C bm ob
  esc : ∃ d, EscTops C d
  pat : ∃ pa ca, PatIn C pa ca
  d0 : ∃ a fd b sc, PlIn C a fd b sc ∧ ∃ c P, fd.code = .ref c ∧ CodeTab C c P
  d1 : LD C "translate" ["pat"]
  d2 : ∃ a fd b sc, DefIn C "_translate" a fd b sc ["pat", "STAR", "QUESTION_MARK"] ∧ ∃ c P, fd.code = .ref c ∧ CodeTab C c P
  d3 : LD C "_join_translated_parts" ["inp", "STAR"]
  d4 : LD C "escape" ["pattern"]
  d5 : LD C "_law_unit" ["text", "k"]
  d6 : LD C "_law_tokens" ["text"]
  d7 : LD C "_law_fits" ["units", "name", "place"]
  d8 : LD C "_law_takes" ["tokens", "name"]
  d9 : LD C "_law_pair" ["kind", "rest"]
  d10 : LD C "_law_alike" ["sign"]
  d11 : LD C "_law_meets" ["items", "alike"]

theorem run_at {Φ : Fn} {H : Nat → List CB → Option (List CB)} {c : CS} {ps r : List Str} {ds : List D} {d : D} (hl : ps.length = ds.length) (h : run Φ H c (ps ++ r) ds = some d) :
    ∃ V', ex Φ H FU c (ds.map CB.val ++ r.map fun _ => CB.none) = some (.ret d, V') := by
  unfold run at h
  rw [← hl, List.drop_left] at h
  apply bs_e h; clear h; intro p e h
  exact ⟨p.2, e.trans (congrArg (fun f => some (f, p.2)) (retD_i h))⟩

theorem fnT_e {P : Nat → Str → Prop} (h0 : P 0 "_platform") (h1 : P 1 "translate") (h2 : P 2 "_translate") (h3 : P 3 "_join_translated_parts") (h4 : P 4 "escape") (h5 : P 5 "_law_unit") (h6 : P 6 "_law_tokens") (h7 : P 7 "_law_fits") (h8 : P 8 "_law_takes") (h9 : P 9 "_law_pair") (h10 : P 10 "_law_alike") (h11 : P 11 "_law_meets")
    (j : Nat) (x : Str) (h : fnT j = some x) : P j x := by
  rcases j with _ | _ | _ | _ | _ | _ | _ | _ | _ | _ | _ | _ | j
  · exact Option.some.inj h ▸ h0
  · exact Option.some.inj h ▸ h1
  · exact Option.some.inj h ▸ h2
  · exact Option.some.inj h ▸ h3
  · exact Option.some.inj h ▸ h4
  · exact Option.some.inj h ▸ h5
  · exact Option.some.inj h ▸ h6
  · exact Option.some.inj h ▸ h7
  · exact Option.some.inj h ▸ h8
  · exact Option.some.inj h ▸ h9
  · exact Option.some.inj h ▸ h10
  · exact Option.some.inj h ▸ h11
  · exact no_some h
noncomputable def DA (C : Cx) (x : Str) : Prop := ∃ a fd b, C.mg x = some (.ref a) ∧ DefAt C a fd b
theorem LD.da {C : Cx} {x : Str} {ps : List Str} (h : LD C x ps) : DA C x := let ⟨a, fd, b, _, hd⟩ := h; ⟨a, fd, b, hd.mg, hd.df⟩
theorem defs_of {C : Cx} (L : Lay C) : ∀ j x, fnT j = some x → DA C x :=
  fnT_e (P := fun _ x => DA C x) (let ⟨a, fd, b, _, hd, _⟩ := L.d0; ⟨a, fd, b, hd.mg, hd.df⟩) L.d1.da (let ⟨a, fd, b, _, hd, _⟩ := L.d2; ⟨a, fd, b, hd.mg, hd.df⟩) L.d3.da L.d4.da L.d5.da L.d6.da L.d7.da L.d8.da L.d9.da L.d10.da L.d11.da
/-- what calls of a def give -/
noncomputable def CallOk (C : Cx) (Φ : Fn) (lv : Nat) (j : Nat) (x : Str) : Prop := ∀ a, C.mg x = some (.ref a) → ∀ A σ G s ds vs d, OkA lv A → Φ j ds = some d → Go C G s → RL G σ ds vs → EvE C A (call (.ref a) vs) G σ d s

section
variable {C : Cx} (ok : C.Ok) (L : Lay C)
include ok L

/-- a call of a plain def -/
theorem plain_call {x : Str} {a : Addr} {fd : FuncData} {body : List Stmt} {sc : Scope} {ps r N : List Str} (hd : DefIn C x a fd body sc ps) {Φ : Fn} {n : Nat} (tops : Tops C Φ fnT n) {c : CS} (hf : fits x N noHk c = true) (e : N = ps ++ r) (hN : N.Nodup) (hN0 : Str.ofString "" ∉ N)
    {A : Around} (hA : OkA (n + 1) A) {σ : Addr} {ds : List D} {vs : List Value} {d : D} {G : PH} {s : Shared} (hl : ds.length = ps.length) (he : run Φ hZ c N ds = some d) (hg : Go C G s) (rl : RL G σ ds vs) : EvE C A (call (.ref a) vs) G σ d s := by
  subst e
  obtain ⟨V', e⟩ := run_at hl.symm he
  exact call_core ok hd tops hf hN hN0 hA hl.symm hg rl e fun env A' s₀ G₀ _ _ _ _ _ _ j st h => nomatch h

theorem tops_of {Φ : Fn} {lv : Nat} (h : ∀ j x, fnT j = some x → CallOk C Φ lv j x) : Tops C Φ fnT lv := by
  refine ⟨L.len, L.any, L.list, L.range, L.enum, fun j x hx => ?_⟩
  obtain ⟨a, fd, b, hm, hd⟩ := defs_of L j x hx
  obtain ⟨o, ho, hd'⟩ := hd.at0
  exact ⟨a, o, fd, hm, ho, hd.noT, hd', h j x hx a hm⟩
theorem mg_eq {x : Str} {a b : Addr} (h1 : C.mg x = some (.ref a)) (h2 : C.mg x = some (.ref b)) : a = b := Value.ref.inj (Option.some.inj (h1.symm.trans h2))

theorem tops0 (n : Nat) : Tops C Φ0 fnT n := tops_of ok L fun j x _ a _ A σ G s ds vs d _ h => no_some h
theorem plain_at {x : Str} {ps r N : List Str} {c : CS} {Φ Φ' : Fn} {n j k : Nat} (hd : LD C x ps) (tops : Tops C Φ fnT n) (hf : fits x N noHk c = true) (e : N = ps ++ r) (hN : N.Nodup) (hN0 : Str.ofString "" ∉ N) (hk : ps.length = k) (hj : ∀ ds, Φ' j ds = if ds.length = k then run Φ hZ c N ds else none) : CallOk C Φ' (n + 1) j x := fun a ha A σ G s ds vs d hA he hg rl => by
  obtain ⟨a', fd, b, sc, hd⟩ := hd
  rw [hj] at he
  rw [mg_eq ok L ha hd.mg]
  exact ite_e he fun hl he => plain_call ok L hd tops hf e hN hN0 hA (hl.trans hk.symm) he hg rl

/-- the call of _platform -/
theorem pl_call {a : Addr} {n : Nat} (ha : C.mg "_platform" = some (.ref a)) {A : Around} (hA : OkA (n + 2) A) {σ : Addr} {l : List Nat} {vs : List Value} {d : D} {G : PH} {s : Shared} (he : run Φ0 hP c_platform n_platform [.tup [.str l]] = some d) (hg : Go C G s) (rl : RL G σ [.str l] vs) :
    EvE C A (call (.ref a) vs) G σ d s := by
  obtain ⟨a', fd, body, sc, hd, c, P, hcode, ct⟩ := L.d0
  have := mg_eq ok L ha hd.mg
  subst this
  obtain ⟨bm, ob, bi⟩ := L.bi
  obtain ⟨V', e⟩ := run_at (ps := [Str.ofString "args"]) (r := [Str.ofString "platform", Str.ofString "cleaned"]) rfl he
  cases rl with
  | cons r1 r2 =>
  cases r2
  rename_i v
  refine call_def ok hd.df hA (ps := [Str.ofString "args"]) (ds := [.tup [.str l]]) (by simp) rfl (fun x hx => ?_) hg (fun Q E h => ?_) fun env A' s₀ s₁ G₀ h1 h2 h3 h4 hcd h5 h6 h7 => ?_
  · rw [List.mem_singleton.mp hx, hd.nm]; exact hd.psk
  · rw [hd.bind v]
    refine wpAny_bind (wpAny_newObj_type ?_ (by size_fits))
    refine wpAny_pure ?_
    have S := Step.push (ht := by first | exact Nat.le_refl _ | exact Nat.le_succ _ | omega) ok hg (o := { cls := .type "tuple", data := .seq [v].toArray }) (tk := s.toks) rfl
    exact h _ _ [.ref s.heap.objs.size] S (.cons (.tup (PH.put_self ..) rfl rfl (.cons (r1.mono S.le) .nil)) .nil)
  · have hfb : isB n_platform fnT hkP sc.names c_platform (.inr body) = true := by
      have hf := m_platform2
      unfold fits at hf
      rw [hd.at0] at hf
      exact hf
    have hsc : sc.names = nmD "_platform" := by unfold nmD; rw [hd.at0]
    have hnm : env.scope.names = sc.names := by rw [h3]; exact hd.nm
    obtain ⟨l1, k1⟩ := ex_ok ok (tops0 ok L (n + 1)) h1 (N := n_platform) (by decide +kernel) (by decide +kernel) (nm := sc.names) (HK := hkP) (H := hP) (F := FU) (env := env) (G₀ := G₀) (s₀ := s₀) (σ := σ) h2 hnm h5 (fun x k hx => h6 x k (by rw [hd.nm]; exact hx)) (fun j st hj V V' hV hl => by
      match j, hj with
      | 0, hj =>
        have hj' : gpB sc.names st = true := by rw [hsc]; exact hj
        have z := hook_pl ok (G₀ := G₀) (σ := σ) h2 hnm h5 (fun x k hx => h6 x k (by rw [hd.nm]; exact hx)) h1.hd (Nat.lt_of_lt_of_le (Nat.lt_add_of_pos_right (Nat.succ_pos _)) h1.depth) ct bi (by rw [hcd, hcode]) L.filter L.len hj' hV hl
        exact ⟨z.1, fun G M s => z.2 G s M⟩
      | (j + 1), hj => exact nomatch hj) c_platform (.inr body) (isB_S hfb) _ _ _ e rfl
    have hb : bindS [Str.ofString "args"] [.tup [.str l]] = stN n_platform [.val (.tup [.str l]), .none, .none] := (bindS_st (ps := [Str.ofString "args"]) (r := [Str.ofString "platform", Str.ofString "cleaned"]) (ds := [.tup [.str l]]) rfl).symm
    rw [hb] at h7 ⊢
    exact ⟨_, k1 _ _ _ h7⟩

theorem no_call {Φ : Fn} {lv j : Nat} {x : Str} (h : ∀ ds, Φ j ds = none) : CallOk C Φ lv j x := fun a ha A σ G s ds vs d hA he hg rl => no_some ((h ds).symm.trans he)
theorem pl_at : CallOk C Φ1 2 0 "_platform" := fun a ha A σ G s ds vs d hA he hg rl => by
  have he : (if strsOnly ds then run Φ0 hP c_platform n_platform [.tup ds] else none) = some d := he
  apply ite_e he; clear he; intro hs he
  obtain ⟨l, e⟩ := Option.isSome_iff_exists.mp hs
  rw [oneS e] at he rl
  exact pl_call ok L (n := 0) ha hA he hg rl
theorem esc_at : CallOk C Φ1 2 4 "escape" := fun a ha A σ G s ds vs d hA he hg rl => by
  have he : escF ds = some d := he
  apply bs_e he; clear he; intro l e he
  rw [oneS e] at rl
  clear e
  revert rl
  apply oneO_e he; clear he; intro c he rl
  apply ite_e he; clear he; intro hc he
  obtain ⟨a', fd, b, sc, hd⟩ := L.d4
  obtain ⟨dd, hT⟩ := L.esc
  rw [mg_eq ok L ha hd.mg, ← Option.some.inj he]
  exact escape_ok ok hd hT hA hc hg rl
theorem tops1 : Tops C Φ1 fnT 2 := tops_of ok L <| fnT_e (P := CallOk C Φ1 2) (pl_at ok L) (no_call ok L fun _ => rfl) (no_call ok L fun _ => rfl)
  (plain_at ok L L.d3 (tops0 ok L 1) m_join (r := n_join_translated_parts.drop 2) rfl (by decide +kernel) (by decide +kernel) rfl fun _ => rfl) (esc_at ok L) (plain_at ok L L.d5 (tops0 ok L 1) m_unit (r := n_law_unit.drop 2) rfl (by decide +kernel) (by decide +kernel) rfl fun _ => rfl) (no_call ok L fun _ => rfl)
  (plain_at ok L L.d7 (tops0 ok L 1) m_fits (r := n_law_fits.drop 3) rfl (by decide +kernel) (by decide +kernel) rfl fun _ => rfl) (no_call ok L fun _ => rfl) (plain_at ok L L.d9 (tops0 ok L 1) m_pair (r := n_law_pair.drop 2) rfl (by decide +kernel) (by decide +kernel) rfl fun _ => rfl)
  (plain_at ok L L.d10 (tops0 ok L 1) m_alike (r := n_law_alike.drop 1) rfl (by decide +kernel) (by decide +kernel) rfl fun _ => rfl) (plain_at ok L L.d11 (tops0 ok L 1) m_meets (r := n_law_meets.drop 2) rfl (by decide +kernel) (by decide +kernel) rfl fun _ => rfl)

/-- a call that the level below knows -/
theorem Tops.at {Φ : Fn} {lv : Nat} (t : Tops C Φ fnT lv) {j : Nat} {x : Str} {a : Addr} (hx : fnT j = some x) (ha : C.mg x = some (.ref a)) {A : Around} {σ : Addr} {G : PH} {s : Shared} {ds : List D} {vs : List Value} {d : D} (hA : OkA lv A) (he : Φ j ds = some d) (hg : Go C G s) (rl : RL G σ ds vs) :
    EvE C A (call (.ref a) vs) G σ d s := by
  obtain ⟨a', o, fd, hm, _, _, _, h⟩ := t.defs j x hx
  have := mg_eq ok L ha hm
  subst this
  exact h A σ G s ds vs d hA he hg rl

/-- the call of _translate -/
theorem tr2_call {a : Addr} (ha : C.mg "_translate" = some (.ref a)) {A : Around} (hA : OkA 3 A) {σ : Addr} {ds : List D} {vs : List Value} {d : D} {G : PH} {s : Shared} (hl : ds.length = 3) (he : run Φ1 hT c_translate n_translate ds = some d) (hg : Go C G s) (rl : RL G σ ds vs) :
    EvE C A (call (.ref a) vs) G σ d s := by
  obtain ⟨a', fd, body, sc, hd, c, P, hcode, ct⟩ := L.d2
  have := mg_eq ok L ha hd.mg
  subst this
  obtain ⟨bm, ob, bi⟩ := L.bi
  obtain ⟨pa, ca, hpat⟩ := L.pat
  obtain ⟨V', e⟩ := run_at (ps := ["pat", "STAR", "QUESTION_MARK"]) (r := n_translate.drop 3) (by rw [hl]; rfl) he
  have hsc : sc.names = nmD "_translate" := by unfold nmD; rw [hd.at0]
  refine call_core (r := n_translate.drop 3) ok hd (tops1 ok L) (hk := hkT) (H := hT) m_translate2 (by decide +kernel) (by decide +kernel) hA (by rw [hl]; rfl) hg rl e fun env A' s₀ G₀ h1 h2 hnm hcd h5 h6 j st hj V V' hV hlV => ?_
  match j, hj with
  | 0, hj =>
    have hj' : gjB sc.names st = true := by rw [hsc]; exact hj
    have z := hook_gen ok (G₀ := G₀) (σ := σ) h2 hnm h5 h6 h1.hd (Nat.lt_of_lt_of_le (Nat.lt_add_of_pos_right (Nat.succ_pos _)) h1.depth) ct bi (by rw [hcd, hcode]) hj' hV hlV
    exact ⟨z.1, fun G M s => z.2 G s M⟩
  | 1, hj =>
    have hj' : sbB sc.names st = true := by rw [hsc]; exact hj
    have z := hook_sub ok (G₀ := G₀) (σ := σ) h2 hnm h5 h6 h1.hd (Nat.lt_of_lt_of_le (Nat.lt_add_of_pos_right (Nat.succ_pos _)) h1.depth) ct bi (by rw [hcd, hcode]) hpat hj' hV hlV
    exact ⟨z.1, fun G M s => z.2 G s M⟩
  | (j + 2), hj => exact nomatch hj

theorem low {Φ Φ' : Fn} {lv j : Nat} {x : Str} (hx : fnT j = some x) (t : Tops C Φ fnT lv) (h : ∀ ds, Φ' j ds = Φ j ds) : CallOk C Φ' (lv + 1) j x := fun a ha A σ G s ds vs d hA he hg rl => Tops.at ok L t hx ha (hA.le (Nat.le_succ _)) ((h ds).symm.trans he) hg rl
theorem tr2_at : CallOk C Φ2 3 2 "_translate" := fun a ha A σ G s ds vs d hA he hg rl =>
  ite_e (show (if ds.length = 3 then run Φ1 hT c_translate n_translate ds else none) = some d from he) fun hl he => tr2_call ok L ha hA hl he hg rl
theorem tops2 : Tops C Φ2 fnT 3 :=
  have t := tops1 ok L
  tops_of ok L <| fnT_e (P := CallOk C Φ2 3) (low ok L rfl t fun _ => rfl) (low ok L rfl t fun _ => rfl) (tr2_at ok L) (low ok L rfl t fun _ => rfl) (low ok L rfl t fun _ => rfl) (low ok L rfl t fun _ => rfl)
    (plain_at ok L L.d6 t m_tokens (r := n_law_tokens.drop 1) rfl (by decide +kernel) (by decide +kernel) rfl fun _ => rfl) (low ok L rfl t fun _ => rfl) (plain_at ok L L.d8 t m_takes (r := n_law_takes.drop 2) rfl (by decide +kernel) (by decide +kernel) rfl fun _ => rfl)
    (low ok L rfl t fun _ => rfl) (low ok L rfl t fun _ => rfl) (low ok L rfl t fun _ => rfl)
theorem tr_at : CallOk C Φ3 4 1 "translate" := fun a ha A σ G s ds vs d hA he hg rl => by
  have he : trF ds = some d := he
  apply bs_e he; clear he; intro l e he
  rw [oneS e] at rl
  apply bs_e he; clear he; intro parts h2 he
  apply bs_e he; clear he; intro o h4 he
  apply ms_e he; clear he; intro out e2 he
  rw [strOf_i e2] at h4
  obtain ⟨a', fd, b, sc, hd⟩ := L.d1
  rw [mg_eq ok L ha hd.mg, ← he]
  exact translate_ok ok hd (tops2 ok L) L.object hA h2 h4 hg rl
theorem tops3 : Tops C Φ3 fnT 4 :=
  have t := tops2 ok L
  tops_of ok L <| fnT_e (P := CallOk C Φ3 4) (low ok L rfl t fun _ => rfl) (tr_at ok L) (low ok L rfl t fun _ => rfl) (low ok L rfl t fun _ => rfl) (low ok L rfl t fun _ => rfl) (low ok L rfl t fun _ => rfl)
    (low ok L rfl t fun _ => rfl) (low ok L rfl t fun _ => rfl) (low ok L rfl t fun _ => rfl) (low ok L rfl t fun _ => rfl) (low ok L rfl t fun _ => rfl) (low ok L rfl t fun _ => rfl)

/-- the law's call -/
theorem law_call {a : Addr} {fd : FuncData} {body : List Stmt} {sc : Scope} (hd : DefIn C "law" a fd body sc ["script"]) {A : Around} (hA : OkA 5 A) {σ : Addr} {ds : List D} {vs : List Value} {d : D} {G : PH} {s : Shared} (hl : ds.length = 1) (he : run Φ3 hZ c_law n_law ds = some d) (hg : Go C G s) (rl : RL G σ ds vs) :
    EvE C A (call (.ref a) vs) G σ d s :=
  plain_call ok L hd (tops3 ok L) m_law (r := n_law.drop 1) rfl (by decide +kernel) (by decide +kernel) hA hl he hg rl
end
end Mine
end TG14
section TP1
open PySem PySem.W PyProof.Rows PySem.Calls
set_option maxRecDepth 100000
namespace Mine
open PySem.StrLaws PySem.Builtin PySem.Builtin.Str

/-! texts -/
noncomputable def sub1 (c : Nat) (z l : List Nat) : List Nat := l.flatMap fun k => if k = c then z else [k]
theorem sub1_free {c : Nat} {z : List Nat} : ∀ {l : List Nat}, c ∉ l → sub1 c z l = l
  | [], _ => rfl
  | k :: r, h => by
    have h1 : ¬ k = c := fun e => h (e ▸ List.mem_cons_self ..)
    have ih := sub1_free (z := z) fun m => h (List.mem_cons_of_mem _ m)
    unfold sub1 at ih ⊢
    rw [List.flatMap_cons, if_neg h1, ih]; rfl
theorem sub1_append {c : Nat} {z a b : List Nat} : sub1 c z (a ++ b) = sub1 c z a ++ sub1 c z b := by simp [sub1]
theorem sub1_join (c : Nat) (z : List Nat) : ∀ parts : List Str, (∀ p ∈ parts, c ∉ p.cps.toList) → sub1 c z (Str.join ⟨#[c]⟩ parts).cps.toList = (Str.join ⟨z.toArray⟩ parts).cps.toList
  | [], _ => rfl
  | [p], h => sub1_free (h p (List.mem_singleton.mpr rfl))
  | p :: q :: r, h => by
    have ih := sub1_join c z (q :: r) fun a ha => h a (List.mem_cons_of_mem _ ha)
    show sub1 c z (p ++ ⟨#[c]⟩ ++ Str.join ⟨#[c]⟩ (q :: r)).cps.toList = (p ++ ⟨z.toArray⟩ ++ Str.join ⟨z.toArray⟩ (q :: r)).cps.toList
    simp only [Str.cps_append, Array.toList_append]
    rw [sub1_append, sub1_append, ih, sub1_free (h p (List.mem_cons_self ..))]
    show p.cps.toList ++ sub1 c z [c] ++ _ = _
    simp [sub1]
theorem repl1 (l : List Nat) (c : Nat) (z : List Nat) : replL l [c] z = sub1 c z l := by
  unfold replL
  have := replace_one ⟨l.toArray⟩ ⟨z.toArray⟩ c
  rw [show (⟨[c].toArray⟩ : Str) = ⟨#[c]⟩ from rfl, this, ← sub1_join c z _ (split_free _ c), join_split]

/-- '--' to '-' -/
noncomputable def col : List Nat → List Nat
  | [] => []
  | [a] => [a]
  | a :: b :: r => if a = 45 ∧ b = 45 then 45 :: col r else a :: col (b :: r)
noncomputable def dd (l : List Nat) (k : Nat) : Prop := l[k]? = some 45 ∧ l[k + 1]? = some 45
theorem col_free : ∀ {l : List Nat}, (∀ k, ¬ dd l k) → col l = l
  | [], _ => by simp [col]
  | [a], _ => by simp [col]
  | a :: b :: r, h => by
    have h0 : ¬ (a = 45 ∧ b = 45) := fun e => h 0 ⟨by simp [e.1], by simp [e.2]⟩
    unfold col
    rw [if_neg h0, col_free fun k hk => h (k + 1) ⟨by simpa [dd] using hk.1, by simpa [dd] using hk.2⟩]
theorem col_split : ∀ {m : Nat} {l : List Nat}, (∀ k, k < m → ¬ dd l k) → dd l m → col l = l.take m ++ 45 :: col (l.drop (m + 2))
  | 0, l, _, h => by
    match l, h with
    | [], h => simp [dd] at h
    | [a], h => simp [dd] at h
    | a :: b :: r, h =>
      have h1 : a = 45 := by simpa [dd] using h.1
      have h2 : b = 45 := by simpa [dd] using h.2
      subst h1 h2
      simp [col]
  | m + 1, l, hn, h => by
    match l, hn, h with
    | [], _, h => simp [dd] at h
    | [a], _, h => simp [dd] at h
    | a :: b :: r, hn, h =>
      have h0 : ¬ (a = 45 ∧ b = 45) := fun e => hn 0 (by lia) ⟨by simp [e.1], by simp [e.2]⟩
      have ih := col_split (m := m) (l := b :: r) (fun k hk hd => hn (k + 1) (by lia) ⟨by simpa [dd] using hd.1, by simpa [dd] using hd.2⟩) ⟨by simpa [dd] using h.1, by simpa [dd] using h.2⟩
      have e : col (a :: b :: r) = a :: col (b :: r) := by
        rw [col, if_neg h0]
      rw [e, ih]
      simp
theorem at_dd (l : List Nat) (k : Nat) : StrLaws.At ⟨l.toArray⟩ ⟨#[45, 45]⟩ (⟨l.toArray⟩ : Str).length k ↔ dd l k := by
  unfold StrLaws.At dd
  rw [subAt_eq]
  have e1 : (⟨#[45, 45]⟩ : Str).length = 2 := rfl
  have e2 : (⟨l.toArray⟩ : Str).length = l.length := by simp [Str.length]
  rw [e1, e2]
  simp only [List.take_succ, List.getElem?_drop]
  constructor
  · rintro ⟨h1, h2⟩
    have hk : k < l.length := by lia
    have hk1 : k + 1 < l.length := by lia
    have h2' := eq_of_beq h2
    simp [hk, hk1] at h2'
    simp [hk, hk1, h2']
  · rintro ⟨h1, h2⟩
    have hk1 := (List.getElem?_eq_some_iff.mp h2).1
    refine ⟨by lia, ?_⟩
    simp [h1, h2]
theorem dd_drop {l : List Nat} {a k : Nat} : dd (l.drop a) k ↔ dd l (a + k) := by
  simp [dd, Nat.add_assoc]
theorem col_parts (l : List Nat) : ∀ (cuts : List Nat) (a f : Nat), ChainG ⟨l.toArray⟩ ⟨#[45, 45]⟩ (⟨l.toArray⟩ : Str).length a cuts f → (∀ k, f ≤ k → ¬ dd l k) →
    (Str.join ⟨#[45]⟩ (partsFrom ⟨l.toArray⟩ 2 a cuts)).cps.toList = col (l.drop a)
  | [], a, f, h, hn => by
    have : f = a := h
    subst this
    rw [col_free fun k hk => hn (f + k) (by lia) (dd_drop.mp hk)]
    show (strSub _ _ _).cps.toList = _
    rw [strSub_toList]
    simp [Str.length]
    exact List.take_of_length_le (by simp)
  | c :: r, a, f, h, hn => by
    obtain ⟨h1, h2, h3, h4⟩ := h
    obtain ⟨p, q, e⟩ := partsFrom_ne ⟨l.toArray⟩ 2 (c + 2) r
    have ih := col_parts l r (c + 2) f h4 hn
    show (Str.join ⟨#[45]⟩ (strSub ⟨l.toArray⟩ a c :: partsFrom ⟨l.toArray⟩ 2 (c + 2) r)).cps.toList = _
    rw [e] at ih ⊢
    show (strSub ⟨l.toArray⟩ a c ++ ⟨#[45]⟩ ++ Str.join ⟨#[45]⟩ (p :: q)).cps.toList = _
    simp only [Str.cps_append, Array.toList_append]
    rw [ih, strSub_toList]
    have hd := (at_dd l c).mp h2
    have hs := col_split (m := c - a) (l := l.drop a) (fun k hk hk' => h3 (a + k) (by lia) (by lia) ((at_dd l _).mpr (dd_drop.mp hk'))) (dd_drop.mpr (by rw [show a + (c - a) = c by lia]; exact hd))
    rw [hs, List.drop_drop, show a + (c - a + 2) = c + 2 by lia]
    simp
theorem repl_col (l : List Nat) : replL l [45, 45] [45] = col l := by
  obtain ⟨f, hG, hn⟩ := occ_tight ⟨l.toArray⟩ ⟨#[45, 45]⟩ (by decide)
  have hn' : ∀ k, f ≤ k → ¬ dd l k := fun k hk hd => hn k hk ((at_dd l k).mpr hd)
  have key := col_parts l _ 0 f hG hn'
  rw [List.drop_zero] at key
  unfold replL Txt.replace
  show (if ((occurrences ⟨l.toArray⟩ ⟨#[45, 45]⟩ 0 (⟨l.toArray⟩ : Str).length ((⟨l.toArray⟩ : Str).length + 1)).isEmpty || (2 == 0 && 1 == 0)) = true then (⟨l.toArray⟩ : Str) else glued ⟨#[45]⟩ (partsBetween ⟨l.toArray⟩ (occurrences ⟨l.toArray⟩ ⟨#[45, 45]⟩ 0 (⟨l.toArray⟩ : Str).length ((⟨l.toArray⟩ : Str).length + 1)) 2)).cps.toList = col l
  split
  · rename_i he
    have he : occurrences ⟨l.toArray⟩ ⟨#[45, 45]⟩ 0 (⟨l.toArray⟩ : Str).length ((⟨l.toArray⟩ : Str).length + 1) = [] := by simpa using he
    rw [he] at hG
    have : f = 0 := hG
    subst this
    rw [col_free fun k => hn' k (Nat.zero_le _)]
  · rw [glued_eq_join, partsBetween_eq]
    exact key

/-- nothing of the text there -/
theorem repl_none {l y z : List Nat} {c : Nat} {r : List Nat} (hy : y = c :: r) (h : c ∉ l) : replL l y z = l := by
  subst hy
  unfold replL Txt.replace
  have he : (occurrences ⟨l.toArray⟩ ⟨(c :: r).toArray⟩ 0 (⟨l.toArray⟩ : Str).length ((⟨l.toArray⟩ : Str).length + 1)) = [] := by
    rw [List.eq_nil_iff_forall_not_mem]
    intro i hi
    obtain ⟨h1, h2⟩ := StrLaws.occ_spec _ _ _ _ _ i hi
    rw [subAt_eq] at h2
    have h2 := eq_of_beq h2
    have hm : c ∈ (l.drop i).take (⟨(c :: r).toArray⟩ : Str).length := by
      have : c ∈ (⟨(c :: r).toArray⟩ : Str).cps.toList := by simp
      rw [← h2] at this
      exact this
    exact h (List.mem_of_mem_drop (List.mem_of_mem_take hm))
  rw [he]
  simp
theorem strIn1 (c : Nat) (l : List Nat) : strIn [c] l = decide (c ∈ l) := by
  unfold strIn
  have := found_one ⟨l.toArray⟩ c
  rw [show (⟨[c].toArray⟩ : Str) = ⟨#[c]⟩ from rfl]
  simpa [Str.length] using this

theorem fromIndex_nat (n i : Nat) : fromIndex n (i : Int) = i := by
  unfold fromIndex
  rw [if_neg (by lia)]
  lia
theorem find_at {l : List Nat} {c i j m : Nat} (hj : j ≤ l.length) (h1 : i ≤ m) (h2 : m < j) (hm : l[m]? = some c) (hn : ∀ k, i ≤ k → k < m → l[k]? ≠ some c) : findL l [c] (i : Int) (j : Int) = (m : Int) := by
  unfold findL
  rw [fromIndex_nat, fromIndex_nat, Nat.min_eq_left hj, occ_eq]
  have hlen : (⟨#[c]⟩ : Str).length = 1 := rfl
  have one : ∀ k, subAt ⟨l.toArray⟩ ⟨#[c]⟩ k = true ↔ l[k]? = some c := fun k => by
    have := subAt_one ⟨l.toArray⟩ c k
    constructor
    · intro h
      have h' := h
      rw [subAt_eq] at h'
      have h' := eq_of_beq h'
      have hk : k < l.length := by
        by_cases q : k < l.length
        · exact q
        · rw [List.drop_eq_nil_of_le (by simpa using q)] at h'
          simp at h'
      exact this.mp ⟨by rw [hlen]; simp [Str.length]; lia, h⟩
    · intro h
      exact (this.mpr h).2
  rcases StrLaws.occ_first ⟨l.toArray⟩ ⟨[c].toArray⟩ j 1 (Nat.le_refl _) (List.range' i (j + 1 - i)) i (fun k hk => (List.mem_range'_1.mp hk).1) with ⟨e, hno⟩ | ⟨pre, a, post, e, h0, hA, hpre⟩
  · exact absurd ⟨by rw [show (⟨[c].toArray⟩ : Str).length = 1 from rfl]; lia, (one m).mpr hm⟩ (hno m (List.mem_range'_1.mpr ⟨h1, by lia⟩))
  · have hla : l[a]? = some c := (one a).mp hA.2
    have ha : a ∈ List.range' i (j + 1 - i) := by rw [e]; simp
    have hai := (List.mem_range'_1.mp ha).1
    have ham : ¬ m < a := fun hlt => by
      have hmem : m ∈ List.range' i (j + 1 - i) := List.mem_range'_1.mpr ⟨h1, by lia⟩
      rw [e] at hmem
      rcases List.mem_append.mp hmem with q | q
      · exact hpre m q ⟨by rw [show (⟨[c].toArray⟩ : Str).length = 1 from rfl]; lia, (one m).mpr hm⟩
      · rcases List.mem_cons.mp q with q | q
        · lia
        · have hs : (List.range' i (j + 1 - i)).Pairwise (· < ·) := List.pairwise_lt_range'
          rw [e, List.pairwise_append, List.pairwise_cons] at hs
          have := hs.2.1.1 m q
          lia
    have : a = m := by
      by_cases q : a = m
      · exact q
      · exact absurd hla (hn a hai (by lia))
    subst this
    generalize hR : (forIn (List.range' i (j + 1 - i)) ((#[] : Array Nat), i) (occBody ⟨l.toArray⟩ ⟨[c].toArray⟩ j 1)).run.fst = R at h0
    have : ∃ t, R.toList = a :: t := by
      cases q : R.toList with
      | nil => rw [← Array.getElem?_toList, q] at h0; simp at h0
      | cons b t => rw [← Array.getElem?_toList, q] at h0; simp at h0; exact ⟨t, by rw [h0]⟩
    obtain ⟨t, ht⟩ := this
    rw [ht]
theorem find_no {l : List Nat} {c i j : Nat} (hj : j ≤ l.length) (hn : ∀ k, i ≤ k → k < j → l[k]? ≠ some c) : findL l [c] (i : Int) (j : Int) = -1 := by
  unfold findL
  rw [fromIndex_nat, fromIndex_nat, Nat.min_eq_left hj]
  have he : occurrences ⟨l.toArray⟩ ⟨[c].toArray⟩ i j 1 = [] := by
    rw [List.eq_nil_iff_forall_not_mem]
    intro a ha
    have hlo : i ≤ a := by
      rw [occ_eq] at ha
      rcases StrLaws.occ_first ⟨l.toArray⟩ ⟨[c].toArray⟩ j 1 (Nat.le_refl _) (List.range' i (j + 1 - i)) i (fun k hk => (List.mem_range'_1.mp hk).1) with ⟨e, _⟩ | ⟨pre, b, post, e, h0, hA, hpre⟩
      · rw [e] at ha; simp at ha
      · obtain ⟨x1, x2⟩ := StrLaws.occ_spec ⟨l.toArray⟩ ⟨[c].toArray⟩ i j 1 a (by rw [occ_eq]; exact ha)
        have hsz := occ_length_le ⟨l.toArray⟩ ⟨[c].toArray⟩ i j 1
        rw [occ_eq] at hsz
        generalize hR : (forIn (List.range' i (j + 1 - i)) ((#[] : Array Nat), i) (occBody ⟨l.toArray⟩ ⟨[c].toArray⟩ j 1)).run.fst = R at *
        rw [← Array.getElem?_toList] at h0
        match q : R.toList, h0, ha, hsz with
        | [x], h0, ha, _ =>
          simp at h0
          have : a = x := by simpa using (show a ∈ [x] from ha)
          have hb : b ∈ List.range' i (j + 1 - i) := by rw [e]; simp
          have := (List.mem_range'_1.mp hb).1
          lia
    obtain ⟨h1, h2⟩ := StrLaws.occ_spec _ _ _ _ _ a ha
    have h1' : a + 1 ≤ j := h1
    have h3 : l[a]? = some c := (subAt_one ⟨l.toArray⟩ c a).mp ⟨by show a + 1 ≤ _; simp [Str.length]; lia, h2⟩
    exact hn a hlo (by lia) h3
  rw [he]
end Mine
end TP1
section TP2
open PySem PySem.W PyProof.Rows PySem.Calls
set_option maxRecDepth 100000
namespace Mine

/-! numbers and places -/
theorem pick_nat {α : Type} {l : List α} {i : Nat} {x : α} (h : l[i]? = some x) (hb : i < 9223372036854775808) : pick l (i : Int) = some x := by
  unfold pick
  rw [if_pos (by lia), if_pos (by lia)]
  exact h
theorem pick_last {α : Type} {l : List α} {x : α} (h : l.getLast? = some x) : pick l (-1) = some x := by
  have hne : l ≠ [] := by rintro rfl; simp at h
  have hpos : 0 < l.length := List.length_pos_iff.mpr hne
  unfold pick
  rw [if_neg (by lia), if_pos ⟨by lia, by lia⟩]
  rw [List.getLast?_eq_getElem?] at h
  rw [show ((-1 : Int) + (l.length : Int)).toNat = l.length - 1 by lia]
  exact h
theorem cut_nat {α : Type} {l : List α} {i j : Nat} (hi : i ≤ l.length) (hj : j ≤ l.length) : cut l (some (i : Int)) (some (j : Int)) = (l.drop i).take (j - i) := by
  have e : ∀ k : Nat, k ≤ l.length → clipAt l.length (k : Int) = k := fun k hk => by
    unfold clipAt
    first
      | (rw [if_neg (by lia)]; lia)
      | (split <;> lia)
      | lia
  unfold cut
  simp only [Option.elim]
  rw [e i hi, e j hj]
theorem cut_from {α : Type} {l : List α} {i : Nat} (hi : i ≤ l.length) : cut l (some (i : Int)) none = l.drop i := by
  have e : ∀ k : Nat, k ≤ l.length → clipAt l.length (k : Int) = k := fun k hk => by
    unfold clipAt
    first
      | (rw [if_neg (by lia)]; lia)
      | (split <;> lia)
      | lia
  unfold cut
  simp only [Option.elim]
  rw [e i hi]
  exact List.take_of_length_le (by simp)
end Mine
end TP2
section TP3
open PySem PySem.W PyProof.Rows PySem.Calls
set_option maxRecDepth 100000
namespace Mine
open PySem.StrLaws PySem.Builtin PySem.Builtin.Str

/-! _platform -/
noncomputable def rp (a b : Nat) (k : Nat) : Nat := if k = a then b else k
theorem sub1_map (a b : Nat) (l : List Nat) : sub1 a [b] l = l.map (rp a b) := by
  induction l with
  | nil => rfl
  | cons k r ih =>
    unfold sub1 at ih ⊢
    rw [List.flatMap_cons, ih, List.map_cons]
    unfold rp
    split <;> rfl
noncomputable def cm (k : Nat) : Nat := rp 41 45 (rp 40 45 (rp 34 45 (rp 59 45 (rp 58 45 (rp 92 45 (rp 47 45 (rp 32 95 k)))))))
noncomputable def plat (l : List Nat) : List Nat := col (l.map cm)
theorem strip_same {l : List Nat} (h1 : l.head? = some 120) (h2 : l.getLast? = some 120) : stripL l = l := by
  have hs : Unicode.isSpace 120 = false := by decide +kernel
  unfold stripL Txt.strip Txt.stripBy
  rw [if_pos]
  · unfold stripSame
    rw [Bool.and_eq_true, beq_iff_eq, beq_iff_eq]
    have e1 : stripLo Unicode.isSpace true ⟨l.toArray⟩ = 0 := by
      simp only [stripLo, if_true]
      match l, h1 with
      | a :: r, h1 =>
        have : a = 120 := by simpa using h1
        subst this
        simp [hs]
    refine ⟨e1, ?_⟩
    rw [e1]
    simp only [stripHi, if_true]
    have h3 : l.reverse.head? = some 120 := by rw [List.head?_reverse]; exact h2
    match q : l.reverse, h3 with
    | a :: r, h3 =>
      have : a = 120 := by simpa using h3
      subst this
      simp [hs, Str.length]
noncomputable abbrev plTA : CE := .tv (.bool true)
noncomputable abbrev plBA : CS := .sq (.set 2 (.repl (.var 1) [45, 45] [45])) <|
  .sq (.ifs (.cmp .Eq (.var 2) (.var 1)) (.sq (.brk) <|
  .sk) (.sk)) <|
  .sq (.set 1 (.var 2)) <|
  .sk
noncomputable abbrev plTB : CE := .an (.tv (.var 1)) (.cmp .Eq (.idx (.var 1) (.neg (.int 1))) (.str [45]))
noncomputable abbrev plBB : CS := .sq (.set 1 (.sl (.var 1) .no (.neg (.int 1)))) <| .sk
theorem c_pl : c_platform =
  (.sq (.hook 0) <|
  .sq (.set 1 (.repl (.var 1) [32] [95])) <|
  .sq (.set 1 (.repl (.var 1) [47] [45])) <|
  .sq (.set 1 (.repl (.var 1) [92] [45])) <|
  .sq (.set 1 (.repl (.var 1) [58] [45])) <|
  .sq (.set 1 (.repl (.var 1) [59] [45])) <|
  .sq (.set 1 (.repl (.var 1) [34] [45])) <|
  .sq (.set 1 (.repl (.var 1) [40] [45])) <|
  .sq (.set 1 (.repl (.var 1) [41] [45])) <|
  .sq (.set 1 (.repl (.var 1) [117, 110, 107, 110, 111, 119, 110] [])) <|
  .sq (.whl plTA plBA) <| .sq (.whl plTB plBB) <| .sq (.ret (.var 1)) <| .sk) := rfl
theorem pl_turn {a c : CB} {p : List Nat} (hl : p.length ≤ 1000) (ha : JK a) (hc : JK c) : ev Φ0 (.repl (.var 1) [45, 45] [45]) [a, .val (.str p), c] = some (.str (col p)) := by
  rw [← repl_col]
  exact yrepl (yvar rfl) (by simp; lia) (by decide)
theorem eqT {a b : List Nat} (h : a = b) : cmpD .Eq (.str a) (.str b) = some true := congrArg some (beq_iff_eq.mpr h)
theorem eqF {a b : List Nat} (h : a ≠ b) : cmpD .Eq (.str a) (.str b) = some false := congrArg some (beq_eq_false_iff_ne.mpr h)
theorem ex_plA {a c : CB} {p : List Nat} {n : Nat} (hl : p.length ≤ 1000) (ha : JK a) (hc : JK c) (h : col (col p) = col p) (h2 : (col p).length ≤ 1000) : whl Φ0 hP FU plTA plBA (n + 2) [a, .val (.str p), c] = some (.next, [a, .val (.str (col p)), .val (.str (col p))]) := by
  have hna : ∀ k (x y : D), noApp [a, .val x, .val y] k = true := fun k x y => na_cons (ha k) (na_cons rfl (na_cons rfl rfl))
  have hnc : ∀ k (x : D), noApp [a, .val x, c] k = true := fun k x => na_cons (ha k) (na_cons rfl (na_cons (hc k) rfl))
  by_cases q : col p = p
  · have e : whl Φ0 hP FU plTA plBA (n + 2) [a, .val (.str p), c] = some (.next, [a, .val (.str p), .val (.str (col p))]) := by
      refine wb (ytv rfl rfl) ?_
      refine xs (xset (pl_turn hl ha hc) (hnc _ _) rfl) ?_
      exact xs_brk (xift (ycmp (yvar rfl) (yvar rfl) (c := true) (by first | exact eqT q | exact eqT q.symm)) (xs_brk xbrk))
    rw [e, q]
  · refine wt (V' := [a, .val (.str (col p)), .val (.str (col p))]) (ytv rfl rfl) ?_ ?_
    · refine xs (xset (pl_turn hl ha hc) (hnc _ _) rfl) ?_
      refine xs (V' := [a, .val (.str p), .val (.str (col p))]) (xiff (ycmp (yvar rfl) (yvar rfl) (c := false) (by first | exact eqF q | exact eqF (Ne.symm q))) xsk) ?_
      exact xs (xset (yvar rfl) (hna _ _ _) rfl) xsk
    · have e : whl Φ0 hP FU plTA plBA (n + 1) [a, .val (.str (col p)), .val (.str (col p))] = some (.next, [a, .val (.str (col p)), .val (.str (col (col p)))]) := by
        refine wb (ytv rfl rfl) ?_
        refine xs (xset (pl_turn h2 ha (JK.val _)) (hna _ _ _) rfl) ?_
        exact xs_brk (xift (ycmp (yvar rfl) (yvar rfl) (c := true) (by first | exact eqT h | exact eqT h.symm)) (xs_brk xbrk))
      rw [e, h]
theorem ex_plB {a c : CB} {p : List Nat} {n : Nat} (hl : p.length ≤ 1000) (h : p.getLast? = some 120) : whl Φ0 hP FU plTB plBB (n + 1) [a, .val (.str p), c] = some (.next, [a, .val (.str p), c]) := by
  have hne : p.isEmpty = false := by
    cases p with
    | nil => simp at h
    | cons x r => rfl
  refine wf (yant (ytv (yvar rfl) (c := true) ?_) (ycmp (yidx (j := -1) (yvar rfl) rfl (r := .str [120]) ?_) rfl (c := false) rfl))
  · show (if fit p = true then some (!p.isEmpty) else none) = some true
    rw [if_pos (fit_iff.mpr (by lia)), hne]; rfl
  · show (pick p (-1)).map _ = _
    rw [pick_last h]; rfl
theorem col_len : ∀ l : List Nat, (col l).length ≤ l.length
  | [] => by simp [col]
  | [a] => by simp [col]
  | a :: b :: r => by
    unfold col
    split
    · have := col_len r; simp; lia
    · have := col_len (b :: r); simp at this ⊢; lia
theorem pl_step {d : D} {x : List Nat} {y z : Nat} (hx : x.length ≤ 1000) (hyz : [y] ≠ [z]) : ex Φ0 hP FU (.set 1 (.repl (.var 1) [y] [z])) [.val d, .val (.str x), .none] = some (.next, [.val d, .val (.str (x.map (rp y z))), .none]) := by
  rw [← sub1_map, ← repl1]
  exact xset (yrepl (yvar rfl) (by simp only [List.length_cons, List.length_nil]; lia) hyz) rfl rfl
theorem pl_ok {l : List Nat} (hl : l.length ≤ 1000) (hne : l.isEmpty = false) (hs : stripL l = l) : plOk [l] = true := by
  unfold plOk
  rw [List.all_cons, List.all_nil, hne, hs]
  have e1 : decide (l.length ≤ 4000) = true := decide_eq_true (by lia)
  rw [e1]
  rfl
theorem pl_hook {l : List Nat} (hl : l.length ≤ 1000) (hne : l.isEmpty = false) (hs : stripL l = l) : hkPl [.val (.tup [.str l]), .none, .none] = some [.val (.tup [.str l]), .val (.str l), .none] := by
  unfold hkPl
  rw [show gv [CB.val (.tup [.str l]), .none, .none] 0 = some (.tup [.str l]) from rfl, Option.bind_some]
  show ((some [D.str l]).bind _) = _
  rw [Option.bind_some, show strsD [D.str l] = some [l] from rfl, Option.bind_some, if_pos (pl_ok hl hne hs)]
  show setV _ 1 (.val (.str (joinL [45] [stripL l]))) = _
  rw [hs]
  exact setV_of rfl rfl
theorem pl_key {l : List Nat} (hl : l.length ≤ 1000) (hne : l.isEmpty = false) (hs : stripL l = l) (hu2 : 117 ∉ l.map cm) (hc : col (plat l) = plat l) (h3 : (plat l).getLast? = some 120) :
    ex Φ0 hP FU c_platform [.val (.tup [.str l]), .none, .none] = some (.ret (.str (plat l)), [.val (.tup [.str l]), .val (.str (plat l)), .val (.str (plat l))]) := by
  rw [c_pl]
  refine xs (xhook (pl_hook hl hne hs)) ?_
  refine xs (pl_step hl (by decide)) ?_
  refine xs (pl_step (by simpa using hl) (by decide)) ?_
  refine xs (pl_step (by simpa using hl) (by decide)) ?_
  refine xs (pl_step (by simpa using hl) (by decide)) ?_
  refine xs (pl_step (by simpa using hl) (by decide)) ?_
  refine xs (pl_step (by simpa using hl) (by decide)) ?_
  refine xs (pl_step (by simpa using hl) (by decide)) ?_
  refine xs (pl_step (by simpa using hl) (by decide)) ?_
  have ecm : (List.map (rp 41 45) (List.map (rp 40 45) (List.map (rp 34 45) (List.map (rp 59 45) (List.map (rp 58 45) (List.map (rp 92 45) (List.map (rp 47 45) (List.map (rp 32 95) l)))))))) = l.map cm := by
    simp only [List.map_map]
    rfl
  rw [ecm]
  have hl2 : (l.map cm).length ≤ 1000 := by simpa using hl
  refine xs (V' := [.val (.tup [.str l]), .val (.str (l.map cm)), .none]) ?_ ?_
  · have e := repl_none (l := l.map cm) (y := [117, 110, 107, 110, 111, 119, 110]) (z := []) (c := 117) rfl hu2
    have := yrepl (Φ := Φ0) (V := [.val (.tup [.str l]), .val (.str (l.map cm)), .none]) (a := .var 1) (x := l.map cm) (y := [117, 110, 107, 110, 111, 119, 110]) (z := []) (yvar rfl) (by simp only [List.length_nil]; lia) (by decide)
    rw [e] at this
    exact xset this rfl rfl
  have hl3 : (plat l).length ≤ 1000 := Nat.le_trans (col_len _) hl2
  refine xs (xwhl (ex_plA (n := 998) hl2 (JK.val _) JK.none hc hl3)) ?_
  refine xs (xwhl (ex_plB (n := 999) hl3 h3)) ?_
  exact xs_ret (xret (yvar rfl))
theorem rp_117 {a b k : Nat} (hb : b ≠ 117) (h : rp a b k = 117) : k = 117 := by
  unfold rp at h
  split at h
  · exact absurd h hb
  · exact h
theorem cm_117 {k : Nat} (h : cm k = 117) : k = 117 := rp_117 (by decide) (rp_117 (by decide) (rp_117 (by decide) (rp_117 (by decide) (rp_117 (by decide) (rp_117 (by decide) (rp_117 (by decide) (rp_117 (by decide) h)))))))
theorem platform_run {l : List Nat} (hl : l.length ≤ 1000) (h1 : l.head? = some 120) (h2 : l.getLast? = some 120) (hu : 117 ∉ l) (hc : col (plat l) = plat l) (h3 : (plat l).getLast? = some 120) : Φ1 0 [.str l] = some (.str (plat l)) := by
  show (if strsOnly [.str l] = true then run Φ0 hP c_platform n_platform [.tup [.str l]] else none) = _
  rw [if_pos (show strsOnly [.str l] = true from rfl)]
  have hne : l.isEmpty = false := by
    cases l with
    | nil => simp at h1
    | cons x r => rfl
  have hu2 : 117 ∉ l.map cm := by
    intro hm
    obtain ⟨k, hk, e⟩ := List.mem_map.mp hm
    exact hu (cm_117 e ▸ hk)
  have key := pl_key hl hne (strip_same h1 h2) hu2 hc h3
  exact bq key rfl
end Mine
end TP3
section TP4
open PySem PySem.W PyProof.Rows PySem.Calls
set_option maxRecDepth 100000
namespace Mine

/-! _translate -/
noncomputable abbrev jT : CE := .an (.cmp .Lt (.var 8) (.var 6)) (.cmp .NotEq (.idx (.var 0) (.var 8)) (.str [93]))
noncomputable abbrev jB : CS := .sq (.set 8 (.bin .Add (.var 8) (.int 1))) <| .sk
noncomputable abbrev dB : CS := .sq (.set 11 (.find (.var 0) (.cons (.str [45]) (.cons (.var 11) (.cons (.var 8) .nil))))) <|
  .sq (.ifs (.cmp .Lt (.var 11) (.int 0)) (.sq (.brk) <| .sk) (.sk)) <|
  .sq (.app 10 (.sl (.var 0) (.var 5) (.var 11))) <|
  .sq (.set 5 (.bin .Add (.var 11) (.int 1))) <|
  .sq (.set 11 (.bin .Add (.var 11) (.int 3))) <| .sk
noncomputable abbrev gB : CS := .sq (.ifs (.cmp .Gt (.idx (.midx 10 (.bin .Sub (.var 11) (.int 1))) (.neg (.int 1))) (.idx (.midx 10 (.var 11)) (.int 0))) (.stuck) (.sk)) <| .sk
noncomputable abbrev brD : CS := .sq (.newl 10 .nil) <|
  .sq (.set 11 (.ite (.cmp .Eq (.idx (.var 0) (.var 5)) (.str [33])) (.bin .Add (.var 5) (.int 2)) (.bin .Add (.var 5) (.int 1)))) <|
  .sq (.whl (.tv (.bool true)) dB) <|
  .sq (.set 12 (.sl (.var 0) (.var 5) (.var 8))) <|
  .sq (.ifs (.tv (.var 12)) (.sq (.app 10 (.var 12)) <| .sk) (.sq (.augl 10 [45]) <| .sk)) <|
  .sq (.frd 11 (.bin .Sub (.mlen 10) (.int 1)) gB) <|
  .gh (.frz 10) <| .sq (.hook 0) <| .sk
noncomputable abbrev brF : CS := .sq (.ifs (.cmp .Eq (.idx (.var 9) (.int 0)) (.str [33])) (.sq (.set 9 (.bin .Add (.str [94]) (.sl (.var 9) (.int 1) .no))) <|
  .sk) (.sq (.ifs (.cmp .In (.idx (.var 9) (.int 0)) (.tup (.cons (.str [94]) (.cons (.str [91]) .nil)))) (.sq (.set 9 (.bin .Add (.str [92]) (.var 9))) <|
  .sk) (.sk)) <|
  .sk)) <|
  .sq (.addc 4 3 (.js (.cons (.str [91]) (.cons (.fmt (.var 9)) (.cons (.str [93]) .nil))))) <|
  .sk
noncomputable abbrev brC : CS := .sq (.set 9 (.sl (.var 0) (.var 5) (.var 8))) <|
  .sq (.ifs (.cmp .NotIn (.str [45]) (.var 9)) (.sq (.set 9 (.repl (.var 9) [92] [92, 92])) <| .sk) brD) <|
  .sq (.hook 1) <|
  .sq (.set 5 (.bin .Add (.var 8) (.int 1))) <|
  .sq (.ifs (.nt (.tv (.var 9))) (.sq (.addc 4 3 (.str [40, 63, 33, 41])) <|
  .sk) (.sq (.ifs (.cmp .Eq (.var 9) (.str [33])) (.sq (.addc 4 3 (.str [46])) <|
  .sk) brF) <|
  .sk)) <|
  .sk
noncomputable abbrev brB : CS := .sq (.set 8 (.var 5)) <|
  .sq (.ifs (.an (.cmp .Lt (.var 8) (.var 6)) (.cmp .Eq (.idx (.var 0) (.var 8)) (.str [33]))) (.sq (.set 8 (.bin .Add (.var 8) (.int 1))) <|
  .sk) (.sk)) <|
  .sq (.ifs (.an (.cmp .Lt (.var 8) (.var 6)) (.cmp .Eq (.idx (.var 0) (.var 8)) (.str [93]))) (.sq (.set 8 (.bin .Add (.var 8) (.int 1))) <|
  .sk) (.sk)) <|
  .sq (.whl jT jB) <|
  .sq (.ifs (.cmp .GtE (.var 8) (.var 6)) (.sq (.addc 4 3 (.str [92, 91])) <| .sk) brC) <|
  .sk
noncomputable abbrev trT : CE := .cmp .Lt (.var 5) (.var 6)
noncomputable abbrev trX : CS := .sq (.set 7 (.idx (.var 0) (.var 5))) <|
  .sq (.set 5 (.bin .Add (.var 5) (.int 1))) <|
  .sq (.ifs (.cmp .Eq (.var 7) (.str [42])) (.sq (.ifs (.orr (.nt (.mtv 3)) (.cmp .IsNot (.midx 3 (.neg (.int 1))) (.var 1))) (.sq (.addc 4 3 (.var 1)) <|
  .sk) (.sk)) <|
  .sk) (.sq (.ifs (.cmp .Eq (.var 7) (.str [63])) (.sq (.addc 4 3 (.var 2)) <|
  .sk) (.sq (.ifs (.cmp .Eq (.var 7) (.str [91])) brB (.sq (.addc 4 3 (.cal 4 (.cons (.var 7) .nil))) <|
  .sk)) <|
  .sk)) <|
  .sk)) <|
  .sk
theorem c_tr2 : c_translate =
  (.sq (.newl 3 .nil) <| .sq (.adda 4 3) <| .sq (.set2 5 6 (.tup (.cons (.int 0) (.cons (.len (.var 0)) .nil)))) <|
  .sq (.whl trT trX) <| .sq (.asr (.cmp .Eq (.var 5) (.var 6))) <| .gh (.drop 4) <| .gh (.frz 3) <| .sq (.ret (.var 3)) <| .sk) := rfl

/-- the state in the loop -/
noncomputable def TV (p : List Nat) (res : List D) (i : Int) (c j s ch k ck : CB) : List CB :=
  [.val (.str p), .val .star, .val (.str [46]), .mu res, .app 3, .val (.int i), .val (.int p.length), c, j, s, ch, k, ck]
structure JK6 (c j s ch k ck : CB) : Prop where
  c : JK c
  j : JK j
  s : JK s
  ch : JK ch
  k : JK k
  ck : JK ck
theorem TV.na {p : List Nat} {res : List D} {i : Int} {c j s ch k ck : CB} (h : JK6 c j s ch k ck) {x : Nat} (hx : (3 != x) = true) : noApp (TV p res i c j s ch k ck) x = true :=
  na_cons rfl <| na_cons rfl <| na_cons rfl <| na_cons rfl <| na_cons hx <| na_cons rfl <| na_cons rfl <| na_cons (h.c _) <| na_cons (h.j _) <| na_cons (h.s _) <| na_cons (h.ch _) <| na_cons (h.k _) <| na_cons (h.ck _) rfl

theorem drop_cons {α : Type} {p : List α} {i : Nat} {c : α} {r : List α} (h : p.drop i = c :: r) : i < p.length ∧ p[i]? = some c ∧ p.drop (i + 1) = r := by
  have hlt : i < p.length := by
    by_cases q : i < p.length
    · exact q
    · rw [List.drop_eq_nil_of_le (by lia)] at h; cases h
  refine ⟨hlt, ?_, ?_⟩
  · have := congrArg List.head? h
    simpa using this
  · have := congrArg List.tail h
    simpa using this
theorem idx_at {p : List Nat} {i c : Nat} (hp : p.length ≤ 1000) (h : p[i]? = some c) : idxD (.str p) (i : Int) = some (.str [c]) := by
  have hlt : i < p.length := (List.getElem?_eq_some_iff.mp h).1
  have e : pick p (i : Int) = some c := pick_nat h (by lia)
  have e2 : idxD (.str p) (i : Int) = (pick p (i : Int)).map fun c => .str [c] := rfl
  rw [e2, e]; rfl

theorem lt_t {i n : Nat} (h : i < n) : cmpD .Lt (.int (i : Int)) (.int (n : Int)) = some true := by
  have : decide ((i : Int) < (n : Int)) = true := decide_eq_true (by lia)
  exact congrArg some this
theorem lt_f {i n : Nat} (h : ¬ i < n) : cmpD .Lt (.int (i : Int)) (.int (n : Int)) = some false := by
  have : decide ((i : Int) < (n : Int)) = false := decide_eq_false (by lia)
  exact congrArg some this
theorem ge_f {i n : Nat} (h : i < n) : cmpD .GtE (.int (i : Int)) (.int (n : Int)) = some false := by
  have : decide ((i : Int) ≥ (n : Int)) = false := decide_eq_false (by lia)
  exact congrArg some this
theorem eq_t {a : List Nat} : cmpD .Eq (.str a) (.str a) = some true := by
  have : (a == a) = true := by simp
  exact congrArg some this
theorem eq_f {a b : List Nat} (h : a ≠ b) : cmpD .Eq (.str a) (.str b) = some false := by
  have : (a == b) = false := by simpa using h
  exact congrArg some this
theorem ne_f {a : List Nat} : cmpD .NotEq (.str a) (.str a) = some false := by
  have : (a != a) = false := by simp
  exact congrArg some this
theorem ne_t {a b : List Nat} (h : a ≠ b) : cmpD .NotEq (.str a) (.str b) = some true := by
  have : (a != b) = true := by simpa using h
  exact congrArg some this

section
variable {H : Nat → List CB → Option (List CB)} {F : Nat}
theorem j_loop {p : List Nat} {res : List D} {i : Int} {c s ch k ck : CB} (hp : p.length ≤ 1000) (hk : JK6 c .none s ch k ck) : ∀ (u : List Nat) (j n : Nat) (rest : List Nat), p.drop j = u ++ 93 :: rest → 93 ∉ u →
    whl Φ1 H F jT jB (n + u.length + 1) (TV p res i c (.val (.int j)) s ch k ck) = some (.next, TV p res i c (.val (.int (j + u.length : Nat))) s ch k ck)
  | [], j, n, rest, h, _ => by
    obtain ⟨h1, h2, h3⟩ := drop_cons h
    exact wf (yant (ycmp (yvar rfl) (yvar rfl) (lt_t h1)) (ycmp (yidx (yvar rfl) (yvar rfl) (idx_at hp h2)) rfl ne_f))
  | a :: u, j, n, rest, h, hn => by
    obtain ⟨h1, h2, h3⟩ := drop_cons h
    have ha : a ≠ 93 := fun e => hn (e ▸ List.mem_cons_self ..)
    have ih := j_loop (i := i) (res := res) hp hk u (j + 1) n rest h3 fun m => hn (List.mem_cons_of_mem _ m)
    rw [show j + 1 + u.length = j + (a :: u).length by simp; lia] at ih
    refine wt (V' := TV p res i c (.val (.int (j + 1 : Nat))) s ch k ck) (yant (ycmp (yvar rfl) (yvar rfl) (lt_t h1)) (ycmp (yidx (yvar rfl) (yvar rfl) (idx_at hp h2)) rfl (ne_t (by simpa using ha)))) ?_ ih
    · exact xs (xset (ybin (yvar rfl) rfl rfl) (TV.na ⟨hk.c, JK.val _, hk.s, hk.ch, hk.k, hk.ck⟩ rfl) rfl) xsk
end
end Mine
end TP4
section TP5
open PySem PySem.W PyProof.Rows PySem.Calls
set_option maxRecDepth 100000
namespace Mine

theorem xaugl {Φ : Fn} {H : Nat → List CB → Option (List CB)} {F : Nat} {V V' : List CB} {k : Nat} {q p : List Nat} {l : List D} (h1 : gm V k = some l) (h2 : l.getLast? = some (.str p)) (hf : p.length + q.length ≤ 16777216) (e' : V.set k (.mu (l.set (l.length - 1) (.str (p ++ q)))) = V') :
    ex Φ H F (.augl k q) V = some (.next, V') := by
  exact gx (bq h1 (bq (bq h2 rfl) ((if_pos hf).trans (congrArg some e'))))
theorem ynegi {Φ : Fn} {V : List CB} {a : CE} {i : Int} (h : ev Φ a V = some (.int i)) : ev Φ (.neg a) V = some (.int (-i)) := by
  exact bq h rfl

/-! the dash's chunks -/
noncomputable def cutDash (r : List Nat) : Option (List Nat × List Nat) := if 45 ∈ r then some (r.takeWhile (· != 45), (r.dropWhile (· != 45)).drop 1) else none
theorem cutDash_none {r : List Nat} (h : cutDash r = none) : 45 ∉ r := by
  unfold cutDash at h
  split at h
  · cases h
  · assumption
theorem cutDash_some {r x y : List Nat} (h : cutDash r = some (x, y)) : r = x ++ 45 :: y ∧ 45 ∉ x := by
  unfold cutDash at h
  split at h
  case isFalse => cases h
  rename_i hm
  cases h
  have key : ∀ r : List Nat, 45 ∈ r → r = r.takeWhile (· != 45) ++ 45 :: (r.dropWhile (· != 45)).drop 1 ∧ 45 ∉ r.takeWhile (· != 45) := by
    intro r
    induction r with
    | nil => intro h; cases h
    | cons a r ih =>
      intro h
      by_cases q : a = 45
      · subst q; simp
      · have hr : 45 ∈ r := by
          rcases List.mem_cons.mp h with e | e
          · exact absurd e.symm q
          · exact e
        obtain ⟨i1, i2⟩ := ih hr
        have qb : (a != 45) = true := by simpa using q
        rw [List.takeWhile_cons_of_pos (p := (· != 45)) qb, List.dropWhile_cons_of_pos (p := (· != 45)) qb]
        refine ⟨congrArg (a :: ·) i1, fun m => ?_⟩
        rcases List.mem_cons.mp m with e | e
        · exact q e.symm
        · exact i2 e
  exact key r hm
noncomputable def chunksOf : List Nat → List (List Nat)
  | [] => []
  | a :: r => match cutDash r with
    | none => [a :: r]
    | some (x, []) => [a :: x ++ [45]]
    | some (x, b :: y) => [a :: x, b :: y]
/-- what _translate makes of a set's text -/
noncomputable def stf (st : List Nat) : List Nat := if 45 ∈ st then joinL [45] ((chunksOf st).map chk) else replL st [92] [92, 92]
noncomputable def dashOk : List Nat → Bool
  | [] => false
  | a :: r => match cutDash r with
    | none => true
    | some (x, y) => decide (y.length ≤ 1) && match y with
      | [] => true
      | b :: _ => !decide ([b] < [((a :: x).getLast?).getD 0])
noncomputable def headOk (l : List Nat) : Bool := match l with
  | [] => false
  | a :: _ => a != 33 && a != 94 && a != 91
/-- a set's text that is served -/
noncomputable def stOk (st : List Nat) : Bool := decide (st.length ≤ 10) && (match st with | [] => false | a :: _ => a != 33) && !st.contains 93 && dashOk st && chkOk (chunksOf st) && subOk (stf st) && headOk (stf st)

theorem drop_get {α : Type} {p l : List α} {i k : Nat} (h : p.drop i = l) : p[i + k]? = l[k]? := by
  rw [← h, List.getElem?_drop]
theorem drop_slice {p u r : List Nat} {i : Nat} (hi : i ≤ p.length) (h : p.drop i = u ++ r) : i + u.length ≤ p.length ∧ (p.drop i).take (i + u.length - i) = u := by
  have hl := congrArg List.length h
  simp at hl
  refine ⟨by lia, ?_⟩
  rw [h, show i + u.length - i = u.length by lia]
  simp
theorem sl_at {p u r : List Nat} {i j : Nat} (hp : p.length ≤ 1000) (hi : i ≤ p.length) (h : p.drop i = u ++ r) (hj : j = i + u.length) : sliceD (.str p) (some (i : Int)) (some (j : Int)) = some (.str u) := by
  obtain ⟨h1, h2⟩ := drop_slice hi h
  have e : sliceD (.str p) (some (i : Int)) (some (j : Int)) = if fit p = true then some (.str (cut p (some (i : Int)) (some (j : Int)))) else none := rfl
  rw [e, if_pos (fit_iff.mpr (by lia)), cut_nat hi (by lia), hj, h2]

noncomputable abbrev JK3 (ch k ck : CB) : Prop := JK ch ∧ JK k ∧ JK ck
section
variable {p : List Nat} {res : List D} {c ch k ck : CB}

/-- the loop that cuts at dashes -/
theorem d_loop {i j n a : Nat} {r rest st : List Nat} {s : CB} (hp : p.length ≤ 1000) (hc : JK c) (hs : JK s) (hck : JK ck) (hi : i ≤ p.length) (hd : p.drop i = a :: r ++ 93 :: rest) (hj : j = i + (a :: r).length) (ho : dashOk (a :: r) = true) :
    ∃ (chs : List D) (i' : Nat) (x : Int) (u : List Nat), whl Φ1 hT FU (.tv (.bool true)) dB (n + 2) (TV p res i c (.val (.int j)) s (.mu []) (.val (.int (i + 1 : Nat))) ck) = some (.next, TV p res i' c (.val (.int j)) s (.mu chs) (.val (.int x)) ck) ∧
      i' ≤ p.length ∧ p.drop i' = u ++ 93 :: rest ∧ j = i' + u.length ∧ chs.length ≤ 1 ∧
      ((chs = [] ∧ u = a :: r ∧ chunksOf (a :: r) = [a :: r]) ∨ (∃ v, chs = [.str v] ∧ ((u = [] ∧ chunksOf (a :: r) = [v ++ [45]] ∧ v.length ≤ 1000) ∨ (u ≠ [] ∧ chunksOf (a :: r) = [v, u] ∧ ∃ l b w, v.getLast? = some l ∧ u = b :: w ∧ decide ([b] < [l]) = false)))) := by
  obtain ⟨h1, h2, h3⟩ := drop_cons hd
  have hlen := congrArg List.length hd
  simp at hlen
  have hjl : j ≤ p.length := by rw [hj]; simp; lia
  have na : ∀ {x : Nat} {i0 : Int} {chs : List D} {y : D}, (3 != x) = true → noApp (TV p res i0 c (.val (.int j)) s (.mu chs) (.val y) ck) x = true := fun hx => TV.na ⟨hc, JK.val _, hs, JK.mu _, JK.val _, hck⟩ hx
  have stopAt : ∀ {i0 : Int} {chs : List D} {m : Nat} {N : Nat}, findL p [45] (m : Int) (j : Int) = -1 → whl Φ1 hT FU (.tv (.bool true)) dB (N + 1) (TV p res i0 c (.val (.int j)) s (.mu chs) (.val (.int m)) ck) = some (.next, TV p res i0 c (.val (.int j)) s (.mu chs) (.val (.int (-1))) ck) := fun {i0 chs m N} hf => by
    refine wb (ytv rfl rfl) ?_
    have e := yfind (Φ := Φ1) (V := TV p res i0 c (.val (.int j)) s (.mu chs) (.val (.int m)) ck) (a := .var 0) (l := .cons (.str [45]) (.cons (.var 11) (.cons (.var 8) .nil))) (x := p) (y := [45]) (i := m) (j := j) (yvar rfl) (ycons rfl (ycons (yvar rfl) (ycons (yvar rfl) ynil)))
    rw [hf] at e
    refine xs (V' := TV p res i0 c (.val (.int j)) s (.mu chs) (.val (.int (-1))) ck) (xset e (na rfl) rfl) ?_
    exact xs_brk (xift (ycmp (yvar rfl) rfl rfl) (xs_brk xbrk))
  unfold dashOk at ho
  dsimp only at ho
  cases hcd : cutDash r with
  | none =>
    have hn := cutDash_none hcd
    refine ⟨[], i, -1, a :: r, stopAt (m := i + 1) (N := n + 1) ?_, hi, hd, hj, by simp, .inl ⟨rfl, rfl, by unfold chunksOf; dsimp only; rw [hcd]⟩⟩
    refine find_no hjl fun q hq1 hq2 hq => hn ?_
    have e := drop_get (k := q - (i + 1)) h3
    rw [show i + 1 + (q - (i + 1)) = q by lia, hq] at e
    rw [List.append_eq, List.getElem?_append_left (by rw [hj] at hq2; simp at hq2; lia)] at e
    exact List.mem_of_getElem? e.symm
  | some xy =>
    obtain ⟨x, y⟩ := xy
    obtain ⟨hr, hx⟩ := cutDash_some hcd
    rw [hcd] at ho
    dsimp only at ho
    rw [Bool.and_eq_true, decide_eq_true_eq] at ho
    obtain ⟨hy, ho⟩ := ho
    have hjx : j = i + 1 + x.length + 1 + y.length := by rw [hj, hr]; simp; lia
    have hf : findL p [45] ((i + 1 : Nat) : Int) (j : Int) = ((i + 1 + x.length : Nat) : Int) := by
      refine find_at hjl (by lia) (by lia) ?_ fun q hq1 hq2 hq => hx ?_
      · have e := drop_get (k := x.length) h3
        rw [e, hr]; simp
      · have e := drop_get (k := q - (i + 1)) h3
        rw [show i + 1 + (q - (i + 1)) = q by lia, hq, hr] at e
        rw [List.append_eq, List.append_assoc, List.getElem?_append_left (by lia)] at e
        exact List.mem_of_getElem? e.symm
    have e := yfind (Φ := Φ1) (V := TV p res i c (.val (.int j)) s (.mu []) (.val (.int (i + 1 : Nat))) ck) (a := .var 0) (l := .cons (.str [45]) (.cons (.var 11) (.cons (.var 8) .nil))) (x := p) (y := [45]) (i := (i + 1 : Nat)) (j := j) (yvar rfl) (ycons rfl (ycons (yvar rfl) (ycons (yvar rfl) ynil)))
    rw [hf] at e
    have hd2 : p.drop i = (a :: x) ++ (45 :: y ++ 93 :: rest) := by rw [hd, hr]; simp
    have hd3 : p.drop (i + 1 + x.length + 1) = y ++ 93 :: rest := by
      have : p.drop (i + (1 + x.length + 1)) = (p.drop i).drop (1 + x.length + 1) := by rw [List.drop_drop]
      rw [show i + 1 + x.length + 1 = i + (1 + x.length + 1) by lia, this, hd2]
      rw [show (a :: x) ++ (45 :: y ++ 93 :: rest) = (a :: x ++ [45]) ++ (y ++ 93 :: rest) by simp]
      rw [List.drop_left' (by simp; lia)]
    refine ⟨[.str (a :: x)], i + 1 + x.length + 1, -1, y, ?_, by lia, hd3, by lia, by simp, .inr ⟨a :: x, rfl, ?_⟩⟩
    · refine wt (V' := TV p res (i + 1 + x.length + 1 : Nat) c (.val (.int j)) s (.mu [.str (a :: x)]) (.val (.int (i + 1 + x.length + 3 : Nat))) ck) (ytv rfl rfl) ?_ (stopAt (m := i + 1 + x.length + 3) (N := n) (find_no hjl fun q hq1 hq2 => by lia))
      refine xs (V' := TV p res i c (.val (.int j)) s (.mu []) (.val (.int (i + 1 + x.length : Nat))) ck) (xset e (na rfl) rfl) ?_
      refine xs (xiff (ycmp (yvar rfl) rfl (lt_f (n := 0) (by lia))) xsk) ?_
      refine xs (V' := TV p res i c (.val (.int j)) s (.mu [.str (a :: x)]) (.val (.int (i + 1 + x.length : Nat))) ck) (xapp (ds := []) rfl (by simp) (ysl (yvar rfl) (l := some (i : Int)) rfl (h := some ((i + 1 + x.length : Nat) : Int)) rfl (sl_at hp hi hd2 (by simp; lia))) rfl) ?_
      refine xs (V' := TV p res (i + 1 + x.length + 1 : Nat) c (.val (.int j)) s (.mu [.str (a :: x)]) (.val (.int (i + 1 + x.length : Nat))) ck) (xset (ybin (yvar rfl) rfl rfl) (na rfl) rfl) ?_
      exact xs (xset (ybin (yvar rfl) rfl rfl) (na rfl) rfl) xsk
    · have hxl : x.length ≤ 1000 - 1 := by lia
      match y, hy, ho with
      | [], _, _ => exact .inl ⟨rfl, by unfold chunksOf; dsimp only; rw [hcd], by simp; lia⟩
      | b :: w, _, ho =>
        refine .inr ⟨by simp, by unfold chunksOf; dsimp only; rw [hcd], ?_⟩
        rw [Bool.not_eq_true'] at ho
        have hne : (a :: x) ≠ [] := by simp
        refine ⟨(a :: x).getLast hne, b, w, List.getLast?_eq_some_getLast hne, rfl, ?_⟩
        have := ho
        rw [List.getLast?_eq_some_getLast hne] at this
        exact this
end
end Mine
end TP5
section TP6
open PySem PySem.W PyProof.Rows PySem.Calls
set_option maxRecDepth 100000
namespace Mine

theorem jT_tv {l : List Nat} (h : l.length ≤ 1000) : truthD (.str l) = some (!l.isEmpty) := by
  show (if fit l = true then some (!l.isEmpty) else none) = _
  rw [if_pos (fit_iff.mpr (by omega))]
theorem hk_gen {V : List CB} {ds : List D} {xs : List (List Nat)} (h1 : gv V 10 = some (.lst ds)) (h2 : strsD ds = some xs) (h3 : chkOk xs = true) (hn : noApp V 9 = true) {V' : List CB} (e : V.set 9 (.val (.str (joinL [45] (xs.map chk)))) = V') : hT 0 V = some V' := by
  show hkGen V = _
  unfold hkGen
  rw [h1, Option.bind_some, show asL (.lst ds) = some ds from rfl, Option.bind_some, h2, Option.bind_some, if_pos h3, setV_of hn e]
theorem hk_sub {V : List CB} {x : List Nat} (h1 : gv V 9 = some (.str x)) (h3 : subOk x = true) (hn : noApp V 9 = true) {V' : List CB} (e : V.set 9 (.val (.str x)) = V') : hT 1 V = some V' := by
  show hkSub V = _
  unfold hkSub
  rw [h1, Option.bind_some]
  dsimp only
  rw [if_pos h3, setV_of hn e]

section
variable {p : List Nat} {res : List D} {c ch k ck : CB}
/-- a set with a dash -/
theorem ex_brD {i j a : Nat} {r rest : List Nat} {s : CB} (hp : p.length ≤ 1000) (hk : JK6 c .none s ch k ck) (hi : i ≤ p.length) (hd : p.drop i = a :: r ++ 93 :: rest) (hj : j = i + (a :: r).length) (ha : a ≠ 33) (ho : dashOk (a :: r) = true) (hck : chkOk (chunksOf (a :: r)) = true) :
    ∃ (i' : Int) (ds : List D) (x : Int) (u : List Nat), ex Φ1 hT FU brD (TV p res i c (.val (.int j)) s ch k ck) = some (.next, TV p res i' c (.val (.int j)) (.val (.str (joinL [45] ((chunksOf (a :: r)).map chk)))) (.val (.lst ds)) (.val (.int x)) (.val (.str u))) := by
  obtain ⟨h1, h2, h3⟩ := drop_cons hd
  obtain ⟨chs, i', x, u, hw, hi', hd', hj', hcl, hcase⟩ := d_loop (p := p) (res := res) (c := c) (ck := ck) (n := 998) (st := []) hp hk.c hk.s hk.ck hi hd hj ho
  have hul : u.length ≤ 1000 := by
    have := congrArg List.length hd'
    simp at this
    omega
  have na : ∀ {z : Nat} {i0 : Int} {s c1 c2 c3 : CB}, JK s → JK c1 → JK c2 → JK c3 → (3 != z) = true → noApp (TV p res i0 c (.val (.int j)) s c1 c2 c3) z = true := fun hs h1 h2 h3 hx => TV.na ⟨hk.c, JK.val _, hs, h1, h2, h3⟩ hx
  -- the end: from the chunks on
  have fin : ∀ (all : List D) (ys : List (List Nat)), strsD all = some ys → chkOk ys = true → (∀ (i0 x0 : Int), ∃ x1 : Int, ex Φ1 hT FU (.frd 11 (.bin .Sub (.mlen 10) (.int 1)) gB) (TV p res i0 c (.val (.int j)) s (.mu all) (.val (.int x0)) (.val (.str u))) = some (.next, TV p res i0 c (.val (.int j)) s (.mu all) (.val (.int x1)) (.val (.str u)))) →
      ∀ i0 x0 : Int, ∃ x1 : Int, ex Φ1 hT FU (.sq (.frd 11 (.bin .Sub (.mlen 10) (.int 1)) gB) <| .gh (.frz 10) <| .sq (.hook 0) <| .sk) (TV p res i0 c (.val (.int j)) s (.mu all) (.val (.int x0)) (.val (.str u))) =
        some (.next, TV p res i0 c (.val (.int j)) (.val (.str (joinL [45] (ys.map chk)))) (.val (.lst all)) (.val (.int x1)) (.val (.str u))) := fun all ys hs hx hf i0 x0 => by
    obtain ⟨x1, e⟩ := hf i0 x0
    refine ⟨x1, ?_⟩
    refine xs e ?_
    refine xg (V' := TV p res i0 c (.val (.int j)) s (.val (.lst all)) (.val (.int x1)) (.val (.str u))) (xfrz rfl (na hk.s (JK.mu _) (JK.val _) (JK.val _) rfl) rfl) ?_
    exact xs (V' := TV p res i0 c (.val (.int j)) (.val (.str (joinL [45] (ys.map chk)))) (.val (.lst all)) (.val (.int x1)) (.val (.str u))) (xhook (hk_gen rfl hs hx (na hk.s (JK.val _) (JK.val _) (JK.val _) rfl) rfl)) xsk
  -- the start
  have start : ∀ {V' : List CB}, ex Φ1 hT FU (.sq (.ifs (.tv (.var 12)) (.sq (.app 10 (.var 12)) <| .sk) (.sq (.augl 10 [45]) <| .sk)) <| .sq (.frd 11 (.bin .Sub (.mlen 10) (.int 1)) gB) <| .gh (.frz 10) <| .sq (.hook 0) <| .sk)
      (TV p res i' c (.val (.int j)) s (.mu chs) (.val (.int x)) (.val (.str u))) = some (.next, V') → ex Φ1 hT FU brD (TV p res i c (.val (.int j)) s ch k ck) = some (.next, V') := fun {V'} h => by
    refine xs (V' := TV p res i c (.val (.int j)) s (.mu []) k ck) (xnewl ynil (by simp) (na hk.s hk.ch hk.k hk.ck rfl) rfl) ?_
    refine xs (V' := TV p res i c (.val (.int j)) s (.mu []) (.val (.int (i + 1 : Nat))) ck) (xset (yitef (ycmp (yidx (yvar rfl) (yvar rfl) (idx_at hp h2)) rfl (eq_f (by simpa using ha))) (ybin (yvar rfl) rfl rfl)) (na hk.s (JK.mu _) hk.k hk.ck rfl) rfl) ?_
    refine xs (xwhl hw) ?_
    refine xs (V' := TV p res i' c (.val (.int j)) s (.mu chs) (.val (.int x)) (.val (.str u))) (xset (ysl (yvar rfl) (l := some (i' : Int)) rfl (h := some (j : Int)) rfl (sl_at hp hi' hd' hj')) (na hk.s (JK.mu _) (JK.val _) hk.ck rfl) rfl) ?_
    exact h
  have one : ∀ {e : D} {i0 x0 : Int}, ∃ x1 : Int, ex Φ1 hT FU (.frd 11 (.bin .Sub (.mlen 10) (.int 1)) gB) (TV p res i0 c (.val (.int j)) s (.mu [e]) (.val (.int x0)) (.val (.str u))) = some (.next, TV p res i0 c (.val (.int j)) s (.mu [e]) (.val (.int x1)) (.val (.str u))) :=
    fun {e i0 x0} => ⟨x0, xfrd (d := .int 0) (ds := []) (ybin (ymlen rfl (by simp)) rfl rfl) rfl fn⟩
  rcases hcase with ⟨rfl, hu, hcs⟩ | ⟨v, rfl, hc2⟩
  · have hne : u.isEmpty = false := by rw [hu]; rfl
    obtain ⟨x1, e⟩ := fin [.str u] [u] rfl (by rw [hu, ← hcs]; exact hck) (fun _ _ => one) i' x
    refine ⟨i', [.str u], x1, u, start ?_⟩
    rw [hcs, ← hu]
    exact xs (xift (ytv (yvar rfl) (by rw [jT_tv hul, hne]; rfl)) (xs (xapp rfl (by simp) (yvar rfl) rfl) xsk)) e
  · rcases hc2 with ⟨hu, hcs, hvl⟩ | ⟨hu, hcs, l, b, w, hv, hub, hlt⟩
    · subst hu
      obtain ⟨x1, e⟩ := fin [.str (v ++ [45])] [v ++ [45]] rfl (by rw [← hcs]; exact hck) (fun _ _ => one) i' x
      refine ⟨i', [.str (v ++ [45])], x1, [], start ?_⟩
      rw [hcs]
      exact xs (xiff (ytv (yvar rfl) rfl) (xs (xaugl rfl rfl (by simp; omega) rfl) xsk)) e
    · have hne : u.isEmpty = false := by rw [hub]; rfl
      have two : ∀ {i0 x0 : Int}, ∃ x1 : Int, ex Φ1 hT FU (.frd 11 (.bin .Sub (.mlen 10) (.int 1)) gB) (TV p res i0 c (.val (.int j)) s (.mu [.str v, .str u]) (.val (.int x0)) (.val (.str u))) = some (.next, TV p res i0 c (.val (.int j)) s (.mu [.str v, .str u]) (.val (.int x1)) (.val (.str u))) := fun {i0 x0} => by
        refine ⟨1, xfrd (d := .int 1) (ds := [.int 1]) (ybin (ymlen rfl (by simp)) rfl rfl) rfl ?_⟩
        refine fc (V1 := TV p res i0 c (.val (.int j)) s (.mu [.str v, .str u]) (.val (.int 1)) (.val (.str u))) (setV_of (na hk.s (JK.mu _) (JK.val _) (JK.val _) rfl) rfl) ?_ fn
        refine xs (xiff (ycmp (x := .str [l]) (y := .str [b]) (yidx (d := .str v) (j := -1) (ymidx (j := 0) (d := .str v) rfl (ybin (yvar rfl) rfl rfl) rfl) rfl ?_) (yidx (d := .str u) (j := 0) (ymidx (j := 1) (d := .str u) rfl (yvar rfl) rfl) rfl ?_) ?_) xsk) xsk
        · show (pick v (-1)).map (fun c => D.str [c]) = some (D.str [l])
          rw [pick_last hv]; rfl
        · rw [hub]; rfl
        · exact congrArg some hlt
      obtain ⟨x1, e⟩ := fin [.str v, .str u] [v, u] rfl (by rw [← hcs]; exact hck) (fun _ _ => two) i' x
      refine ⟨i', [.str v, .str u], x1, u, start ?_⟩
      rw [hcs]
      exact xs (xift (ytv (yvar rfl) (by rw [jT_tv hul, hne]; rfl)) (xs (xapp rfl (by simp) (yvar rfl) rfl) xsk)) e
end
end Mine
end TP6
section TP7
open PySem PySem.W PyProof.Rows PySem.Calls
set_option maxRecDepth 100000
namespace Mine

/-! a pattern's atoms -/
set_option genCtorIdx true in
set_option genInjectivity true in
inductive Atom where
  | ch (c : Nat) | any | star | set (st : List Nat)
noncomputable def Atom.rend : Atom → List Nat
  | .ch c => [c]
  | .any => [63]
  | .star => [42]
  | .set st => 91 :: (st ++ [93])
noncomputable def setT (st : List Nat) : List Nat := [[91], stf st, [93]].flatten
noncomputable def Atom.part : Atom → D
  | .ch c => .str (escL c)
  | .any => .str [46]
  | .star => .star
  | .set st => .str (setT st)
noncomputable def Atom.ok : Atom → Bool
  | .ch c => decide (c < 128) && c != 42 && c != 63 && c != 91
  | .any => true
  | .star => true
  | .set st => stOk st

theorem stOk_at {st : List Nat} (h : stOk st = true) : ∃ a r, st = a :: r ∧ st.length ≤ 10 ∧ a ≠ 33 ∧ 93 ∉ st ∧ dashOk st = true ∧ chkOk (chunksOf st) = true ∧ subOk (stf st) = true ∧ headOk (stf st) = true := by
  unfold stOk at h
  simp only [Bool.and_eq_true, decide_eq_true_eq, Bool.not_eq_true'] at h
  obtain ⟨⟨⟨⟨⟨⟨h1, h2⟩, h3⟩, h4⟩, h5⟩, h6⟩, h7⟩ := h
  match st, h2 with
  | a :: r, h2 =>
    refine ⟨a, r, rfl, h1, by simpa using h2, ?_, h4, h5, h6, h7⟩
    simpa using h3
theorem headOk_at {l : List Nat} (h : headOk l = true) : ∃ a r, l = a :: r ∧ a ≠ 33 ∧ a ≠ 94 ∧ a ≠ 91 := by
  unfold headOk at h
  match l, h with
  | a :: r, h =>
    simp only [Bool.and_eq_true, bne_iff_ne] at h
    exact ⟨a, r, rfl, h.1.1, h.1.2, h.2⟩
theorem subOk_len {x : List Nat} (h : subOk x = true) : x.length ≤ 1000 := by
  unfold subOk at h
  simp only [Bool.and_eq_true, decide_eq_true_eq] at h
  exact h.1.2

section
variable {p : List Nat} {res : List D} {c j s ch k ck : CB}

theorem ex_brC {i m : Nat} {st rest : List Nat} (hp : p.length ≤ 1000) (hr : res.length ≤ 1000) (hk : JK6 c .none s ch k ck) (hi : i ≤ p.length) (hd : p.drop i = st ++ 93 :: rest) (hm : m = i + st.length) (ho : stOk st = true) :
    ∃ s' ch' k' ck', JK6 c (.val (.int m)) s' ch' k' ck' ∧ ex Φ1 hT FU brC (TV p res i c (.val (.int m)) s ch k ck) = some (.next, TV p (res ++ [.str (setT st)]) (m + 1 : Nat) c (.val (.int m)) s' ch' k' ck') := by
  obtain ⟨a, r, rfl, h1, h2, h3, h4, h5, h6, h7⟩ := stOk_at ho
  have na : ∀ {z : Nat} {i0 : Int} {s c1 c2 c3 : CB}, JK s → JK c1 → JK c2 → JK c3 → (3 != z) = true → noApp (TV p res i0 c (.val (.int m)) s c1 c2 c3) z = true := fun hs h1 h2 h3 hx => TV.na ⟨hk.c, JK.val _, hs, h1, h2, h3⟩ hx
  -- the second half
  have half : ∀ (i0 : Int) (c1 c2 c3 : CB), JK c1 → JK c2 → JK c3 → ex Φ1 hT FU (.sq (.hook 1) <| .sq (.set 5 (.bin .Add (.var 8) (.int 1))) <|
      .sq (.ifs (.nt (.tv (.var 9))) (.sq (.addc 4 3 (.str [40, 63, 33, 41])) <| .sk) (.sq (.ifs (.cmp .Eq (.var 9) (.str [33])) (.sq (.addc 4 3 (.str [46])) <| .sk) brF) <| .sk)) <| .sk)
      (TV p res i0 c (.val (.int m)) (.val (.str (stf (a :: r)))) c1 c2 c3) = some (.next, TV p (res ++ [.str (setT (a :: r))]) (m + 1 : Nat) c (.val (.int m)) (.val (.str (stf (a :: r)))) c1 c2 c3) := fun i0 c1 c2 c3 j1 j2 j3 => by
    obtain ⟨b, w, hb, n1, n2, n3⟩ := headOk_at h7
    have hl := subOk_len h6
    have hne : (stf (a :: r)).isEmpty = false := by rw [hb]; rfl
    have hidx : idxD (.str (stf (a :: r))) 0 = some (.str [b]) := by rw [hb]; rfl
    refine xs (V' := TV p res i0 c (.val (.int m)) (.val (.str (stf (a :: r)))) c1 c2 c3) (xhook (hk_sub rfl h6 (na (JK.val _) j1 j2 j3 rfl) rfl)) ?_
    refine xs (V' := TV p res (m + 1 : Nat) c (.val (.int m)) (.val (.str (stf (a :: r)))) c1 c2 c3) (xset (ybin (yvar rfl) rfl rfl) (na (JK.val _) j1 j2 j3 rfl) rfl) ?_
    refine xs (xiff (ynt (c := true) (ytv (yvar rfl) (by rw [jT_tv hl, hne]; rfl))) ?_) xsk
    refine xs (xiff (ycmp (yvar rfl) rfl (eq_f (by rw [hb]; intro e; injection e with e1 e2; exact n1 e1))) ?_) xsk
    refine xs (V' := TV p res (m + 1 : Nat) c (.val (.int m)) (.val (.str (stf (a :: r)))) c1 c2 c3) (xiff (ycmp (yidx (yvar rfl) rfl hidx) rfl (eq_f (by simpa using n1))) ?_) ?_
    · refine xs (xiff (ycmp (y := .tup [.str [94], .str [91]]) (c := false) (yidx (yvar rfl) rfl hidx) rfl ?_) xsk) xsk
      show some (([94] == [b]) || (([91] == [b]) || false)) = some false
      have e1 : ([94] == [b]) = false := by simpa using fun e : 94 = b => n2 e.symm
      have e2 : ([91] == [b]) = false := by simpa using fun e : 91 = b => n3 e.symm
      rw [e1, e2]; rfl
    · refine xs (xaddc (d := .str (setT (a :: r))) rfl rfl (by lia) ?_ rfl) xsk
      exact yjs (ycons rfl (ycons (yfmt (yvar rfl) (by lia)) (ycons rfl ynil))) rfl (by simp; lia)
  have hin : cmpD .NotIn (.str [45]) (.str (a :: r)) = some !(decide (45 ∈ a :: r)) := by
    rw [← strIn1]; rfl
  have e0 : ex Φ1 hT FU (.set 9 (.sl (.var 0) (.var 5) (.var 8))) (TV p res i c (.val (.int m)) s ch k ck) = some (.next, TV p res i c (.val (.int m)) (.val (.str (a :: r))) ch k ck) :=
    xset (ysl (yvar rfl) (l := some (i : Int)) rfl (h := some (m : Int)) rfl (sl_at hp hi hd hm)) (na hk.s hk.ch hk.k hk.ck rfl) rfl
  by_cases hdash : 45 ∈ a :: r
  · obtain ⟨i', ds, x, u, e⟩ := ex_brD (res := res) (s := .val (.str (a :: r))) hp (⟨hk.c, hk.j, JK.val _, hk.ch, hk.k, hk.ck⟩ : JK6 c .none _ ch k ck) hi hd hm h2 h4 h5
    have hst : stf (a :: r) = joinL [45] ((chunksOf (a :: r)).map chk) := by unfold stf; rw [if_pos hdash]
    refine ⟨.val (.str (stf (a :: r))), .val (.lst ds), .val (.int x), .val (.str u), ⟨hk.c, JK.val _, JK.val _, JK.val _, JK.val _, JK.val _⟩, ?_⟩
    refine xs e0 ?_
    refine xs (xiff (ycmp rfl (yvar rfl) (hin.trans (by rw [decide_eq_true hdash]; rfl))) e) ?_
    rw [← hst]
    exact half _ _ _ _ (JK.val _) (JK.val _) (JK.val _)
  · have hst : stf (a :: r) = replL (a :: r) [92] [92, 92] := by unfold stf; rw [if_neg hdash]
    refine ⟨.val (.str (stf (a :: r))), ch, k, ck, ⟨hk.c, JK.val _, JK.val _, hk.ch, hk.k, hk.ck⟩, ?_⟩
    refine xs e0 ?_
    refine xs (V' := TV p res i c (.val (.int m)) (.val (.str (stf (a :: r)))) ch k ck) (xift (ycmp rfl (yvar rfl) (hin.trans (by rw [decide_eq_false hdash]; rfl))) (xs (xset (yrepl (yvar rfl) ?_ (by decide)) (na (JK.val _) hk.ch hk.k hk.ck rfl) (by rw [hst]; rfl)) xsk)) ?_
    · simp only [List.length_cons, List.length_nil] at h1 ⊢; lia
    · exact half _ _ _ _ hk.ch hk.k hk.ck

theorem ex_brB {i : Nat} {st rest : List Nat} (hp : p.length ≤ 1000) (hr : res.length ≤ 1000) (hk : JK6 c j s ch k ck) (hi : i ≤ p.length) (hd : p.drop i = st ++ 93 :: rest) (ho : stOk st = true) :
    ∃ j' s' ch' k' ck', JK6 c j' s' ch' k' ck' ∧ ex Φ1 hT FU brB (TV p res i c j s ch k ck) = some (.next, TV p (res ++ [.str (setT st)]) (i + (st.length + 1) : Nat) c j' s' ch' k' ck') := by
  obtain ⟨a, r, hst, h1, h2, h3, h4, h5, h6, h7⟩ := stOk_at ho
  have hd' := hd
  rw [hst] at hd'
  obtain ⟨d1, d2, d3⟩ := drop_cons hd'
  have ha93 : a ≠ 93 := fun e => h3 (by rw [hst, e]; simp)
  have hk0 : JK6 c .none s ch k ck := ⟨hk.c, JK.none, hk.s, hk.ch, hk.k, hk.ck⟩
  obtain ⟨s', ch', k', ck', hk', e⟩ := ex_brC (res := res) hp hr hk0 hi hd (m := i + st.length) rfl ho
  have hml : i + st.length < p.length := by
    have := congrArg List.length hd
    simp at this
    lia
  refine ⟨.val (.int (i + st.length : Nat)), s', ch', k', ck', hk', ?_⟩
  refine xs (V' := TV p res i c (.val (.int i)) s ch k ck) (xset (yvar rfl) (TV.na hk rfl) rfl) ?_
  refine xs (xiff (yant (ycmp (yvar rfl) (yvar rfl) (lt_t d1)) (ycmp (yidx (yvar rfl) (yvar rfl) (idx_at hp d2)) rfl (eq_f (by simpa using h2)))) xsk) ?_
  refine xs (xiff (yant (ycmp (yvar rfl) (yvar rfl) (lt_t d1)) (ycmp (yidx (yvar rfl) (yvar rfl) (idx_at hp d2)) rfl (eq_f (by simpa using ha93)))) xsk) ?_
  refine xs (xwhl ?_) (xs (xiff (ycmp (yvar rfl) (yvar rfl) (ge_f hml)) e) xsk)
  have := j_loop (H := hT) (F := FU) (res := res) (i := i) hp hk0 st i (FU - st.length - 1) rest hd h3
  rw [show FU - st.length - 1 + st.length + 1 = FU by have : FU = 1000 := rfl; lia] at this
  exact this

/-- one atom -/
theorem ex_atom {i : Nat} {t : Atom} {rest : List Nat} (hp : p.length ≤ 1000) (hr : res.length ≤ 1000) (hk : JK6 c j s ch k ck) (hi : i ≤ p.length) (hd : p.drop i = t.rend ++ rest) (ho : t.ok = true) (hstar : t = .star → ∃ l, res.getLast? = some (.str l)) :
    ∃ c' j' s' ch' k' ck', JK6 c' j' s' ch' k' ck' ∧ ex Φ1 hT FU trX (TV p res i c j s ch k ck) = some (.next, TV p (res ++ [t.part]) (i + t.rend.length : Nat) c' j' s' ch' k' ck') := by
  have pre : ∀ {x : Nat} {l : List Nat} {R : Option (Fl × List CB)} {r : CS}, p.drop i = x :: l → ex Φ1 hT FU r (TV p res (i + 1 : Nat) (.val (.str [x])) j s ch k ck) = R →
      ex Φ1 hT FU (.sq (.set 7 (.idx (.var 0) (.var 5))) <| .sq (.set 5 (.bin .Add (.var 5) (.int 1))) r) (TV p res i c j s ch k ck) = R := fun {x l R r} h e => by
    obtain ⟨d1, d2, d3⟩ := drop_cons h
    refine xs (V' := TV p res i (.val (.str [x])) j s ch k ck) (xset (yidx (yvar rfl) (yvar rfl) (idx_at hp d2)) (TV.na hk rfl) rfl) ?_
    exact xs (V' := TV p res (i + 1 : Nat) (.val (.str [x])) j s ch k ck) (xset (ybin (yvar rfl) rfl rfl) (TV.na ⟨JK.val _, hk.j, hk.s, hk.ch, hk.k, hk.ck⟩ rfl) rfl) e
  match t, hd, ho, hstar with
  | .ch x, hd, ho, _ =>
    have hx : ((x < 128 ∧ x ≠ 42) ∧ x ≠ 63) ∧ x ≠ 91 := by
      have ho : (decide (x < 128) && x != 42 && x != 63 && x != 91) = true := ho
      simpa using ho
    refine ⟨.val (.str [x]), j, s, ch, k, ck, ⟨JK.val _, hk.j, hk.s, hk.ch, hk.k, hk.ck⟩, pre hd ?_⟩
    refine xs (xiff (ycmp (yvar rfl) rfl (eq_f (by simpa using hx.1.1.2))) ?_) xsk
    refine xs (xiff (ycmp (yvar rfl) rfl (eq_f (by simpa using hx.1.2))) ?_) xsk
    refine xs (xiff (ycmp (yvar rfl) rfl (eq_f (by simpa using hx.2))) ?_) xsk
    refine xs (xaddc (d := .str (escL x)) rfl rfl (by lia) (ycal (ycons (yvar rfl) ynil) ?_) rfl) xsk
    show (if x < 128 then some (D.str (escL x)) else none) = _
    rw [if_pos hx.1.1.1]
  | .any, hd, _, _ =>
    refine ⟨.val (.str [63]), j, s, ch, k, ck, ⟨JK.val _, hk.j, hk.s, hk.ch, hk.k, hk.ck⟩, pre hd ?_⟩
    refine xs (xiff (ycmp (yvar rfl) rfl (eq_f (by decide))) ?_) xsk
    refine xs (xift (ycmp (yvar rfl) rfl eq_t) ?_) xsk
    exact xs (xaddc (d := .str [46]) rfl rfl (by lia) (yvar rfl) rfl) xsk
  | .star, hd, _, hstar =>
    obtain ⟨l, hl⟩ := hstar rfl
    have hne : res.isEmpty = false := by
      cases res with
      | nil => simp at hl
      | cons a r => rfl
    refine ⟨.val (.str [42]), j, s, ch, k, ck, ⟨JK.val _, hk.j, hk.s, hk.ch, hk.k, hk.ck⟩, pre hd ?_⟩
    refine xs (xift (ycmp (yvar rfl) rfl eq_t) ?_) xsk
    refine xs (xift (yorf (c := true) ((ynt (ymtv rfl (by lia))).trans (by rw [hne]; rfl)) (ycmp (ymidx (j := -1) rfl rfl (pick_last hl)) (yvar rfl) rfl)) ?_) xsk
    exact xs (xaddc (d := .star) rfl rfl (by lia) (yvar rfl) rfl) xsk
  | .set st, hd, ho, _ =>
    have hd2 : p.drop i = 91 :: (st ++ 93 :: rest) := by rw [hd]; simp [Atom.rend]
    obtain ⟨d1, d2, d3⟩ := drop_cons hd2
    obtain ⟨j', s', ch', k', ck', hk', e⟩ := ex_brB (res := res) (c := .val (.str [91])) hp hr ⟨JK.val _, hk.j, hk.s, hk.ch, hk.k, hk.ck⟩ (show i + 1 ≤ p.length by lia) d3 ho
    have ei : i + 1 + (st.length + 1) = i + (Atom.set st).rend.length := by simp [Atom.rend]; lia
    rw [ei] at e
    refine ⟨.val (.str [91]), j', s', ch', k', ck', hk', pre hd2 ?_⟩
    refine xs (xiff (ycmp (yvar rfl) rfl (eq_f (by decide))) ?_) xsk
    refine xs (xiff (ycmp (yvar rfl) rfl (eq_f (by decide))) ?_) xsk
    exact xs (xift (ycmp (yvar rfl) rfl eq_t) e) xsk
end

noncomputable def rendL (l : List Atom) : List Nat := (l.map Atom.rend).flatten
/-- no star first, none behind a star -/
noncomputable def starsOk : Bool → List Atom → Bool
  | _, [] => true
  | b, .star :: r => b && starsOk false r
  | _, _ :: r => starsOk true r
theorem rend_pos (t : Atom) : 1 ≤ t.rend.length := by
  cases t <;> simp [Atom.rend]
theorem ex_atoms {p : List Nat} (hp : p.length ≤ 1000) : ∀ (l : List Atom) (i n : Nat) (res : List D) (c j s ch k ck : CB) (b : Bool), l.length < n → res.length + l.length ≤ 1000 → JK6 c j s ch k ck → i ≤ p.length → p.drop i = rendL l → (l.all Atom.ok) = true → starsOk b l = true → (b = true → ∃ t, res.getLast? = some (.str t)) →
    ∃ c' j' s' ch' k' ck', JK6 c' j' s' ch' k' ck' ∧ whl Φ1 hT FU trT trX n (TV p res i c j s ch k ck) = some (.next, TV p (res ++ l.map Atom.part) (p.length : Nat) c' j' s' ch' k' ck')
  | [], i, n, res, c, j, s, ch, k, ck, b, hn, _, hk, hi, hd, _, _, _ => by
    obtain ⟨n, rfl⟩ : ∃ m, n = m + 1 := ⟨n - 1, by simp at hn; lia⟩
    have hi' : i = p.length := by
      have := congrArg List.length hd
      simp [rendL] at this
      lia
    subst hi'
    refine ⟨_, _, _, _, _, _, hk, ?_⟩
    rw [List.map_nil, List.append_nil]
    exact wf (ycmp (yvar rfl) (yvar rfl) (lt_f (Nat.lt_irrefl _)))
  | t :: l, i, n, res, c, j, s, ch, k, ck, b, hn, hl, hk, hi, hd, ho, hs, hb => by
    obtain ⟨n, rfl⟩ : ∃ m, n = m + 1 := ⟨n - 1, by simp at hn; lia⟩
    rw [List.all_cons, Bool.and_eq_true] at ho
    simp only [List.length_cons] at hn hl
    have hd' : p.drop i = t.rend ++ rendL l := by rw [hd]; simp [rendL]
    have hpos := rend_pos t
    have hlt : i + t.rend.length ≤ p.length := (drop_slice hi hd').1
    obtain ⟨c1, j1, s1, ch1, k1, ck1, hk1, e1⟩ := ex_atom (res := res) hp (by lia) hk hi hd' ho.1 (fun e => by
      subst e
      have hs : (b && starsOk false l) = true := hs
      rw [Bool.and_eq_true] at hs
      exact hb hs.1)
    have hnext : p.drop (i + t.rend.length) = rendL l := by
      rw [← List.drop_drop, hd']
      simp
    obtain ⟨b', hs', hb'⟩ : ∃ b', starsOk b' l = true ∧ (b' = true → ∃ q, (res ++ [t.part]).getLast? = some (.str q)) := by
      cases t with
      | star =>
        have hs : (b && starsOk false l) = true := hs
        rw [Bool.and_eq_true] at hs
        exact ⟨false, hs.2, fun e => nomatch e⟩
      | ch x => exact ⟨true, hs, fun _ => ⟨escL x, by simp [Atom.part]⟩⟩
      | any => exact ⟨true, hs, fun _ => ⟨[46], by simp [Atom.part]⟩⟩
      | set st => exact ⟨true, hs, fun _ => ⟨setT st, by simp [Atom.part]⟩⟩
    obtain ⟨c2, j2, s2, ch2, k2, ck2, hk2, e2⟩ := ex_atoms hp l (i + t.rend.length) n (res ++ [t.part]) c1 j1 s1 ch1 k1 ck1 b' (by lia) (by simp; lia) hk1 hlt hnext ho.2 hs' hb'
    refine ⟨c2, j2, s2, ch2, k2, ck2, hk2, ?_⟩
    have : res ++ (t :: l).map Atom.part = res ++ [t.part] ++ l.map Atom.part := by simp
    rw [this]
    exact wt (ycmp (yvar rfl) (yvar rfl) (lt_t (by lia))) e1 e2
theorem translate2_run {l : List Atom} (hl : l.length ≤ 900) (hp : (rendL l).length ≤ 1000) (ho : (l.all Atom.ok) = true) (hs : starsOk false l = true) :
    Φ2 2 [.str (rendL l), .star, .str [46]] = some (.lst (l.map Atom.part)) := by
  show run Φ1 hT c_translate n_translate [.str (rendL l), .star, .str [46]] = _
  obtain ⟨c, j, s, ch, k, ck, hk, e⟩ := ex_atoms hp l 0 FU [] .none .none .none .none .none .none false (by show l.length < 1000; lia) (by simp; lia) ⟨JK.none, JK.none, JK.none, JK.none, JK.none, JK.none⟩ (Nat.zero_le _) (by simp) ho hs (fun e => nomatch e)
  rw [List.nil_append] at e
  have key : ex Φ1 hT FU c_translate [.val (.str (rendL l)), .val .star, .val (.str [46]), .none, .none, .none, .none, .none, .none, .none, .none, .none, .none] =
      some (.ret (.lst (l.map Atom.part)), [.val (.str (rendL l)), .val .star, .val (.str [46]), .val (.lst (l.map Atom.part)), .none, .val (.int ((rendL l).length : Nat)), .val (.int (rendL l).length), c, j, s, ch, k, ck]) := by
    rw [c_tr2]
    refine xs (V' := [.val (.str (rendL l)), .val .star, .val (.str [46]), .mu [], .none, .none, .none, .none, .none, .none, .none, .none, .none]) (xnewl ynil (by simp) rfl rfl) ?_
    refine xs (V' := [.val (.str (rendL l)), .val .star, .val (.str [46]), .mu [], .app 3, .none, .none, .none, .none, .none, .none, .none, .none]) (xadda rfl rfl rfl) ?_
    refine xs (V' := TV (rendL l) [] 0 .none .none .none .none .none .none) (xset2 (a := .int 0) (b := .int (rendL l).length) (ytup (ycons rfl (ycons (ylen (yvar rfl) ?_) ynil)) (by simp)) rfl rfl rfl rfl rfl) ?_
    · show (if fit (rendL l) = true then some (D.int (rendL l).length) else none) = _
      rw [if_pos (fit_iff.mpr (by lia))]
    refine xs (xwhl e) ?_
    refine xs (xasr (ycmp (c := true) (yvar rfl) (yvar rfl) ?_)) ?_
    · have : (((rendL l).length : Int) == ((rendL l).length : Int)) = true := by simp
      exact congrArg some this
    refine xg (V' := [.val (.str (rendL l)), .val .star, .val (.str [46]), .mu (l.map Atom.part), .none, .val (.int ((rendL l).length : Nat)), .val (.int (rendL l).length), c, j, s, ch, k, ck]) (xdrop rfl rfl) ?_
    refine xg (xfrz rfl ?_ rfl) ?_
    · exact na_cons rfl <| na_cons rfl <| na_cons rfl <| na_cons rfl <| na_cons rfl <| na_cons rfl <| na_cons rfl <| na_cons (hk.c _) <| na_cons (hk.j _) <| na_cons (hk.s _) <| na_cons (hk.ch _) <| na_cons (hk.k _) <| na_cons (hk.ck _) rfl
    · exact xs_ret (xret (yvar rfl))
  exact bq key rfl
end Mine
end TP7
section TP8
open PySem PySem.W PyProof.Rows PySem.Calls
set_option maxRecDepth 100000
namespace Mine

/-! _join_translated_parts -/
noncomputable abbrev jnT : CE := .an (.cmp .Lt (.var 4) (.var 5)) (.cmp .IsNot (.idx (.var 0) (.var 4)) (.var 1))
noncomputable abbrev jnA : CS := .sq (.addc 3 2 (.idx (.var 0) (.var 4))) <| .sq (.aug 4 (.int 1)) <| .sk
noncomputable abbrev jnF : CS := .sq (.app 6 (.idx (.var 0) (.var 4))) <| .sq (.aug 4 (.int 1)) <| .sk
noncomputable abbrev jnE : CS := .sq (.ifs (.cmp .Eq (.var 4) (.var 5)) (.sq (.addc 3 2 (.str [46, 42])) <|
  .sq (.addc 3 2 (.var 6)) <|
  .sk) (.sq (.addc 3 2 (.js (.cons (.str [40, 63, 62, 46, 42, 63]) (.cons (.fmt (.var 6)) (.cons (.str [41]) .nil))))) <|
  .sk)) <|
  .sk
noncomputable abbrev jnB : CS := .sq (.asr (.cmp .Is (.idx (.var 0) (.var 4)) (.var 1))) <|
  .sq (.aug 4 (.int 1)) <|
  .sq (.ifs (.cmp .Eq (.var 4) (.var 5)) (.sq (.addc 3 2 (.str [46, 42])) <|
  .sq (.brk) <|
  .sk) (.sk)) <|
  .sq (.asr (.cmp .IsNot (.idx (.var 0) (.var 4)) (.var 1))) <|
  .sq (.newl 6 .nil) <|
  .sq (.whl jnT jnF) <|
  .gh (.frz 6) <| .sq (.set 6 (.join (.str []) (.cons (.var 6) .nil))) jnE
theorem c_jn : c_join_translated_parts =
  (.sq (.newl 2 .nil) <|
  .sq (.adda 3 2) <|
  .sq (.set2 4 5 (.tup (.cons (.int 0) (.cons (.len (.var 0)) .nil)))) <|
  .sq (.whl jnT jnA) <|
  .sq (.whl (.cmp .Lt (.var 4) (.var 5)) jnB) <|
  .sq (.asr (.cmp .Eq (.var 4) (.var 5))) <|
  .gh (.drop 3) <| .gh (.frz 2) <| .sq (.set 2 (.join (.str []) (.cons (.var 2) .nil))) <|
  .sq (.ret (.js (.cons (.str [40, 63, 115, 58]) (.cons (.fmt (.var 2)) (.cons (.str [41, 92, 90]) .nil))))) <|
  .sk) := rfl

noncomputable def JV (inp : List D) (res : List (List Nat)) (i : Int) (fx : CB) : List CB := [.val (.lst inp), .val .star, .mu (res.map .str), .app 2, .val (.int i), .val (.int inp.length), fx]
theorem JV.na {inp : List D} {res : List (List Nat)} {i : Int} {fx : CB} (h : JK fx) {x : Nat} (hx : (2 != x) = true) : noApp (JV inp res i fx) x = true :=
  na_cons rfl <| na_cons rfl <| na_cons rfl <| na_cons hx <| na_cons rfl <| na_cons rfl <| na_cons (h _) rfl
theorem lidx_at {p : List D} {i : Nat} {d : D} (hp : p.length ≤ 1000) (h : p[i]? = some d) : idxD (.lst p) (i : Int) = some d := by
  have hlt : i < p.length := (List.getElem?_eq_some_iff.mp h).1
  exact pick_nat h (by lia)
noncomputable def stops (r : List D) : Prop := r = [] ∨ ∃ t, r = .star :: t
theorem joinL_nil : ∀ xs : List (List Nat), joinL [] xs = xs.flatten
  | [] => rfl
  | [x] => by simp [joinL]
  | x :: y :: r => by
    have ih := joinL_nil (y :: r)
    rw [joinL, ih]
    · simp
    · simp
theorem strsD_str : ∀ xs : List (List Nat), strsD (xs.map .str) = some xs
  | [] => rfl
  | x :: r => by
    rw [List.map_cons, strsD, strsD_str r]; rfl
theorem sum_flat (xs : List (List Nat)) : (xs.map List.length).sum = xs.flatten.length := by simp [List.length_flatten]
theorem join_at {xs : List (List Nat)} (h : xs.flatten.length ≤ 100000) : joinD [] (.lst (xs.map .str)) = some (.str xs.flatten) := by
  show (strsD (xs.map .str)).bind _ = _
  rw [strsD_str, Option.bind_some, if_pos (by rw [sum_flat]; simp only [List.length_nil]; lia), joinL_nil]

section
variable {inp : List D} {rest : List D}
theorem jn_test {i : Nat} {res : List (List Nat)} {fx : CB} (hp : inp.length ≤ 1000) (hi : i ≤ inp.length) (h : inp.drop i = rest) (hs : stops rest) : asB (ev Φ0 jnT (JV inp res i fx)) = some false := by
  rcases hs with rfl | ⟨t, rfl⟩
  · refine yanf (ycmp (yvar rfl) (yvar rfl) (lt_f ?_))
    have := congrArg List.length h
    simp at this
    lia
  · obtain ⟨h1, h2, h3⟩ := drop_cons h
    exact yant (ycmp (yvar rfl) (yvar rfl) (lt_t h1)) (ycmp (yidx (yvar rfl) (yvar rfl) (lidx_at hp h2)) (yvar rfl) rfl)
theorem jn_test_t {i : Nat} {res : List (List Nat)} {fx : CB} {x : List Nat} {r : List D} (hp : inp.length ≤ 1000) (h : inp.drop i = .str x :: r) : asB (ev Φ0 jnT (JV inp res i fx)) = some true := by
  obtain ⟨h1, h2, h3⟩ := drop_cons h
  exact yant (ycmp (yvar rfl) (yvar rfl) (lt_t h1)) (ycmp (yidx (yvar rfl) (yvar rfl) (lidx_at hp h2)) (yvar rfl) rfl)
theorem jn_first (hp : inp.length ≤ 1000) (hs : stops rest) : ∀ (u : List (List Nat)) (i n : Nat) (res : List (List Nat)), u.length < n → res.length + u.length ≤ 1000 → i ≤ inp.length → inp.drop i = u.map .str ++ rest →
    whl Φ0 hZ FU jnT jnA n (JV inp res i .none) = some (.next, JV inp (res ++ u) (i + u.length : Nat) .none)
  | [], i, n, res, hn, _, hi, h => by
    obtain ⟨n, rfl⟩ : ∃ m, n = m + 1 := ⟨n - 1, by simp at hn; lia⟩
    rw [List.append_nil]
    exact wf (jn_test hp hi h hs)
  | x :: u, i, n, res, hn, hl, hi, h => by
    obtain ⟨n, rfl⟩ : ∃ m, n = m + 1 := ⟨n - 1, by simp at hn; lia⟩
    simp only [List.length_cons] at hn hl
    obtain ⟨h1, h2, h3⟩ := drop_cons h
    have ih := jn_first hp hs u (i + 1) n (res ++ [x]) (by lia) (by simp; lia) h1 h3
    rw [show i + 1 + u.length = i + (x :: u).length by simp; lia, show res ++ [x] ++ u = res ++ x :: u by simp] at ih
    refine wt (V' := JV inp (res ++ [x]) (i + 1 : Nat) .none) (jn_test_t hp h) ?_ ih
    refine xs (V' := JV inp (res ++ [x]) i .none) (xaddc (ds := res.map .str) rfl rfl (by simp; lia) (yidx (yvar rfl) (yvar rfl) (lidx_at hp h2)) (by simp [JV])) ?_
    exact xs (xaug (i := i) (j := 1) rfl rfl (JV.na JK.none rfl) rfl) xsk
theorem jn_fix {res : List (List Nat)} (hp : inp.length ≤ 1000) (hs : stops rest) : ∀ (u : List (List Nat)) (i n : Nat) (fx : List (List Nat)), u.length < n → fx.length + u.length ≤ 1000 → i ≤ inp.length → inp.drop i = u.map .str ++ rest →
    whl Φ0 hZ FU jnT jnF n (JV inp res i (.mu (fx.map .str))) = some (.next, JV inp res (i + u.length : Nat) (.mu ((fx ++ u).map .str)))
  | [], i, n, fx, hn, _, hi, h => by
    obtain ⟨n, rfl⟩ : ∃ m, n = m + 1 := ⟨n - 1, by simp at hn; lia⟩
    rw [List.append_nil]
    exact wf (jn_test hp hi h hs)
  | x :: u, i, n, fx, hn, hl, hi, h => by
    obtain ⟨n, rfl⟩ : ∃ m, n = m + 1 := ⟨n - 1, by simp at hn; lia⟩
    simp only [List.length_cons] at hn hl
    obtain ⟨h1, h2, h3⟩ := drop_cons h
    have ih := jn_fix (res := res) hp hs u (i + 1) n (fx ++ [x]) (by lia) (by simp; lia) h1 h3
    rw [show i + 1 + u.length = i + (x :: u).length by simp; lia, show fx ++ [x] ++ u = fx ++ x :: u by simp] at ih
    refine wt (V' := JV inp res (i + 1 : Nat) (.mu ((fx ++ [x]).map .str))) (jn_test_t hp h) ?_ ih
    refine xs (V' := JV inp res i (.mu ((fx ++ [x]).map .str))) (xapp (ds := fx.map .str) rfl (by simp; lia) (yidx (yvar rfl) (yvar rfl) (lidx_at hp h2)) (by simp [JV])) ?_
    exact xs (xaug (i := i) (j := 1) rfl rfl (JV.na (JK.mu _) rfl) rfl) xsk
end

/-- behind the first star -/
noncomputable def tails : List (List (List Nat)) → List (List Nat)
  | [] => []
  | [u] => [[46, 42], u.flatten]
  | u :: v :: r => [[40, 63, 62, 46, 42, 63], u.flatten, [41]].flatten :: tails (v :: r)
noncomputable def starred (segs : List (List (List Nat))) : List D := (segs.map fun u => D.star :: u.map .str).flatten
theorem starred_stops (segs : List (List (List Nat))) : stops (starred segs) := by
  cases segs with
  | nil => exact .inl rfl
  | cons u r => exact .inr ⟨_, rfl⟩
theorem starred_len (segs : List (List (List Nat))) : segs.length ≤ (starred segs).length := by
  induction segs with
  | nil => simp [starred]
  | cons u r ih => simp [starred] at ih ⊢; lia
theorem eqi_t {i : Nat} : cmpD .Eq (.int (i : Int)) (.int (i : Int)) = some true := by
  have : ((i : Int) == (i : Int)) = true := by simp
  exact congrArg some this
theorem eqi_f {i n : Nat} (h : i ≠ n) : cmpD .Eq (.int (i : Int)) (.int (n : Int)) = some false := by
  have : ((i : Int) == (n : Int)) = false := by
    rw [beq_eq_false_iff_ne]
    exact fun e => h (by lia)
  exact congrArg some this
theorem jn_segs {inp : List D} (hp : inp.length ≤ 900) : ∀ (segs : List (List (List Nat))) (i n : Nat) (res : List (List Nat)) (fx : CB), JK fx → segs.length < n → res.length + 2 * segs.length ≤ 10000 → i ≤ inp.length → inp.drop i = starred segs → (∀ u ∈ segs, u ≠ []) → ((segs.map List.flatten).flatten).length ≤ 90000 →
    ∃ fx', JK fx' ∧ whl Φ0 hZ FU (.cmp .Lt (.var 4) (.var 5)) jnB n (JV inp res i fx) = some (.next, JV inp (res ++ tails segs) (inp.length : Nat) fx')
  | [], i, n, res, fx, hj, hn, _, hi, h, _, _ => by
    obtain ⟨n, rfl⟩ : ∃ m, n = m + 1 := ⟨n - 1, by simp at hn; lia⟩
    have : i = inp.length := by
      have := congrArg List.length h
      simp [starred] at this
      lia
    subst this
    refine ⟨fx, hj, ?_⟩
    rw [tails, List.append_nil]
    exact wf (ycmp (yvar rfl) (yvar rfl) (lt_f (Nat.lt_irrefl _)))
  | u :: segs, i, n, res, fx, hj, hn, hl, hi, h, hne, hfl => by
    obtain ⟨n, rfl⟩ : ∃ m, n = m + 1 := ⟨n - 1, by simp at hn; lia⟩
    simp only [List.length_cons] at hn hl
    have hd : inp.drop i = .star :: (u.map .str ++ starred segs) := by rw [h]; simp [starred]
    obtain ⟨h1, h2, h3⟩ := drop_cons hd
    have hu := hne u List.mem_cons_self
    have hlen := congrArg List.length h3
    simp at hlen
    have hsl := starred_len segs
    have hfl' : (u.flatten).length + ((segs.map List.flatten).flatten).length ≤ 90000 := by
      have e : ((u :: segs).map List.flatten).flatten = u.flatten ++ (segs.map List.flatten).flatten := by simp
      rw [e, List.length_append] at hfl
      exact hfl
    have hupos : 0 < u.length := List.length_pos_iff.mpr hu
    have hfix := jn_fix (res := res) (inp := inp) (by lia) (starred_stops segs) u (i + 1) FU [] (by show u.length < 1000; lia) (by simp; lia) h1 h3
    rw [List.nil_append] at hfix
    -- the text of the part
    have body : ∀ V' : List CB, ex Φ0 hZ FU jnE (JV inp res (i + 1 + u.length : Nat) (.val (.str u.flatten))) = some (.next, V') → ex Φ0 hZ FU jnB (JV inp res i fx) = some (.next, V') := fun V' hE => by
      obtain ⟨x, u', rfl⟩ : ∃ x u', u = x :: u' := by
        cases u with
        | nil => exact absurd rfl hu
        | cons x u' => exact ⟨x, u', rfl⟩
      obtain ⟨k1, k2, k3⟩ := drop_cons h3
      refine xs (xasr (ycmp (c := true) (yidx (yvar rfl) (yvar rfl) (lidx_at (by lia) h2)) (yvar rfl) rfl)) ?_
      refine xs (V' := JV inp res (i + 1 : Nat) fx) (xaug (i := i) (j := 1) rfl rfl (JV.na hj rfl) rfl) ?_
      refine xs (xiff (ycmp (yvar rfl) (yvar rfl) (eqi_f (by lia))) xsk) ?_
      refine xs (xasr (ycmp (c := true) (yidx (yvar rfl) (yvar rfl) (lidx_at (by lia) k2)) (yvar rfl) rfl)) ?_
      refine xs (V' := JV inp res (i + 1 : Nat) (.mu [])) (xnewl ynil (by simp) (JV.na hj rfl) rfl) ?_
      refine xs (xwhl hfix) ?_
      refine xg (V' := JV inp res (i + 1 + (x :: u').length : Nat) (.val (.lst ((x :: u').map .str)))) (xfrz rfl (JV.na (JK.mu _) rfl) rfl) ?_
      exact xs (V' := JV inp res (i + 1 + (x :: u').length : Nat) (.val (.str (x :: u').flatten))) (xset (yjoin rfl (ycons (yvar rfl) ynil) (join_at (by lia))) (JV.na (JK.val _) rfl) rfl) hE
    have hnext : inp.drop (i + 1 + u.length) = starred segs := by
      rw [← List.drop_drop, h3]
      simp
    have hle : i + 1 + u.length ≤ inp.length := by
      have := congrArg List.length h3
      simp at this
      lia
    match segs, h, hne, hsl, hnext, hn, hl, hlen, hfl', hfix, body with
    | [], _, _, _, hnext, hn, hl, hlen, _, _, body =>
      have hend : i + 1 + u.length = inp.length := by
        have := congrArg List.length hnext
        simp [starred] at this
        lia
      refine ⟨.val (.str u.flatten), JK.val _, ?_⟩
      refine wt (V' := JV inp (res ++ tails [u]) (inp.length : Nat) (.val (.str u.flatten))) (ycmp (yvar rfl) (yvar rfl) (lt_t h1)) (body _ ?_) ?_
      · rw [hend]
        refine xs (xift (ycmp (yvar rfl) (yvar rfl) eqi_t) ?_) xsk
        refine xs (V' := JV inp (res ++ [[46, 42]]) (inp.length : Nat) (.val (.str u.flatten))) (xaddc (ds := res.map .str) rfl rfl (by simp at hl ⊢; lia) rfl (by simp [JV])) ?_
        exact xs (xaddc (ds := (res ++ [[46, 42]]).map .str) (d := .str u.flatten) rfl rfl (by simp at hl ⊢; lia) (yvar rfl) (by simp [JV, tails])) xsk
      · obtain ⟨n, rfl⟩ : ∃ m, n = m + 1 := ⟨n - 1, by simp at hn; lia⟩
        exact wf (ycmp (yvar rfl) (yvar rfl) (lt_f (Nat.lt_irrefl _)))
    | v :: segs, _, hne, hsl, hnext, hn, hl, hlen, hfl', _, body =>
      have hne' : i + 1 + u.length ≠ inp.length := by
        have := congrArg List.length hnext
        simp [starred] at this
        lia
      obtain ⟨fx', hj', e⟩ := jn_segs hp (v :: segs) (i + 1 + u.length) n (res ++ [[[40, 63, 62, 46, 42, 63], u.flatten, [41]].flatten]) (.val (.str u.flatten)) (JK.val _) (by simp at hn ⊢; lia) (by simp at hl ⊢; lia) hle hnext (fun w hw => hne w (List.mem_cons_of_mem _ hw)) (by lia)
      refine ⟨fx', hj', ?_⟩
      have et : res ++ tails (u :: v :: segs) = res ++ [[[40, 63, 62, 46, 42, 63], u.flatten, [41]].flatten] ++ tails (v :: segs) := by simp [tails]
      rw [et]
      refine wt (ycmp (yvar rfl) (yvar rfl) (lt_t h1)) (body _ ?_) e
      refine xs (xiff (ycmp (yvar rfl) (yvar rfl) (eqi_f hne')) ?_) xsk
      refine xs (xaddc (ds := res.map .str) (d := .str [[40, 63, 62, 46, 42, 63], u.flatten, [41]].flatten) rfl rfl (by simp at hl ⊢; lia) ?_ (by simp [JV])) xsk
      exact yjs (ycons rfl (ycons (yfmt (yvar rfl) (by lia)) (ycons rfl ynil))) rfl (by simp; simp at hfl'; lia)
theorem join_run {u0 : List (List Nat)} {segs : List (List (List Nat))} (hp : (u0.map D.str ++ starred segs).length ≤ 900) (hne : ∀ u ∈ segs, u ≠ []) (hf : ((segs.map List.flatten).flatten).length ≤ 90000) (ht : (u0 ++ tails segs).flatten.length ≤ 90000) :
    Φ1 3 [.lst (u0.map .str ++ starred segs), .star] = some (.str [[40, 63, 115, 58], (u0 ++ tails segs).flatten, [41, 92, 90]].flatten) := by
  generalize hinp : u0.map D.str ++ starred segs = inp at hp
  have hlen : u0.length + segs.length ≤ 900 := by
    have h1 := congrArg List.length hinp
    simp at h1
    have := starred_len segs
    lia
  have e1 := jn_first (inp := inp) (by lia) (starred_stops segs) u0 0 FU [] (by show u0.length < 1000; lia) (by simp; lia) (Nat.zero_le _) (by rw [← hinp]; simp)
  have hd : inp.drop (0 + u0.length) = starred segs := by rw [← hinp]; simp
  have hi : 0 + u0.length ≤ inp.length := by rw [← hinp]; simp
  obtain ⟨fx, hj, e2⟩ := jn_segs hp segs (0 + u0.length) FU ([] ++ u0) .none JK.none (by show segs.length < 1000; lia) (by simp; lia) hi hd hne hf
  rw [List.nil_append] at e1 e2
  have key : ∃ V', ex Φ0 hZ FU c_join_translated_parts [.val (.lst inp), .val .star, .none, .none, .none, .none, .none] = some (.ret (.str [[40, 63, 115, 58], (u0 ++ tails segs).flatten, [41, 92, 90]].flatten), V') := by
    refine ⟨[.val (.lst inp), .val .star, .val (.str (u0 ++ tails segs).flatten), .none, .val (.int (inp.length : Nat)), .val (.int inp.length), fx], ?_⟩
    rw [c_jn]
    refine xs (V' := [.val (.lst inp), .val .star, .mu [], .none, .none, .none, .none]) (xnewl ynil (by simp) rfl rfl) ?_
    refine xs (V' := [.val (.lst inp), .val .star, .mu [], .app 2, .none, .none, .none]) (xadda rfl rfl rfl) ?_
    refine xs (V' := JV inp [] (0 : Nat) .none) (xset2 (a := .int 0) (b := .int inp.length) (ytup (ycons rfl (ycons (ylen (yvar rfl) ?_) ynil)) (by simp)) rfl rfl rfl rfl rfl) ?_
    · show (if fit inp = true then some (D.int inp.length) else none) = _
      rw [if_pos (fit_iff.mpr (by lia))]
    refine xs (xwhl e1) ?_
    refine xs (xwhl e2) ?_
    refine xs (xasr (ycmp (c := true) (yvar rfl) (yvar rfl) eqi_t)) ?_
    refine xg (V' := [.val (.lst inp), .val .star, .mu ((u0 ++ tails segs).map .str), .none, .val (.int (inp.length : Nat)), .val (.int inp.length), fx]) (xdrop rfl rfl) ?_
    have na : ∀ (b : CB) (k : Nat), JK b → noApp [.val (.lst inp), .val .star, b, .none, .val (.int (inp.length : Nat)), .val (.int inp.length), fx] k = true := fun b k hb =>
      na_cons rfl <| na_cons rfl <| na_cons (hb _) <| na_cons rfl <| na_cons rfl <| na_cons rfl <| na_cons (hj _) rfl
    refine xg (V' := [.val (.lst inp), .val .star, .val (.lst ((u0 ++ tails segs).map .str)), .none, .val (.int (inp.length : Nat)), .val (.int inp.length), fx]) (xfrz rfl (na _ _ (JK.mu _)) rfl) ?_
    refine xs (V' := [.val (.lst inp), .val .star, .val (.str (u0 ++ tails segs).flatten), .none, .val (.int (inp.length : Nat)), .val (.int inp.length), fx]) (xset (yjoin rfl (ycons (yvar rfl) ynil) (join_at (by lia))) (na _ _ (JK.val _)) rfl) ?_
    exact xs_ret (xret (yjs (ycons rfl (ycons (yfmt (yvar rfl) (by lia)) (ycons rfl ynil))) rfl (by simp only [List.flatten_cons, List.flatten_nil, List.length_append, List.length_cons, List.length_nil]; lia)))
  obtain ⟨V', key⟩ := key
  show run Φ0 hZ c_join_translated_parts n_join_translated_parts [.lst inp, .star] = _
  exact bq key rfl
end Mine
end TP8
section TP9
open PySem PySem.W PyProof.Rows PySem.Calls
set_option maxRecDepth 100000
namespace Mine

/-! _law_unit -/
noncomputable abbrev offA : List Nat := [36, 40, 41, 42, 43, 63, 94, 123, 124]
noncomputable abbrev offB : List Nat := [97, 65, 98, 66, 100, 68, 102, 110, 78, 114, 115, 83, 116, 117, 85, 118, 119, 87, 120, 90, 48, 49, 50, 51, 52, 53, 54, 55, 56, 57]
noncomputable abbrev unA : CS := .sq (.set 2 (.cmp .NotEq (.idx (.var 0) (.var 1)) (.str [92]))) <|
  .sq (.aug 1 (.ite (.tv (.var 2)) (.int 0) (.int 1))) <|
  .sq (.set 3 (.cmp .In (.idx (.var 0) (.var 1)) (.ite (.tv (.var 2)) (.str offA) (.str offB)))) <|
  .sq (.ret (.tup (.cons (.tup (.cons (.bool false) (.cons (.ite (.tv (.var 3)) (.lst .nil) (.lst (.cons (.tup (.cons (.idx (.var 0) (.var 1)) (.cons (.idx (.var 0) (.var 1)) .nil))) .nil))) .nil))) (.cons (.bin .Add (.var 1) (.int 1)) .nil)))) <| .sk
noncomputable abbrev unT : CE := .cmp .NotEq (.idx (.var 0) (.var 1)) (.str [93])
noncomputable abbrev unR : CS := .sq (.aug 1 (.ite (.cmp .Eq (.idx (.var 0) (.bin .Add (.var 1) (.int 1))) (.str [92])) (.int 2) (.int 1))) <|
  .sq (.set 7 (.idx (.var 0) (.var 1))) <|
  .sq (.aug 1 (.int 1)) <| .sk
noncomputable abbrev unL : CS := .sq (.aug 1 (.ite (.cmp .Eq (.idx (.var 0) (.var 1)) (.str [92])) (.int 1) (.int 0))) <|
  .sq (.set 6 (.idx (.var 0) (.var 1))) <|
  .sq (.set 7 (.var 6)) <|
  .sq (.aug 1 (.int 1)) <|
  .sq (.ifs (.an (.cmp .Eq (.idx (.var 0) (.var 1)) (.str [45])) (.cmp .NotEq (.idx (.var 0) (.bin .Add (.var 1) (.int 1))) (.str [93]))) unR (.sk)) <|
  .sq (.app 5 (.tup (.cons (.var 6) (.cons (.var 7) .nil)))) <| .sk
theorem c_un : c_law_unit =
  (.sq (.ifs (.cmp .Eq (.idx (.var 0) (.var 1)) (.str [46])) (.sq (.ret (.tup (.cons (.tup (.cons (.bool true) (.cons (.lst .nil) .nil))) (.cons (.bin .Add (.var 1) (.int 1)) .nil)))) <|
  .sk) (.sk)) <|
  .sq (.ifs (.cmp .Eq (.sl (.var 0) (.var 1) (.bin .Add (.var 1) (.int 4))) (.str [40, 63, 33, 41])) (.sq (.ret (.tup (.cons (.tup (.cons (.bool false) (.cons (.lst .nil) .nil))) (.cons (.bin .Add (.var 1) (.int 4)) .nil)))) <|
  .sk) (.sk)) <|
  .sq (.ifs (.cmp .NotEq (.idx (.var 0) (.var 1)) (.str [91])) unA (.sk)) <|
  .sq (.set 4 (.cmp .Eq (.idx (.var 0) (.bin .Add (.var 1) (.int 1))) (.str [94]))) <|
  .sq (.aug 1 (.ite (.tv (.var 4)) (.int 2) (.int 1))) <|
  .sq (.newl 5 .nil) <|
  .sq (.whl unT unL) <|
  .gh (.frz 5) <| .sq (.ret (.tup (.cons (.tup (.cons (.var 4) (.cons (.var 5) .nil))) (.cons (.bin .Add (.var 1) (.int 1)) .nil)))) <|
  .sk) := rfl

theorem sl_take {p : List Nat} {i m : Nat} (hp : p.length ≤ 1000) (hi : i ≤ p.length) : sliceD (.str p) (some (i : Int)) (some ((i : Int) + (m : Int))) = some (.str ((p.drop i).take m)) := by
  have e : sliceD (.str p) (some (i : Int)) (some ((i : Int) + (m : Int))) = if fit p = true then some (.str (cut p (some (i : Int)) (some ((i : Int) + (m : Int))))) else none := rfl
  rw [e, if_pos (fit_iff.mpr (by lia))]
  unfold cut
  simp only [Option.elim]
  have e1 : clipAt p.length (i : Int) = i := by
    unfold clipAt
    rw [if_neg (by lia)]; lia
  have e2 : clipAt p.length ((i : Int) + (m : Int)) = min (i + m) p.length := by
    unfold clipAt
    rw [if_neg (by lia)]; lia
  rw [e1, e2]
  by_cases q : i + m ≤ p.length
  · rw [Nat.min_eq_left q, show i + m - i = m by lia]
  · rw [Nat.min_eq_right (by lia), List.take_of_length_le (by simp), List.take_of_length_le (by simp; lia)]

noncomputable abbrev Sp := Nat × Nat
noncomputable def spD (x : Sp) : D := .tup [.str [x.1], .str [x.2]]
noncomputable abbrev Un := Bool × List Sp
noncomputable def unD (u : Un) : D := .tup [ofB u.1, .lst (u.2.map spD)]

/-- one span of a set's text; the text ends before the bracket -/
noncomputable def dashStep (f : Nat) : List Nat → Option (Sp × List Nat)
  | [] => some ((f, f), [])
  | a :: r => if a = 45 then (match r with
      | [] => some ((f, f), [a])
      | b :: r => if b = 92 then (match r with | c :: r' => some ((f, c), r') | [] => none) else some ((f, b), r)) else some ((f, f), a :: r)
theorem dashStep_e {f : Nat} {u : List Nat} {x : Sp × List Nat} {P : List Nat → Sp × List Nat → Prop} (h : dashStep f u = some x) (h0 : P [] ((f, f), [])) (h1 : P [45] ((f, f), [45])) (h2 : ∀ a r, a ≠ 45 → P (a :: r) ((f, f), a :: r)) (h3 : ∀ b r, b ≠ 92 → P (45 :: b :: r) ((f, b), r)) (h4 : ∀ c r, P (45 :: 92 :: c :: r) ((f, c), r)) : P u x := by
  cases u with
  | nil => exact Option.some.inj h ▸ h0
  | cons a r =>
    by_cases qa : a = 45
    · replace h := (if_pos qa).symm.trans h
      rw [qa] at h ⊢
      cases r with
      | nil => exact Option.some.inj h ▸ h1
      | cons b r =>
        by_cases qb : b = 92
        · replace h := (if_pos qb).symm.trans h
          rw [qb]
          cases r with
          | nil => exact no_some h
          | cons c r => exact Option.some.inj h ▸ h4 c r
        · exact Option.some.inj ((if_neg qb).symm.trans h) ▸ h3 b r qb
    · exact Option.some.inj ((if_neg qa).symm.trans h) ▸ h2 a r qa
noncomputable def spanStep : List Nat → Option (Sp × List Nat)
  | [] => none
  | a :: r => if a = 92 then (match r with | f :: r' => dashStep f r' | [] => none) else dashStep a r
noncomputable def spansOf : Nat → List Nat → Option (List Sp)
  | _, [] => some []
  | 0, _ => none
  | n + 1, u => (spanStep u).bind fun x => (spansOf n x.2).map (x.1 :: ·)

noncomputable def UVc (t : List Nat) (k : Int) (ba off bd : CB) (sp : CB) (f l : CB) : List CB := [.val (.str t), .val (.int k), ba, off, bd, sp, f, l]
theorem UVc.na {t : List Nat} {k : Int} {ba off bd sp f l : CB} (h1 : JK ba) (h2 : JK off) (h3 : JK bd) (h4 : JK sp) (h5 : JK f) (h6 : JK l) (x : Nat) : noApp (UVc t k ba off bd sp f l) x = true :=
  na_cons rfl <| na_cons rfl <| na_cons (h1 _) <| na_cons (h2 _) <| na_cons (h3 _) <| na_cons (h4 _) <| na_cons (h5 _) <| na_cons (h6 _) rfl

section
variable {t : List Nat}
theorem jx {i c : Nat} {r : List Nat} (hp : t.length ≤ 1000) (h : t.drop i = c :: r) : idxD (.str t) (i : Int) = some (.str [c]) := idx_at hp (drop_cons h).2.1

noncomputable def dT : CE := .an (.cmp .Eq (.idx (.var 0) (.var 1)) (.str [45])) (.cmp .NotEq (.idx (.var 0) (.bin .Add (.var 1) (.int 1))) (.str [93]))
noncomputable abbrev dS : CS := .ifs dT unR .sk
/-- a range's second sign, if any -/
theorem un_dash {k f : Nat} {u u' rest : List Nat} {x : Sp} {bd : CB} {sp : List D} (hp : t.length ≤ 1000) (hb : JK bd) (hd : t.drop k = u ++ 93 :: rest) (h93 : 93 ∉ u) (he : dashStep f u = some (x, u')) :
    ∃ m : Nat, t.drop (k + m) = u' ++ 93 :: rest ∧ 93 ∉ u' ∧ u.length = m + u'.length ∧ x.1 = f ∧
      ex Φ0 hZ FU dS (UVc t k .none .none bd (.mu sp) (.val (.str [f])) (.val (.str [f]))) = some (.next, UVc t (k + m : Nat) .none .none bd (.mu sp) (.val (.str [f])) (.val (.str [x.2]))) := by
  have na : ∀ {k : Int} {a : Nat} (z : Nat), noApp (UVc t k .none .none bd (.mu sp) (.val (.str [f])) (.val (.str [a]))) z = true := fun z => UVc.na JK.none JK.none hb (JK.mu _) (JK.val _) (JK.val _) z
  have stay : ∀ {u : List Nat}, t.drop k = u ++ 93 :: rest → 93 ∉ u → asB (ev Φ0 dT (UVc t k .none .none bd (.mu sp) (.val (.str [f])) (.val (.str [f])))) = some false →
      ∃ m : Nat, t.drop (k + m) = u ++ 93 :: rest ∧ 93 ∉ u ∧ u.length = m + u.length ∧ f = f ∧ ex Φ0 hZ FU dS (UVc t k .none .none bd (.mu sp) (.val (.str [f])) (.val (.str [f]))) = some (.next, UVc t (k + m : Nat) .none .none bd (.mu sp) (.val (.str [f])) (.val (.str [f]))) := fun hd h93 h =>
    ⟨0, hd, h93, (Nat.zero_add _).symm, rfl, xiff h xsk⟩
  have at0 : ∀ {a c : Nat} {r : List Nat} {b : Bool}, t.drop k = c :: r → cmpD .Eq (.str [c]) (.str [45]) = some b → asB (ev Φ0 (.cmp .Eq (.idx (.var 0) (.var 1)) (.str [45])) (UVc t k .none .none bd (.mu sp) (.val (.str [f])) (.val (.str [a])))) = some b := fun hd h => ycmp (yidx (yvar rfl) (yvar rfl) (jx hp hd)) rfl h
  have at1 : ∀ {op : CmpOp} {a c q : Nat} {r : List Nat} {b : Bool}, t.drop (k + 1) = c :: r → cmpD op (.str [c]) (.str [q]) = some b → asB (ev Φ0 (.cmp op (.idx (.var 0) (.bin .Add (.var 1) (.int 1))) (.str [q])) (UVc t k .none .none bd (.mu sp) (.val (.str [f])) (.val (.str [a])))) = some b := fun hd h => ycmp (yidx (j := (k + 1 : Nat)) (yvar rfl) (ybin (yvar rfl) rfl rfl) (jx hp hd)) rfl h
  have go : ∀ {m c : Nat} {r : List Nat}, t.drop (k + m) = c :: r → ex Φ0 hZ FU (.sq (.set 7 (.idx (.var 0) (.var 1))) (.sq (.aug 1 (.int 1)) .sk)) (UVc t (k + m : Nat) .none .none bd (.mu sp) (.val (.str [f])) (.val (.str [f]))) = some (.next, UVc t (k + (m + 1) : Nat) .none .none bd (.mu sp) (.val (.str [f])) (.val (.str [c]))) := fun {m c r} hd =>
    xs (V' := UVc t (k + m : Nat) .none .none bd (.mu sp) (.val (.str [f])) (.val (.str [c]))) (xset (yidx (yvar rfl) (yvar rfl) (jx hp hd)) (na _) rfl) (xs (xaug (i := (k + m : Nat)) (j := 1) rfl rfl (na _) rfl) xsk)
  revert hd h93
  apply dashStep_e (P := fun u x => t.drop k = u ++ 93 :: rest → 93 ∉ u → ∃ m : Nat, t.drop (k + m) = x.2 ++ 93 :: rest ∧ 93 ∉ x.2 ∧ u.length = m + x.2.length ∧ x.1.1 = f ∧ ex Φ0 hZ FU dS (UVc t k .none .none bd (.mu sp) (.val (.str [f])) (.val (.str [f]))) = some (.next, UVc t (k + m : Nat) .none .none bd (.mu sp) (.val (.str [f])) (.val (.str [x.1.2])))) he
  · intro hd h93
    exact stay hd h93 (yanf (at0 hd (eq_f (by decide))))
  · intro hd h93
    exact stay hd h93 (yant (at0 hd eq_t) (at1 (drop_cons hd).2.2 ne_f))
  · intro a r qa hd h93
    exact stay hd h93 (yanf (at0 hd (eq_f fun q => qa (List.cons.inj q).1)))
  · intro b r qb hd h93
    have d3 := (drop_cons hd).2.2
    refine ⟨2, (drop_cons d3).2.2, fun m => h93 (.tail _ (.tail _ m)), Nat.add_comm r.length 2, rfl, xift (yant (at0 hd eq_t) (at1 d3 (ne_t fun q => h93 ((List.cons.inj q).1 ▸ .tail _ (.head _))))) ?_⟩
    exact xs (V' := UVc t (k + 1 : Nat) .none .none bd (.mu sp) (.val (.str [f])) (.val (.str [f]))) (xaug (i := k) (j := 1) rfl (yitef (at1 d3 (eq_f fun q => qb (List.cons.inj q).1)) rfl) (na _) rfl) (go d3)
  · intro c r hd h93
    have d3 := (drop_cons hd).2.2
    have d6 := (drop_cons d3).2.2
    refine ⟨3, (drop_cons d6).2.2, fun m => h93 (.tail _ (.tail _ (.tail _ m))), Nat.add_comm r.length 3, rfl, xift (yant (at0 hd eq_t) (at1 d3 (ne_t fun q => nomatch (List.cons.inj q).1))) ?_⟩
    exact xs (V' := UVc t (k + 2 : Nat) .none .none bd (.mu sp) (.val (.str [f])) (.val (.str [f]))) (xaug (i := k) (j := 2) rfl (yitet (at1 d3 eq_t) rfl) (na _) rfl) (go d6)

theorem un_step {k : Nat} {u u' rest : List Nat} {x : Sp} {bd f0 l0 : CB} {sp : List D} (hp : t.length ≤ 1000) (hb : JK bd) (hf0 : JK f0) (hl0 : JK l0) (hd : t.drop k = u ++ 93 :: rest) (h93 : 93 ∉ u) (he : spanStep u = some (x, u')) (hsp : sp.length ≤ 1000) :
    ∃ m : Nat, t.drop (k + m) = u' ++ 93 :: rest ∧ 93 ∉ u' ∧ u.length = m + u'.length ∧ 1 ≤ m ∧ asB (ev Φ0 unT (UVc t k .none .none bd (.mu sp) f0 l0)) = some true ∧
      ex Φ0 hZ FU unL (UVc t k .none .none bd (.mu sp) f0 l0) = some (.next, UVc t (k + m : Nat) .none .none bd (.mu (sp ++ [spD x])) (.val (.str [x.1])) (.val (.str [x.2]))) := by
  have na : ∀ {k : Int} {a b : CB} (z : Nat), JK a → JK b → noApp (UVc t k .none .none bd (.mu sp) a b) z = true := fun z ha hb' => UVc.na JK.none JK.none hb (JK.mu _) ha hb' z
  -- from the first sign on
  have tail : ∀ {q f : Nat} {v : List Nat} {a b : CB}, JK a → JK b → t.drop q = f :: (v ++ 93 :: rest) → 93 ∉ v → dashStep f v = some (x, u') → ∃ m : Nat, t.drop (q + 1 + m) = u' ++ 93 :: rest ∧ 93 ∉ u' ∧ v.length = m + u'.length ∧
      ex Φ0 hZ FU (.sq (.set 6 (.idx (.var 0) (.var 1))) <| .sq (.set 7 (.var 6)) <| .sq (.aug 1 (.int 1)) <|
        .sq (.ifs (.an (.cmp .Eq (.idx (.var 0) (.var 1)) (.str [45])) (.cmp .NotEq (.idx (.var 0) (.bin .Add (.var 1) (.int 1))) (.str [93]))) unR (.sk)) <|
        .sq (.app 5 (.tup (.cons (.var 6) (.cons (.var 7) .nil)))) <| .sk) (UVc t q .none .none bd (.mu sp) a b) = some (.next, UVc t (q + 1 + m : Nat) .none .none bd (.mu (sp ++ [spD x])) (.val (.str [x.1])) (.val (.str [x.2]))) := fun {q f v a b} ja jb hq hv hds => by
    obtain ⟨d1, d2, d3⟩ := drop_cons hq
    obtain ⟨m, e1, e2, e3, e4, e5⟩ := un_dash (sp := sp) hp hb d3 hv hds
    refine ⟨m, e1, e2, e3, ?_⟩
    refine xs (V' := UVc t q .none .none bd (.mu sp) (.val (.str [f])) b) (xset (yidx (yvar rfl) (yvar rfl) (jx hp hq)) (na _ ja jb) rfl) ?_
    refine xs (V' := UVc t q .none .none bd (.mu sp) (.val (.str [f])) (.val (.str [f]))) (xset (yvar rfl) (na _ (JK.val _) jb) rfl) ?_
    refine xs (V' := UVc t (q + 1 : Nat) .none .none bd (.mu sp) (.val (.str [f])) (.val (.str [f]))) (xaug (i := q) (j := 1) rfl rfl (na _ (JK.val _) (JK.val _)) rfl) ?_
    refine xs e5 ?_
    rw [e4]
    refine xs (xapp (ds := sp) rfl (by lia) (ytup (ycons (yvar rfl) (ycons (yvar rfl) ynil)) (by simp)) ?_) xsk
    show UVc t (q + 1 + m : Nat) .none .none bd (.mu (sp ++ [.tup [.str [f], .str [x.2]]])) (.val (.str [f])) (.val (.str [x.2])) = _
    rw [← e4]; rfl
  match u, hd, h93, he with
  | a :: r, hd, h93, he =>
    have ha93 : a ≠ 93 := fun e => h93 (by rw [e]; simp)
    obtain ⟨d1, d2, d3⟩ := drop_cons hd
    have ht : asB (ev Φ0 unT (UVc t k .none .none bd (.mu sp) f0 l0)) = some true := ycmp (yidx (yvar rfl) (yvar rfl) (jx hp hd)) rfl (ne_t (by simpa using ha93))
    by_cases qa : a = 92
    · subst qa
      match r, hd, h93, he, d3 with
      | f :: r', hd, h93, he, d3 =>
        simp only [spanStep, if_true] at he
        obtain ⟨m, e1, e2, e3, e4⟩ := tail (a := f0) (b := l0) (q := k + 1) hf0 hl0 d3 (fun m => h93 (by simp [m])) he
        refine ⟨1 + 1 + m, ?_, e2, by simp; lia, by lia, ht, ?_⟩
        · rw [show k + (1 + 1 + m) = k + 1 + 1 + m by lia]; exact e1
        · rw [show k + (1 + 1 + m) = k + 1 + 1 + m by lia]
          exact xs (V' := UVc t (k + 1 : Nat) .none .none bd (.mu sp) f0 l0) (xaug (i := k) (j := 1) rfl (yitet (ycmp (yidx (yvar rfl) (yvar rfl) (jx hp hd)) rfl eq_t) rfl) (na _ hf0 hl0) rfl) e4
    · simp only [spanStep, if_neg qa] at he
      obtain ⟨m, e1, e2, e3, e4⟩ := tail (a := f0) (b := l0) (q := k) hf0 hl0 hd (fun m => h93 (by simp [m])) he
      refine ⟨1 + m, ?_, e2, by simp; lia, by lia, ht, ?_⟩
      · rw [show k + (1 + m) = k + 1 + m by lia]; exact e1
      · rw [show k + (1 + m) = k + 1 + m by lia]
        have e0 : (k : Int) + 0 = k := by lia
        exact xs (V' := UVc t k .none .none bd (.mu sp) f0 l0) (xaug (i := k) (j := 0) rfl (yitef (ycmp (yidx (yvar rfl) (yvar rfl) (jx hp hd)) rfl (eq_f (by simpa using qa))) rfl) (na _ hf0 hl0) (by rw [e0]; rfl)) e4

theorem un_loop (hp : t.length ≤ 1000) {bd : CB} (hb : JK bd) {rest : List Nat} : ∀ (n N : Nat) (u : List Nat) (k : Nat) (sp : List D) (f0 l0 : CB) (sps : List Sp), JK f0 → JK l0 → t.drop k = u ++ 93 :: rest → 93 ∉ u → spansOf n u = some sps → n < N → sp.length + n ≤ 1000 →
    ∃ f1 l1, JK f1 ∧ JK l1 ∧ whl Φ0 hZ FU unT unL N (UVc t k .none .none bd (.mu sp) f0 l0) = some (.next, UVc t (k + u.length : Nat) .none .none bd (.mu (sp ++ sps.map spD)) f1 l1)
  | n, N, [], k, sp, f0, l0, sps, j1, j2, hd, _, he, hN, _ => by
    obtain ⟨N, rfl⟩ : ∃ m, N = m + 1 := ⟨N - 1, by lia⟩
    have : sps = [] := by
      cases n <;> simp [spansOf] at he <;> exact he
    subst this
    refine ⟨f0, l0, j1, j2, ?_⟩
    rw [List.map_nil, List.append_nil]
    exact wf (ycmp (yidx (yvar rfl) (yvar rfl) (jx hp hd)) rfl ne_f)
  | 0, N, a :: r, k, sp, f0, l0, sps, _, _, _, _, he, _, _ => by simp [spansOf] at he
  | n + 1, N, a :: r, k, sp, f0, l0, sps, j1, j2, hd, h93, he, hN, hsp => by
    obtain ⟨N, rfl⟩ : ∃ m, N = m + 1 := ⟨N - 1, by lia⟩
    have he' : ((spanStep (a :: r)).bind fun x => (spansOf n x.2).map (x.1 :: ·)) = some sps := he
    obtain ⟨⟨x, u'⟩, e1, e2⟩ := bs he'
    obtain ⟨sps', e3, rfl⟩ := ms e2
    obtain ⟨m, q1, q2, q3, q4, q5, q6⟩ := un_step (sp := sp) hp hb j1 j2 hd h93 e1 (by lia)
    obtain ⟨f1, l1, g1, g2, g3⟩ := un_loop hp hb n N u' (k + m) (sp ++ [spD x]) _ _ sps' (JK.val _) (JK.val _) q1 q2 e3 (by lia) (by simp; lia)
    refine ⟨f1, l1, g1, g2, ?_⟩
    rw [show k + m + u'.length = k + (a :: r).length by lia, show sp ++ [spD x] ++ sps'.map spD = sp ++ (x :: sps').map spD by simp] at g3
    exact wt q5 q6 g3
end
end Mine
end TP9
section TP10
open PySem PySem.W PyProof.Rows PySem.Calls
set_option maxRecDepth 100000
namespace Mine

/-! a unit of the made text -/
noncomputable def Atom.txt : Atom → List Nat
  | .ch c => escL c
  | .any => [46]
  | .star => []
  | .set st => setT st
noncomputable def Atom.unit : Atom → Un
  | .ch c => (false, [(c, c)])
  | .any => (true, [])
  | .star => (false, [])
  | .set st => (false, (spansOf 20 (stf st)).getD [])
noncomputable def chOk (c : Nat) : Bool := if special.contains c then !offB.contains c else !offA.contains c && c != 46 && c != 91 && c != 92
noncomputable def Atom.okU : Atom → Bool
  | .ch c => chOk c
  | .any => true
  | .star => false
  | .set st => !(stf st).contains 93 && (spansOf 20 (stf st)).isSome && (match stf st with | a :: _ => a != 94 | [] => false)

theorem phi5 (a b : D) : Φ1 5 [a, b] = run Φ0 hZ c_law_unit n_law_unit [a, b] := by
  have e : Φ1 5 [a, b] = if [a, b].length = 2 then run Φ0 hZ c_law_unit n_law_unit [a, b] else none := rfl
  rw [e, if_pos (show [a, b].length = 2 from rfl)]
theorem run_of {Φ : Fn} {H : Nat → List CB → Option (List CB)} {c : CS} {N : List Str} {ds : List D} {d : D} {V0 V' : List CB} (h0 : V0 = ds.map CB.val ++ (N.drop ds.length).map fun _ => CB.none) (h : ex Φ H FU c V0 = some (.ret d, V')) : run Φ H c N ds = some d := bq (h0 ▸ h) rfl
theorem in1 (c : Nat) (l : List Nat) : cmpD .In (.str [c]) (.str l) = some (decide (c ∈ l)) := by
  rw [← strIn1]; rfl
section
variable {t : List Nat}
theorem un_head {k c : Nat} {r : List Nat} {ba off bd sp f l : CB} {rest R} (hp : t.length ≤ 1000) (hd : t.drop k = c :: r) (h46 : c ≠ 46) (h40 : c ≠ 40) (h : ex Φ0 hZ FU rest (UVc t k ba off bd sp f l) = R) :
    ex Φ0 hZ FU (.sq (.ifs (.cmp .Eq (.idx (.var 0) (.var 1)) (.str [46])) (.sq (.ret (.tup (.cons (.tup (.cons (.bool true) (.cons (.lst .nil) .nil))) (.cons (.bin .Add (.var 1) (.int 1)) .nil)))) <|
      .sk) (.sk)) <|
      .sq (.ifs (.cmp .Eq (.sl (.var 0) (.var 1) (.bin .Add (.var 1) (.int 4))) (.str [40, 63, 33, 41])) (.sq (.ret (.tup (.cons (.tup (.cons (.bool false) (.cons (.lst .nil) .nil))) (.cons (.bin .Add (.var 1) (.int 4)) .nil)))) <|
      .sk) (.sk)) rest) (UVc t k ba off bd sp f l) = R := by
  refine xs (xiff (ycmp (yidx (yvar rfl) (yvar rfl) (jx hp hd)) rfl (eq_f (by simpa using h46))) xsk) ?_
  obtain ⟨d1, d2, d3⟩ := drop_cons hd
  refine xs (xiff (ycmp (ysl (yvar rfl) (l := some (k : Int)) rfl (h := some ((k : Int) + (4 : Nat))) rfl (sl_take hp (by lia))) rfl (eq_f ?_)) xsk) h
  rw [hd]
  intro e
  simp at e
  exact h40 e.1

theorem unit_any {k : Nat} {r : List Nat} (hp : t.length ≤ 1000) (hd : t.drop k = 46 :: r) : Φ1 5 [.str t, .int k] = some (.tup [unD (true, []), .int (k + 1 : Nat)]) := by
  rw [phi5]
  refine run_of (V0 := UVc t k .none .none .none .none .none .none) (V' := UVc t k .none .none .none .none .none .none) rfl ?_
  rw [c_un]
  exact xs_ret (xift (ycmp (yidx (yvar rfl) (yvar rfl) (jx hp hd)) rfl eq_t) (xs_ret (xret (ytup (ycons (ytup (ycons rfl (ycons (ylst ynil (by simp)) ynil)) (by simp)) (ycons (ybin (yvar rfl) rfl rfl) ynil)) (by simp)))))

/-- a sign that stands for itself -/
theorem unit_ch {k c : Nat} {r : List Nat} (hp : t.length ≤ 1000) (hd : t.drop k = escL c ++ r) (ho : chOk c = true) : Φ1 5 [.str t, .int k] = some (.tup [unD (false, [(c, c)]), .int (k + (escL c).length : Nat)]) := by
  rw [phi5]
  unfold chOk at ho
  unfold escL at hd ⊢
  have na : ∀ {k : Int} {a b : CB} (z : Nat), JK a → JK b → noApp (UVc t k a b .none .none .none .none) z = true := fun z ha hb' => UVc.na ha hb' JK.none JK.none JK.none JK.none z
  -- once the sign's place and kind are known
  have fin : ∀ {q : Nat} {bare : Bool} {v : List Nat}, t.drop q = c :: v → decide (c ∈ (if bare then offA else offB)) = false → ∃ V', ex Φ0 hZ FU (.sq (.set 3 (.cmp .In (.idx (.var 0) (.var 1)) (.ite (.tv (.var 2)) (.str offA) (.str offB)))) <|
      .sq (.ret (.tup (.cons (.tup (.cons (.bool false) (.cons (.ite (.tv (.var 3)) (.lst .nil) (.lst (.cons (.tup (.cons (.idx (.var 0) (.var 1)) (.cons (.idx (.var 0) (.var 1)) .nil))) .nil))) .nil))) (.cons (.bin .Add (.var 1) (.int 1)) .nil)))) <| .sk) (UVc t q (.val (ofB bare)) .none .none .none .none .none) = some (.ret (.tup [unD (false, [(c, c)]), .int (q + 1 : Nat)]), V') := fun {q bare v} hq hn => by
    refine ⟨UVc t q (.val (ofB bare)) (.val (ofB false)) .none .none .none .none, ?_⟩
    refine xs (V' := UVc t q (.val (ofB bare)) (.val (ofB false)) .none .none .none .none) (xset (ycmpv (c := false) (y := .str (if bare then offA else offB)) (yidx (yvar rfl) (yvar rfl) (jx hp hq)) ?_ ?_) (na _ (JK.val _) JK.none) rfl) ?_
    · cases bare
      · exact yitef (ytv (yvar rfl) rfl) rfl
      · exact yitet (ytv (yvar rfl) rfl) rfl
    · rw [in1, hn]
    · exact xs_ret (xret (ytup (ycons (ytup (ycons rfl (ycons (yitef (ytv (yvar rfl) rfl) (ylst (ycons (ytup (ycons (yidx (yvar rfl) (yvar rfl) (jx hp hq)) (ycons (yidx (yvar rfl) (yvar rfl) (jx hp hq)) ynil)) (by simp)) ynil) (by simp))) ynil)) (by simp)) (ycons (ybin (yvar rfl) rfl rfl) ynil)) (by simp)))
  cases hs : special.contains c
  · rw [hs] at hd ho
    simp only [Bool.false_eq_true, if_false, Bool.and_eq_true, Bool.not_eq_true', bne_iff_ne] at hd ho
    obtain ⟨⟨⟨o1, o2⟩, o3⟩, o4⟩ := ho
    have h40 : c ≠ 40 := fun e => by rw [e] at hs; simp [special] at hs
    obtain ⟨V', e⟩ := fin (q := k) (bare := true) hd (by simpa using o1)
    refine run_of (V0 := UVc t k .none .none .none .none .none .none) (V' := V') rfl ?_
    rw [c_un]
    refine un_head hp hd o2 h40 ?_
    refine xs_ret (xift (ycmp (yidx (yvar rfl) (yvar rfl) (jx hp hd)) rfl (ne_t (by simpa using o3))) ?_)
    refine xs (V' := UVc t k (.val (ofB true)) .none .none .none .none .none) (xset (ycmpv (c := true) (yidx (yvar rfl) (yvar rfl) (jx hp hd)) rfl (ne_t (by simpa using o4))) (na _ JK.none JK.none) rfl) ?_
    have e0 : (k : Int) + 0 = k := by lia
    refine xs (V' := UVc t k (.val (ofB true)) .none .none .none .none .none) (xaug (i := k) (j := 0) rfl (yitet (ytv (yvar rfl) rfl) rfl) (na _ (JK.val _) JK.none) (by rw [e0]; rfl)) ?_
    exact e
  · rw [hs] at hd ho
    simp only [if_true, Bool.not_eq_true'] at hd ho
    have hd1 : t.drop k = 92 :: (c :: r) := hd
    obtain ⟨d1, d2, d3⟩ := drop_cons hd1
    obtain ⟨V', e⟩ := fin (q := k + 1) (bare := false) d3 (by simpa using ho)
    refine run_of (V0 := UVc t k .none .none .none .none .none .none) (V' := V') rfl ?_
    rw [c_un]
    refine un_head hp hd1 (by decide) (by decide) ?_
    refine xs_ret (xift (ycmp (yidx (yvar rfl) (yvar rfl) (jx hp hd1)) rfl (ne_t (by decide))) ?_)
    refine xs (V' := UVc t k (.val (ofB false)) .none .none .none .none .none) (xset (ycmpv (c := false) (yidx (yvar rfl) (yvar rfl) (jx hp hd1)) rfl ne_f) (na _ JK.none JK.none) rfl) ?_
    refine xs (V' := UVc t (k + 1 : Nat) (.val (ofB false)) .none .none .none .none .none) (xaug (i := k) (j := 1) rfl (yitef (ytv (yvar rfl) rfl) rfl) (na _ (JK.val _) JK.none) rfl) ?_
    exact e

/-- a set -/
theorem unit_set {k : Nat} {u r : List Nat} {sps : List Sp} (hp : t.length ≤ 1000) (hd : t.drop k = 91 :: (u ++ 93 :: r)) (h93 : 93 ∉ u) (hs : spansOf 20 u = some sps) (h94 : ∃ a v, u = a :: v ∧ a ≠ 94) : Φ1 5 [.str t, .int k] = some (.tup [unD (false, sps), .int (k + (u.length + 2) : Nat)]) := by
  rw [phi5]
  obtain ⟨d1, d2, d3⟩ := drop_cons hd
  obtain ⟨a, v, hu, ha⟩ := h94
  have d3' : t.drop (k + 1) = a :: (v ++ 93 :: r) := by rw [d3, hu]; rfl
  have na : ∀ {k : Int} {a b c : CB} (z : Nat), JK a → JK b → JK c → noApp (UVc t k .none .none (.val (ofB false)) a b c) z = true := fun z ha hb hc => UVc.na JK.none JK.none (JK.val _) ha hb hc z
  obtain ⟨f1, l1, g1, g2, g3⟩ := un_loop (bd := .val (ofB false)) hp (JK.val _) 20 FU u (k + 1) [] .none .none sps JK.none JK.none d3 h93 hs (by show 20 < 1000; lia) (by simp)
  refine run_of (V0 := UVc t k .none .none .none .none .none .none) (V' := UVc t (k + 1 + u.length : Nat) .none .none (.val (ofB false)) (.val (.lst (sps.map spD))) f1 l1) rfl ?_
  rw [c_un]
  refine un_head hp hd (by decide) (by decide) ?_
  refine xs (xiff (ycmp (yidx (yvar rfl) (yvar rfl) (jx hp hd)) rfl ne_f) xsk) ?_
  refine xs (V' := UVc t k .none .none (.val (ofB false)) .none .none .none) (xset (ycmpv (c := false) (yidx (j := (k + 1 : Nat)) (yvar rfl) (ybin (yvar rfl) rfl rfl) (jx hp d3')) rfl (eq_f (by simpa using ha))) (UVc.na JK.none JK.none JK.none JK.none JK.none JK.none _) rfl) ?_
  refine xs (V' := UVc t (k + 1 : Nat) .none .none (.val (ofB false)) .none .none .none) (xaug (i := k) (j := 1) rfl (yitef (ytv (yvar rfl) rfl) rfl) (na _ JK.none JK.none JK.none) rfl) ?_
  refine xs (V' := UVc t (k + 1 : Nat) .none .none (.val (ofB false)) (.mu []) .none .none) (xnewl ynil (by simp) (na _ JK.none JK.none JK.none) rfl) ?_
  rw [List.nil_append] at g3
  refine xs (xwhl g3) ?_
  refine xg (V' := UVc t (k + 1 + u.length : Nat) .none .none (.val (ofB false)) (.val (.lst (sps.map spD))) f1 l1) (xfrz rfl (na _ (JK.mu _) g1 g2) rfl) ?_
  have e1 : k + (u.length + 2) = k + 1 + u.length + 1 := by lia
  rw [e1]
  exact xs_ret (xret (ytup (ycons (ytup (ycons (yvar rfl) (ycons (yvar rfl) ynil)) (by simp)) (ycons (ybin (yvar rfl) rfl rfl) ynil)) (by simp)))

theorem unit_run {k : Nat} {a : Atom} {r : List Nat} (hp : t.length ≤ 1000) (ho : a.okU = true) (hd : t.drop k = a.txt ++ r) : Φ1 5 [.str t, .int k] = some (.tup [unD a.unit, .int (k + a.txt.length : Nat)]) := by
  match a, ho, hd with
  | .ch c, ho, hd => exact unit_ch hp hd ho
  | .any, _, hd => exact unit_any hp hd
  | .set st, ho, hd =>
    have ho : (!(stf st).contains 93 && (spansOf 20 (stf st)).isSome && (match stf st with | a :: _ => a != 94 | [] => false)) = true := ho
    simp only [Bool.and_eq_true, Bool.not_eq_true'] at ho
    obtain ⟨⟨o1, o2⟩, o3⟩ := ho
    obtain ⟨sps, hs⟩ := Option.isSome_iff_exists.mp o2
    have hd' : t.drop k = 91 :: (stf st ++ 93 :: r) := by rw [hd]; simp [Atom.txt, setT]
    have := unit_set hp hd' (by simpa using o1) hs (by
      match h : stf st, o3 with
      | a :: v, o3 =>
        exact ⟨a, v, rfl, by simpa using o3⟩)
    have e1 : (Atom.set st).txt.length = (stf st).length + 2 := by simp [Atom.txt, setT]
    have e2 : (Atom.set st).unit = (false, sps) := by simp [Atom.unit, hs]
    rw [e1, e2]
    exact this
end
end Mine
end TP10
section TP11
open PySem PySem.W PyProof.Rows PySem.Calls
set_option maxRecDepth 100000
namespace Mine

/-! _law_tokens -/
set_option genCtorIdx true in
set_option genInjectivity true in
inductive El where
  | one (a : Atom) | run | held (l : List Atom)
noncomputable def txtL (l : List Atom) : List Nat := (l.map Atom.txt).flatten
noncomputable def El.txt : El → List Nat
  | .one a => a.txt
  | .run => [46, 42]
  | .held l => [40, 63, 62, 46, 42, 63] ++ (txtL l ++ [41])
noncomputable def unitsD (l : List Atom) : D := .lst (l.map fun a => unD a.unit)
noncomputable def El.tok : El → D
  | .one a => .tup [.str [111, 110, 101], unitsD [a]]
  | .run => .tup [.str [114, 117, 110], .lst []]
  | .held l => .tup [.str [104, 101, 108, 100], unitsD l]
noncomputable def El.ok : El → Bool
  | .one a => a.okU
  | .run => true
  | .held l => l.all Atom.okU
noncomputable def flatE (l : List El) : List Nat := (l.map El.txt).flatten

noncomputable abbrev uT : CE := .cmp .NotEq (.idx (.var 0) (.var 2)) (.str [41])
noncomputable abbrev uB : CS := .sq (.sett [4, 2] (.cal 5 (.cons (.var 0) (.cons (.var 2) .nil)))) <| .sq (.app 3 (.var 4)) <| .sk
noncomputable abbrev tkT : CE := .cmp .Lt (.var 2) (.bin .Sub (.len (.var 0)) (.int 3))
noncomputable abbrev heldB : CS := .sq (.aug 2 (.int 6)) <| .sq (.newl 3 .nil) <| .sq (.whl uT uB) <|
  .gh (.frz 3) <| .sq (.app 1 (.tup (.cons (.str [104, 101, 108, 100]) (.cons (.var 3) .nil)))) <|
  .sq (.aug 2 (.int 1)) <| .sk
noncomputable abbrev runB : CS := .sq (.app 1 (.tup (.cons (.str [114, 117, 110]) (.cons (.lst .nil) .nil)))) <| .sq (.aug 2 (.int 2)) <| .sk
noncomputable abbrev oneB : CS := .sq (.sett [4, 2] (.cal 5 (.cons (.var 0) (.cons (.var 2) .nil)))) <|
  .sq (.app 1 (.tup (.cons (.str [111, 110, 101]) (.cons (.lst (.cons (.var 4) .nil)) .nil)))) <| .sk
noncomputable abbrev tkB : CS := .sq (.ifs (.cmp .Eq (.sl (.var 0) (.var 2) (.bin .Add (.var 2) (.int 6))) (.str [40, 63, 62, 46, 42, 63])) heldB
  (.sq (.ifs (.cmp .Eq (.sl (.var 0) (.var 2) (.bin .Add (.var 2) (.int 2))) (.str [46, 42])) runB oneB) <| .sk)) <| .sk
theorem c_tk : c_law_tokens =
  (.sq (.ifs (.orr (.cmp .NotEq (.sl (.var 0) .no (.int 4)) (.str [40, 63, 115, 58])) (.cmp .NotEq (.sl (.var 0) (.neg (.int 3)) .no) (.str [41, 92, 90]))) (.sq (.ret (.lst (.cons (.tup (.cons (.str [111, 110, 101]) (.cons (.lst (.cons (.tup (.cons (.bool false) (.cons (.lst .nil) .nil))) .nil)) .nil))) .nil))) <|
  .sk) (.sk)) <|
  .sq (.newl 1 .nil) <|
  .sq (.set 2 (.int 4)) <|
  .sq (.whl tkT tkB) <|
  .gh (.frz 1) <| .sq (.ret (.var 1)) <|
  .sk) := rfl

noncomputable def KV (t : List Nat) (toks : List D) (k : Int) (us un : CB) : List CB := [.val (.str t), .mu toks, .val (.int k), us, un]
theorem KV.na {t : List Nat} {toks : List D} {k : Int} {us un : CB} (h1 : JK us) (h2 : JK un) (x : Nat) : noApp (KV t toks k us un) x = true :=
  na_cons rfl <| na_cons rfl <| na_cons rfl <| na_cons (h1 _) <| na_cons (h2 _) rfl

theorem escL_head {c : Nat} (h : chOk c = true) : ∃ a r, escL c = a :: r ∧ a ≠ 40 ∧ a ≠ 41 ∧ a ≠ 42 ∧ a ≠ 46 := by
  unfold chOk at h
  unfold escL
  cases hs : special.contains c
  · rw [hs] at h
    simp only [Bool.false_eq_true, if_false, Bool.and_eq_true, Bool.not_eq_true', bne_iff_ne] at h
    have hn : c ∉ offA := by simpa using h.1.1.1
    refine ⟨c, [], rfl, ?_, ?_, ?_, h.1.1.2⟩ <;> (intro e; apply hn; rw [e]; decide)
  · exact ⟨92, [c], rfl, by decide, by decide, by decide, by decide⟩
theorem txt_head {a : Atom} (h : a.okU = true) : ∃ x r, a.txt = x :: r ∧ x ≠ 40 ∧ x ≠ 41 ∧ x ≠ 42 ∧ (x = 46 → a = .any) := by
  match a, h with
  | .ch c, h =>
    obtain ⟨x, r, e, h1, h2, h3, h4⟩ := escL_head h
    exact ⟨x, r, e, h1, h2, h3, fun q => absurd q h4⟩
  | .any, _ => exact ⟨46, [], rfl, by decide, by decide, by decide, fun _ => rfl⟩
  | .set st, _ => exact ⟨91, _, rfl, by decide, by decide, by decide, fun q => absurd q (by decide)⟩
theorem flat_head {l : List El} (h : l.all El.ok = true) : ∃ x r, flatE l ++ [41, 92, 90] = x :: r ∧ x ≠ 42 := by
  match l, h with
  | [], _ => exact ⟨41, _, rfl, by decide⟩
  | .one a :: r, h =>
    rw [List.all_cons, Bool.and_eq_true] at h
    obtain ⟨x, v, e, _, _, h3, _⟩ := txt_head (a := a) h.1
    exact ⟨x, v ++ ((r.map El.txt).flatten ++ [41, 92, 90]), by simp [flatE, El.txt, e], h3⟩
  | .run :: r, _ => exact ⟨46, _, rfl, by decide⟩
  | .held u :: r, _ => exact ⟨40, _, rfl, by decide⟩

section
variable {t : List Nat}
theorem u_turn {toks us0 : List D} {k : Nat} {us un : CB} {a : Atom} {r : List Nat} {R : Option (Fl × List CB)} {c : CS} (hp : t.length ≤ 1000) (hus : JK us) (hun : JK un) (ho : a.okU = true) (hd : t.drop k = a.txt ++ r)
    (h : ex Φ1 hZ FU c (KV t toks (k + a.txt.length : Nat) us (.val (unD a.unit))) = R) : ex Φ1 hZ FU (.sq (.sett [4, 2] (.cal 5 (.cons (.var 0) (.cons (.var 2) .nil)))) c) (KV t toks k us un) = R := by
  refine xs (xsett (ycal (ycons (yvar rfl) (ycons (yvar rfl) ynil)) (unit_run hp ho hd)) ?_) h
  show setsV [4, 2] [unD a.unit, .int (k + a.txt.length : Nat)] _ = _
  refine setsV_c (V' := KV t toks k us (.val (unD a.unit))) (KV.na hus hun _) rfl ?_
  refine setsV_c (V' := KV t toks (k + a.txt.length : Nat) us (.val (unD a.unit))) (KV.na hus (JK.val _) _) rfl ?_
  rfl
theorem u_loop {toks : List D} {r : List Nat} (hp : t.length ≤ 1000) : ∀ (l : List Atom) (k n : Nat) (us : List D) (un : CB), JK un → l.length < n → us.length + l.length ≤ 1000 → l.all Atom.okU = true → t.drop k = txtL l ++ 41 :: r →
    ∃ un', JK un' ∧ whl Φ1 hZ FU uT uB n (KV t toks k (.mu us) un) = some (.next, KV t toks (k + (txtL l).length : Nat) (.mu (us ++ l.map fun a => unD a.unit)) un')
  | [], k, n, us, un, hj, hn, _, _, hd => by
    obtain ⟨n, rfl⟩ : ∃ m, n = m + 1 := ⟨n - 1, by simp at hn; lia⟩
    refine ⟨un, hj, ?_⟩
    rw [List.map_nil, List.append_nil]
    exact wf (ycmp (yidx (yvar rfl) (yvar rfl) (jx hp hd)) rfl ne_f)
  | a :: l, k, n, us, un, hj, hn, hl, ho, hd => by
    obtain ⟨n, rfl⟩ : ∃ m, n = m + 1 := ⟨n - 1, by simp at hn; lia⟩
    rw [List.all_cons, Bool.and_eq_true] at ho
    simp only [List.length_cons] at hn hl
    have hd' : t.drop k = a.txt ++ (txtL l ++ 41 :: r) := by rw [hd]; simp [txtL]
    obtain ⟨x, v, ex1, x1, x2, x3, _⟩ := txt_head ho.1
    have hd1 : t.drop k = x :: (v ++ (txtL l ++ 41 :: r)) := by rw [hd', ex1]; rfl
    have hnext : t.drop (k + a.txt.length) = txtL l ++ 41 :: r := by
      rw [← List.drop_drop, hd']
      simp
    obtain ⟨un', hj', e⟩ := u_loop hp l (k + a.txt.length) n (us ++ [unD a.unit]) (.val (unD a.unit)) (JK.val _) (by lia) (by simp; lia) ho.2 hnext
    refine ⟨un', hj', ?_⟩
    have e1 : k + a.txt.length + (txtL l).length = k + (txtL (a :: l)).length := by simp [txtL]; lia
    rw [e1, show us ++ [unD a.unit] ++ l.map (fun a => unD a.unit) = us ++ (a :: l).map (fun a => unD a.unit) by simp] at e
    refine wt (ycmp (yidx (yvar rfl) (yvar rfl) (jx hp hd1)) rfl (ne_t (by simpa using x2))) ?_ e
    exact u_turn (us0 := us) hp (JK.mu _) hj ho.1 hd' (xs (xapp (ds := us) rfl (by lia) (yvar rfl) rfl) xsk)
theorem sl_eq {k m : Nat} {toks : List D} {us un : CB} (hp : t.length ≤ 1000) (hi : k ≤ t.length) : ev Φ1 (.sl (.var 0) (.var 2) (.bin .Add (.var 2) (.int m))) (KV t toks k us un) = some (.str ((t.drop k).take m)) :=
  ysl (yvar rfl) (l := some (k : Int)) rfl (h := some ((k : Int) + (m : Nat))) rfl (sl_take hp hi)

theorem el_step {toks : List D} {k : Nat} {us un : CB} {a : El} {l : List El} (hp : t.length ≤ 1000) (hus : JK us) (hun : JK un) (htk : toks.length ≤ 1000) (ho : a.ok = true) (hl : l.all El.ok = true) (hd : t.drop k = a.txt ++ (flatE l ++ [41, 92, 90])) :
    ∃ us' un', JK us' ∧ JK un' ∧ ex Φ1 hZ FU tkB (KV t toks k us un) = some (.next, KV t (toks ++ [a.tok]) (k + a.txt.length : Nat) us' un') := by
  have hk : k ≤ t.length := by
    by_cases q : k ≤ t.length
    · exact q
    · rw [List.drop_eq_nil_of_le (by lia)] at hd
      have := congrArg List.length hd
      simp at this
  match a, ho, hd with
  | .one a, ho, hd =>
    obtain ⟨x, v, ex1, x1, x2, x3, x4⟩ := txt_head (a := a) ho
    refine ⟨us, .val (unD a.unit), hus, JK.val _, ?_⟩
    refine xs (xiff (ycmp (sl_eq (m := 6) hp hk) rfl (eq_f ?_)) ?_) xsk
    · rw [hd]
      show ¬ ((a.txt ++ (flatE l ++ [41, 92, 90])).take 6 = _)
      rw [ex1]
      intro e
      simp at e
      exact x1 e.1
    refine xs (xiff (ycmp (sl_eq (m := 2) hp hk) rfl (eq_f ?_)) ?_) xsk
    · rw [hd]
      show ¬ ((a.txt ++ (flatE l ++ [41, 92, 90])).take 2 = _)
      intro e
      by_cases q : x = 46
      · have := x4 q
        subst this
        obtain ⟨y, w, e1, e2⟩ := flat_head hl
        rw [e1] at e
        simp [Atom.txt] at e
        exact e2 e
      · rw [ex1] at e
        simp at e
        exact q e.1
    exact u_turn (us0 := []) hp hus hun ho hd (xs (xapp (ds := toks) rfl (by lia) (ytup (ycons rfl (ycons (ylst (ycons (yvar rfl) ynil) (by simp)) ynil)) (by simp)) rfl) xsk)
  | .run, _, hd =>
    refine ⟨us, un, hus, hun, ?_⟩
    refine xs (xiff (ycmp (sl_eq (m := 6) hp hk) rfl (eq_f ?_)) ?_) xsk
    · rw [hd]; intro e; simp [El.txt] at e
    refine xs (xift (ycmp (c := true) (sl_eq (m := 2) hp hk) rfl ?_) ?_) xsk
    · rw [hd]; exact eq_t
    refine xs (V' := KV t (toks ++ [El.run.tok]) k us un) (xapp (ds := toks) rfl (by lia) (ytup (ycons rfl (ycons (ylst ynil (by simp)) ynil)) (by simp)) rfl) ?_
    exact xs (xaug (i := k) (j := 2) rfl rfl (KV.na hus hun _) rfl) xsk
  | .held u, ho, hd =>
    have hd6 : t.drop (k + 6) = txtL u ++ 41 :: (flatE l ++ [41, 92, 90]) := by
      rw [← List.drop_drop, hd]
      simp [El.txt]
    have hul : u.length ≤ (txtL u).length := by
      have ho : u.all Atom.okU = true := ho
      clear hd hd6
      induction u with
      | nil => simp
      | cons a r ih =>
        rw [List.all_cons, Bool.and_eq_true] at ho
        obtain ⟨x, v, e, _⟩ := txt_head ho.1
        have := ih ho.2 ho.2
        simp [txtL, e] at this ⊢
        lia
    have hlen : (txtL u).length ≤ 900 + 100 - 7 := by
      have := congrArg List.length hd
      simp [El.txt] at this
      lia
    obtain ⟨un', hj', e⟩ := u_loop (toks := toks) hp u (k + 6) FU [] un hun (by show u.length < 1000; lia) (by simp; lia) ho hd6
    rw [List.nil_append] at e
    refine ⟨.val (unitsD u), un', JK.val _, hj', ?_⟩
    refine xs (xift (ycmp (c := true) (sl_eq (m := 6) hp hk) rfl ?_) ?_) xsk
    · rw [hd]; exact eq_t
    refine xs (V' := KV t toks (k + 6 : Nat) us un) (xaug (i := k) (j := 6) rfl rfl (KV.na hus hun _) rfl) ?_
    refine xs (V' := KV t toks (k + 6 : Nat) (.mu []) un) (xnewl ynil (by simp) (KV.na hus hun _) rfl) ?_
    refine xs (xwhl e) ?_
    refine xg (V' := KV t toks (k + 6 + (txtL u).length : Nat) (.val (unitsD u)) un') (xfrz rfl (KV.na (JK.mu _) hj' _) rfl) ?_
    refine xs (V' := KV t (toks ++ [(El.held u).tok]) (k + 6 + (txtL u).length : Nat) (.val (unitsD u)) un') (xapp (ds := toks) rfl (by lia) (ytup (ycons rfl (ycons (yvar rfl) ynil)) (by simp)) rfl) ?_
    have e1 : k + (El.held u).txt.length = k + 6 + (txtL u).length + 1 := by simp [El.txt]; lia
    rw [e1]
    exact xs (xaug (i := (k + 6 + (txtL u).length : Nat)) (j := 1) rfl rfl (KV.na (JK.val _) hj' _) rfl) xsk
theorem el_pos {a : El} (h : a.ok = true) : 1 ≤ a.txt.length := by
  match a, h with
  | .one a, h =>
    obtain ⟨x, v, e, _⟩ := txt_head (a := a) h
    simp [El.txt, e]
  | .run, _ => simp [El.txt]
  | .held u, _ => simp [El.txt]
theorem tk_lt {k : Nat} {toks : List D} {us un : CB} {b : Bool} (hp : t.length ≤ 1000) (h : decide ((k : Int) < (t.length : Int) - 3) = b) : asB (ev Φ1 tkT (KV t toks k us un)) = some b := by
  refine ycmp (y := .int ((t.length : Int) - 3)) (yvar rfl) (ybin (x := .int t.length) (y := .int 3) (ylen (yvar rfl) ?_) rfl rfl) (congrArg some h)
  show (if fit t = true then some (D.int t.length) else none) = _
  rw [if_pos (fit_iff.mpr (by lia))]
theorem els_loop (hp : t.length ≤ 1000) : ∀ (l : List El) (k n : Nat) (toks : List D) (us un : CB), JK us → JK un → l.length < n → toks.length + l.length ≤ 1000 → l.all El.ok = true → t.drop k = flatE l ++ [41, 92, 90] →
    ∃ k' us' un', JK us' ∧ JK un' ∧ whl Φ1 hZ FU tkT tkB n (KV t toks k us un) = some (.next, KV t (toks ++ l.map El.tok) k' us' un')
  | [], k, n, toks, us, un, h1, h2, hn, _, _, hd => by
    obtain ⟨n, rfl⟩ : ∃ m, n = m + 1 := ⟨n - 1, by simp at hn; lia⟩
    refine ⟨k, us, un, h1, h2, ?_⟩
    rw [List.map_nil, List.append_nil]
    refine wf (tk_lt hp (decide_eq_false ?_))
    have := congrArg List.length hd
    simp [flatE] at this
    lia
  | a :: l, k, n, toks, us, un, h1, h2, hn, hl, ho, hd => by
    obtain ⟨n, rfl⟩ : ∃ m, n = m + 1 := ⟨n - 1, by simp at hn; lia⟩
    rw [List.all_cons, Bool.and_eq_true] at ho
    simp only [List.length_cons] at hn hl
    have hd' : t.drop k = a.txt ++ (flatE l ++ [41, 92, 90]) := by rw [hd]; simp [flatE]
    obtain ⟨us1, un1, q1, q2, q3⟩ := el_step (toks := toks) hp h1 h2 (by lia) ho.1 ho.2 hd'
    have hnext : t.drop (k + a.txt.length) = flatE l ++ [41, 92, 90] := by
      rw [← List.drop_drop, hd']
      simp
    obtain ⟨k', us', un', r1, r2, r3⟩ := els_loop hp l (k + a.txt.length) n (toks ++ [a.tok]) us1 un1 q1 q2 (by lia) (by simp; lia) ho.2 hnext
    refine ⟨k', us', un', r1, r2, ?_⟩
    rw [show toks ++ [a.tok] ++ l.map El.tok = toks ++ (a :: l).map El.tok by simp] at r3
    refine wt (tk_lt hp (decide_eq_true ?_)) q3 r3
    have := congrArg List.length hd'
    have hpos := el_pos ho.1
    simp at this
    lia
end
theorem phi6 (a : D) : Φ2 6 [a] = run Φ1 hZ c_law_tokens n_law_tokens [a] := by
  have e : Φ2 6 [a] = if [a].length = 1 then run Φ1 hZ c_law_tokens n_law_tokens [a] else none := rfl
  rw [e, if_pos (show [a].length = 1 from rfl)]
theorem tokens_run {l : List El} (hp : (flatE l).length ≤ 900) (ho : l.all El.ok = true) : Φ2 6 [.str ([40, 63, 115, 58] ++ (flatE l ++ [41, 92, 90]))] = some (.lst (l.map El.tok)) := by
  rw [phi6]
  generalize ht : [40, 63, 115, 58] ++ (flatE l ++ [41, 92, 90]) = t
  have hlen : t.length = (flatE l).length + 7 := by rw [← ht]; simp
  have hll : l.length ≤ (flatE l).length := by
    clear hp ht hlen
    induction l with
    | nil => simp
    | cons a r ih =>
      rw [List.all_cons, Bool.and_eq_true] at ho
      have := ih ho.2
      have := el_pos ho.1
      simp [flatE] at *
      lia
  obtain ⟨k', us, un, h1, h2, e⟩ := els_loop (t := t) (by lia) l 4 FU [] .none .none JK.none JK.none (by show l.length < 1000; lia) (by simp; lia) ho (by rw [← ht]; rfl)
  rw [List.nil_append] at e
  refine run_of (V0 := [.val (.str t), .none, .none, .none, .none]) (V' := [.val (.str t), .val (.lst (l.map El.tok)), .val (.int k'), us, un]) rfl ?_
  rw [c_tk]
  have hf : fit t = true := fit_iff.mpr (by lia)
  have s1 : sliceD (.str t) none (some 4) = some (.str [40, 63, 115, 58]) := by
    have e : sliceD (.str t) none (some 4) = if fit t = true then some (.str (cut t none (some 4))) else none := rfl
    rw [e, if_pos hf]
    unfold cut
    simp only [Option.elim]
    have : clipAt t.length 4 = 4 := by
      unfold clipAt
      rw [if_neg (by lia)]; lia
    rw [this, ← ht]; rfl
  have s2 : sliceD (.str t) (some (-3)) none = some (.str [41, 92, 90]) := by
    have e : sliceD (.str t) (some (-3)) none = if fit t = true then some (.str (cut t (some (-3)) none)) else none := rfl
    rw [e, if_pos hf]
    unfold cut
    simp only [Option.elim]
    have : clipAt t.length (-3) = (flatE l).length + 4 := by
      unfold clipAt
      rw [if_pos (by lia)]; lia
    rw [this, List.take_of_length_le (by simp), ← ht]
    have e2 : [40, 63, 115, 58] ++ (flatE l ++ [41, 92, 90]) = ([40, 63, 115, 58] ++ flatE l) ++ [41, 92, 90] := by simp
    rw [e2, List.drop_left' (by simp)]
  refine xs (xiff (yorf (ycmp (ysl (yvar rfl) rfl rfl s1) rfl ne_f) (ycmp (ysl (yvar rfl) (l := some (-3)) rfl rfl s2) rfl ne_f)) xsk) ?_
  refine xs (V' := [.val (.str t), .mu [], .none, .none, .none]) (xnewl ynil (by simp) rfl rfl) ?_
  refine xs (V' := KV t [] (4 : Nat) .none .none) (xset rfl rfl rfl) ?_
  refine xs (xwhl e) ?_
  exact xg (xfrz rfl (KV.na h1 h2 _) rfl) (xs_ret (xret (yvar rfl)))
end Mine
end TP11
section TP12
open PySem PySem.W PyProof.Rows PySem.Calls
set_option maxRecDepth 100000
namespace Mine

/-! blocks -/
section
variable {Φ : Fn} {V : List CB}
theorem compL_map {F : D → Option (Option D)} {f : D → D} : ∀ {ds : List D}, (∀ d ∈ ds, F d = some (some (f d))) → compL F ds = some (ds.map f)
  | [], _ => rfl
  | d :: r, h => by
    rw [compL, h d List.mem_cons_self, Option.bind_some, compL_map (f := f) fun x hx => h x (List.mem_cons_of_mem _ hx)]
    rfl
theorem compL_filter {F : D → Option (Option D)} {c : D → Bool} {f : D → D} : ∀ {ds : List D}, (∀ d ∈ ds, F d = some (if c d then some (f d) else none)) → compL F ds = some ((ds.filter c).map f)
  | [], _ => rfl
  | d :: r, h => by
    rw [compL, h d List.mem_cons_self, Option.bind_some, compL_filter (c := c) (f := f) fun x hx => h x (List.mem_cons_of_mem _ hx)]
    by_cases q : c d = true
    · rw [if_pos q, List.filter_cons_of_pos q]; rfl
    · rw [if_neg q, List.filter_cons_of_neg q]; rfl
theorem ycomp {g : CG} {it el : CE} {d : D} {ds : List D} {f : D → D} (h1 : ev Φ it V = some d) (h2 : itemsD d = some ds) (hf : ds.length ≤ 16777216) (h : ∀ d ∈ ds, ∃ V', bindG g d (V.map CB.pure) = some V' ∧ ev Φ el V' = some (f d)) : ev Φ (.comp g it el .no) V = some (.lst (ds.map f)) := by
  refine bq h1 (bq h2 (bq (fitL_of hf) (mq (compL_map (f := f) fun x hx => ?_))))
  obtain ⟨V', e1, e2⟩ := h x hx
  exact bq e1 (bq (a := true) rfl (mq e2))
theorem ycompc {g : CG} {it el co : CE} {d : D} {ds : List D} {c : D → Bool} {f : D → D} (hco : ∀ o, condE o co = asB o) (h1 : ev Φ it V = some d) (h2 : itemsD d = some ds) (hf : ds.length ≤ 16777216)
    (h : ∀ d ∈ ds, ∃ V', bindG g d (V.map CB.pure) = some V' ∧ asB (ev Φ co V') = some (c d) ∧ (c d = true → ev Φ el V' = some (f d))) : ev Φ (.comp g it el co) V = some (.lst ((ds.filter c).map f)) := by
  refine bq h1 (bq h2 (bq (fitL_of hf) (mq (compL_filter (c := c) (f := f) fun x hx => ?_))))
  obtain ⟨V', e1, e2, e3⟩ := h x hx
  refine bq e1 (bq ((hco _).trans e2) ?_)
  cases q : c x
  · rfl
  · exact mq (e3 q)
theorem yanyc {a : CE} {bs : List Bool} (h : ev Φ a V = some (.lst (bs.map ofB))) : ev Φ (.anyc a) V = some (ofB (bs.any id)) := by
  refine bq h ?_
  show (anyB (bs.map ofB)).map _ = _
  have : anyB (bs.map ofB) = some (bs.any id) := by
    induction bs with
    | nil => rfl
    | cons b r ih =>
      show (anyB (r.map ofB)).map (b || ·) = _
      have h' : ∀ (r : List Bool), anyB (r.map ofB) = some (r.any id) := by
        intro r
        induction r with
        | nil => rfl
        | cons b r ih =>
          show (anyB (r.map ofB)).map (b || ·) = _
          rw [ih]; rfl
      rw [h']; rfl
  rw [this]; rfl
end
theorem anyEq_true : ∀ bs : List Bool, anyEq (ofB true) (bs.map ofB) = some (bs.any id)
  | [] => rfl
  | b :: r => by
    have ih := anyEq_true r
    rw [List.map_cons, anyEq, ih]
    show some ((b == true) || r.any id) = _
    cases b <;> rfl

/-! _law_fits -/
noncomputable def spIn (c : Nat) (s : Sp) : Bool := decide (s.1 ≤ c) && decide (c ≤ s.2)
noncomputable def acc (u : Un) (c : Nat) : Bool := u.1 != u.2.any (spIn c)
noncomputable def unitFits (u : Un) (g : List Nat) : Bool := g.any (acc u)
noncomputable def fitsF : List Un → List (List Nat) → Bool
  | [], _ => true
  | _ :: _, [] => false
  | u :: us, x :: xs => unitFits u x && fitsF us xs
theorem fitsF_len : ∀ {us : List Un} {xs : List (List Nat)}, fitsF us xs = true → us.length ≤ xs.length
  | [], _, _ => by simp
  | u :: us, [], h => by simp [fitsF] at h
  | u :: us, x :: xs, h => by
    simp only [fitsF, Bool.and_eq_true] at h
    have := fitsF_len h.2
    simp; lia
/-- a name as the law reads it -/
noncomputable def Nm (d : D) (g : List (List Nat)) : Prop := d = .lst (g.map .str) ∨ ∃ s, d = .str s ∧ g = s.map fun c => [c]
theorem Nm.len {d : D} {g : List (List Nat)} (h : Nm d g) (hl : g.length ≤ 1000) : lenD d = some (.int g.length) := by
  rcases h with rfl | ⟨s, rfl, rfl⟩
  · show (if fit (g.map D.str) = true then some (D.int (g.map D.str).length) else none) = _
    rw [if_pos (fit_iff.mpr (by simp; lia)), List.length_map]
  · simp at hl
    show (if fit s = true then some (D.int s.length) else none) = _
    rw [if_pos (fit_iff.mpr (by lia)), List.length_map]
theorem Nm.idx {d : D} {g : List (List Nat)} (h : Nm d g) (hl : g.length ≤ 1000) {i : Nat} {x : List Nat} (hx : g[i]? = some x) : idxD d (i : Int) = some (.str x) := by
  have hlt : i < g.length := (List.getElem?_eq_some_iff.mp hx).1
  rcases h with rfl | ⟨s, rfl, rfl⟩
  · exact pick_nat (by rw [List.getElem?_map, hx]; rfl) (by lia)
  · rw [List.getElem?_map] at hx
    cases q : s[i]? with
    | none => rw [q] at hx; simp at hx
    | some c =>
      rw [q] at hx
      simp at hx
      subst hx
      exact idx_at (by simpa using hl) q

noncomputable abbrev ftC : CE := .cmp .NotIn (.bool true) (.comp (.nm 8) (.idx (.var 1) (.bin .Add (.var 2) (.var 3))) (.cmp .NotEq (.var 4) (.anyc (.comp (.tp [6, 7]) (.var 5) (.chain .LtE .LtE (.var 6) (.var 8) (.var 7)) .no))) .no)
noncomputable abbrev ftB : CS := .sq (.ifs ftC (.sq (.ret (.bool false)) <| .sk) (.sk)) <| .sk
theorem c_ft : c_law_fits =
  (.sq (.ifs (.cmp .Gt (.bin .Add (.var 2) (.len (.var 0))) (.len (.var 1))) (.sq (.ret (.bool false)) <| .sk) (.sk)) <|
  .sq (.fre 3 [4, 5] (.var 0) ftB) <|
  .sq (.ret (.bool true)) <|
  .sk) := rfl
noncomputable def FV (us nm : D) (p : Int) (k b sp f l sg : CB) : List CB := [.val us, .val nm, .val (.int p), k, b, sp, f, l, sg]
theorem FV.na {us nm : D} {p : Int} {k b sp f l sg : CB} (h1 : JK k) (h2 : JK b) (h3 : JK sp) (h4 : JK f) (h5 : JK l) (h6 : JK sg) (x : Nat) : noApp (FV us nm p k b sp f l sg) x = true :=
  na_cons rfl <| na_cons rfl <| na_cons rfl <| na_cons (h1 _) <| na_cons (h2 _) <| na_cons (h3 _) <| na_cons (h4 _) <| na_cons (h5 _) <| na_cons (h6 _) rfl
theorem le_str (a b : Nat) : cmpD .LtE (.str [a]) (.str [b]) = some (decide (a ≤ b)) := by
  have e : cmpD .LtE (.str [a]) (.str [b]) = some (!decide ([b] < [a])) := rfl
  rw [e]
  congr 1
  by_cases h : a ≤ b
  · rw [decide_eq_true h]
    have : ¬ [b] < [a] := by simp [List.cons_lt_cons_iff]; lia
    rw [decide_eq_false this]; rfl
  · rw [decide_eq_false h]
    have : [b] < [a] := by simp [List.cons_lt_cons_iff]; lia
    rw [decide_eq_true this]; rfl
theorem ychain {Φ : Fn} {V : List CB} {a b c : Nat} {x y z : CE} (h1 : ev Φ x V = some (.str [a])) (h2 : ev Φ y V = some (.str [b])) (h3 : ev Φ z V = some (.str [c])) : ev Φ (.chain .LtE .LtE x y z) V = some (ofB (decide (a ≤ b) && decide (b ≤ c))) := by
  refine bq h1 (bq h2 (bq (le_str _ _) ?_))
  cases h : decide (a ≤ b)
  · rfl
  · exact bq h3 (mq (le_str _ _))
section
variable {us nm : D} {g : List (List Nat)}
theorem ft_test {p k : Nat} {u : Un} {x : List Nat} {f l sg : CB} (hn : Nm nm g) (hl : g.length ≤ 1000) (hx : g[p + k]? = some x) (hu : u.2.length ≤ 1000) (hxl : x.length ≤ 1000) (jf : JK f) (jl : JK l) (jg : JK sg) :
    asB (ev Φ0 ftC (FV us nm p (.val (.int k)) (.val (ofB u.1)) (.val (.lst (u.2.map spD))) f l sg)) = some !(unitFits u x) := by
  have pj : ∀ {c : CB}, JK c → JK c.pure := fun {c} h => by cases c <;> exact fun _ => rfl
  refine ycmp (x := ofB true) (y := .lst ((x.map fun c => ofB (acc u c)))) rfl ?_ ?_
  · have e : (x.map fun c => ofB (acc u c)) = (x.map fun c => D.str [c]).map fun d => match d with | .str [c] => ofB (acc u c) | _ => ofB false := by simp
    rw [e]
    refine ycomp (d := .str x) (yidx (j := ((p + k : Nat) : Int)) (yvar rfl) (ybin (yvar rfl) (yvar rfl) rfl) (hn.idx hl hx)) rfl (by simp; lia) fun d hd => ?_
    obtain ⟨c, hc, rfl⟩ := List.mem_map.mp hd
    refine ⟨FV us nm p (.val (.int k)) (.val (ofB u.1)) (.val (.lst (u.2.map spD))) f.pure l.pure (.val (.str [c])), setV_of (FV.na (JK.val _) (JK.val _) (JK.val _) (pj jf) (pj jl) (pj jg) _) rfl, ?_⟩
    show _ = some (ofB (u.1 != u.2.any (spIn c)))
    have e2 : ∀ (b1 b2 : Bool), cmpD .NotEq (ofB b1) (ofB b2) = some (b1 != b2) := fun _ _ => rfl
    refine ycmpv (yvar rfl) (yanyc (bs := u.2.map (spIn c)) ?_) ((e2 _ _).trans ?_)
    · have e3 : (u.2.map (spIn c)).map ofB = (u.2.map spD).map fun d => match d with | .tup [.str [a], .str [b]] => ofB (spIn c (a, b)) | _ => ofB false := by simp [spD]
      rw [e3]
      refine ycomp (d := .lst (u.2.map spD)) (yvar rfl) rfl (by simp; lia) fun d hd => ?_
      obtain ⟨s, hs, rfl⟩ := List.mem_map.mp hd
      refine ⟨FV us nm p (.val (.int k)) (.val (ofB u.1)) (.val (.lst (u.2.map spD))) (.val (.str [s.1])) (.val (.str [s.2])) (.val (.str [c])), ?_, ychain (yvar rfl) (yvar rfl) (yvar rfl)⟩
      have hV : (FV us nm p (.val (.int k)) (.val (ofB u.1)) (.val (.lst (u.2.map spD))) f.pure l.pure (.val (.str [c]))).map CB.pure = FV us nm p (.val (.int k)) (.val (ofB u.1)) (.val (.lst (u.2.map spD))) f.pure.pure l.pure.pure (.val (.str [c])) := rfl
      rw [hV]
      show setsV [6, 7] [.str [s.1], .str [s.2]] _ = _
      refine setsV_c (V' := FV us nm p (.val (.int k)) (.val (ofB u.1)) (.val (.lst (u.2.map spD))) (.val (.str [s.1])) l.pure.pure (.val (.str [c]))) (FV.na (JK.val _) (JK.val _) (JK.val _) (pj (pj jf)) (pj (pj jl)) (JK.val _) _) rfl ?_
      refine setsV_c (V' := FV us nm p (.val (.int k)) (.val (ofB u.1)) (.val (.lst (u.2.map spD))) (.val (.str [s.1])) (.val (.str [s.2])) (.val (.str [c]))) (FV.na (JK.val _) (JK.val _) (JK.val _) (JK.val _) (pj (pj jl)) (JK.val _) _) rfl ?_
      rfl
    · simp
  · have e : (x.map fun c => ofB (acc u c)) = (x.map (acc u)).map ofB := by simp
    rw [e]
    show (anyEq (ofB true) ((x.map (acc u)).map ofB)).map (!·) = _
    rw [anyEq_true]
    simp [unitFits]
theorem ft_loop {p : Nat} (hn : Nm nm g) (hl : g.length ≤ 1000) (hgl : ∀ x ∈ g, x.length ≤ 1000) : ∀ (us' : List Un) (k : Nat) (kk b sp f l sg : CB), JK kk → JK b → JK sp → JK f → JK l → JK sg → (∀ u ∈ us', u.2.length ≤ 1000) → p + k + us'.length ≤ g.length →
    ∃ V', frl Φ0 hZ FU (bindE 3 [4, 5]) ftB (enumD k (us'.map unD)) (FV us nm p kk b sp f l sg) = some (if fitsF us' (g.drop (p + k)) then .next else .ret (ofB false), V')
  | [], k, kk, b, sp, f, l, sg, _, _, _, _, _, _, _, _ => ⟨_, rfl⟩
  | u :: us', k, kk, b, sp, f, l, sg, j1, j2, j3, j4, j5, j6, hu, hle => by
    simp only [List.length_cons] at hle
    have hlt : p + k < g.length := by lia
    have hx : g[p + k]? = some g[p + k] := List.getElem?_eq_getElem hlt
    have hdrop : g.drop (p + k) = g[p + k] :: g.drop (p + (k + 1)) := by
      rw [List.drop_eq_getElem_cons hlt]; rfl
    have hb : bindE 3 [4, 5] (.tup [.int k, unD u]) (FV us nm p kk b sp f l sg) = some (FV us nm p (.val (.int k)) (.val (ofB u.1)) (.val (.lst (u.2.map spD))) f l sg) := by
      show (setV _ 3 (.val (.int k))).bind _ = _
      rw [setV_of (V' := FV us nm p (.val (.int k)) b sp f l sg) (FV.na j1 j2 j3 j4 j5 j6 _) rfl, Option.bind_some]
      refine setsV_c (V' := FV us nm p (.val (.int k)) (.val (ofB u.1)) sp f l sg) (FV.na (JK.val _) j2 j3 j4 j5 j6 _) rfl ?_
      refine setsV_c (V' := FV us nm p (.val (.int k)) (.val (ofB u.1)) (.val (.lst (u.2.map spD))) f l sg) (FV.na (JK.val _) (JK.val _) j3 j4 j5 j6 _) rfl ?_
      rfl
    have ht := ft_test (us := us) (f := f) (l := l) (sg := sg) hn hl hx (hu u List.mem_cons_self) (hgl _ (List.getElem_mem hlt)) j4 j5 j6
    rw [hdrop]
    show ∃ V', frl Φ0 hZ FU (bindE 3 [4, 5]) ftB (.tup [.int k, unD u] :: enumD (k + 1) (us'.map unD)) _ = some (if (unitFits u g[p + k] && fitsF us' (g.drop (p + (k + 1)))) = true then _ else _, V')
    cases hfit : unitFits u g[p + k]
    · rw [hfit] at ht
      exact ⟨_, fr_ret hb (xs_ret (xift ht (xs_ret (xret rfl))))⟩
    · rw [hfit] at ht
      obtain ⟨V', e⟩ := ft_loop (p := p) hn hl hgl us' (k + 1) (.val (.int k)) (.val (ofB u.1)) (.val (.lst (u.2.map spD))) f l sg (JK.val _) (JK.val _) (JK.val _) j4 j5 j6 (fun v hv => hu v (List.mem_cons_of_mem _ hv)) (by lia)
      rw [Bool.true_and]
      exact ⟨V', fc hb (xs (xiff ht xsk) xsk) e⟩
end
theorem phi7 (a b c : D) : Φ1 7 [a, b, c] = run Φ0 hZ c_law_fits n_law_fits [a, b, c] := by
  have e : Φ1 7 [a, b, c] = if [a, b, c].length = 3 then run Φ0 hZ c_law_fits n_law_fits [a, b, c] else none := rfl
  rw [e, if_pos (show [a, b, c].length = 3 from rfl)]
theorem fits_run {nm : D} {g : List (List Nat)} {us : List Un} {p : Nat} (hn : Nm nm g) (hl : g.length ≤ 1000) (hgl : ∀ x ∈ g, x.length ≤ 1000) (hu : ∀ u ∈ us, u.2.length ≤ 1000) (hul : us.length ≤ 1000) (hpg : p ≤ g.length) :
    Φ1 7 [.lst (us.map unD), nm, .int p] = some (ofB (fitsF us (g.drop p))) := by
  rw [phi7]
  have hlu : lenD (.lst (us.map unD)) = some (.int us.length) := by
    show (if fit (us.map unD) = true then some (D.int (us.map unD).length) else none) = _
    rw [if_pos (fit_iff.mpr (by simp; lia)), List.length_map]
  have e1 : ∀ V : List CB, V = FV (.lst (us.map unD)) nm p .none .none .none .none .none .none → ev Φ0 (.bin .Add (.var 2) (.len (.var 0))) V = some (.int (p + us.length : Nat)) := fun V e => by
    subst e
    exact ybin (yvar rfl) (ylen (yvar rfl) hlu) rfl
  have e2 : ev Φ0 (.len (.var 1)) (FV (.lst (us.map unD)) nm p .none .none .none .none .none .none) = some (.int g.length) := ylen (yvar rfl) (hn.len hl)
  by_cases q : p + us.length ≤ g.length
  · obtain ⟨V', e⟩ := ft_loop (us := .lst (us.map unD)) (p := p) hn hl hgl us 0 .none .none .none .none .none .none JK.none JK.none JK.none JK.none JK.none JK.none hu (by lia)
    rw [Nat.add_zero] at e
    have gt : cmpD .Gt (.int (p + us.length : Nat)) (.int g.length) = some false := congrArg some (decide_eq_false (by lia))
    cases hfit : fitsF us (g.drop p)
    · rw [hfit] at e
      refine run_of (V0 := FV (.lst (us.map unD)) nm p .none .none .none .none .none .none) (V' := V') rfl ?_
      rw [c_ft]
      refine xs (xiff (ycmp (e1 _ rfl) e2 gt) xsk) ?_
      exact xs_ret (xfre (yvar rfl) e)
    · rw [hfit] at e
      refine run_of (V0 := FV (.lst (us.map unD)) nm p .none .none .none .none .none .none) (V' := V') rfl ?_
      rw [c_ft]
      refine xs (xiff (ycmp (e1 _ rfl) e2 gt) xsk) ?_
      exact xs (xfre (yvar rfl) e) (xs_ret (xret rfl))
  · have gt : cmpD .Gt (.int (p + us.length : Nat)) (.int g.length) = some true := congrArg some (decide_eq_true (by lia))
    have hfit : fitsF us (g.drop p) = false := by
      cases h : fitsF us (g.drop p)
      · rfl
      · have := fitsF_len h
        simp at this
        lia
    rw [hfit]
    refine run_of (V0 := FV (.lst (us.map unD)) nm p .none .none .none .none .none .none) (V' := FV (.lst (us.map unD)) nm p .none .none .none .none .none .none) rfl ?_
    rw [c_ft]
    exact xs_ret (xift (ycmp (e1 _ rfl) e2 gt) (xs_ret (xret rfl)))
end Mine
end TP12
section TP13
open PySem PySem.W PyProof.Rows PySem.Calls
set_option maxRecDepth 100000
namespace Mine

/-! places -/
noncomputable def intN (p : Nat) : D := .int (p : Int)
noncomputable def psD (ps : List Nat) : D := .lst (ps.map intN)
noncomputable def rangeF (n p : Nat) : List Nat := List.range' p (n + 1 - p)
noncomputable def runF (n : Nat) : List Nat → List Nat
  | [] => []
  | p :: _ => rangeF n p
noncomputable def stepF (pred : List Nat → Bool) (g : List (List Nat)) (ps : List Nat) : List Nat := (ps.filter fun p => match g[p]? with | some x => pred x | none => false).map (· + 1)
noncomputable def ffit (us : List Un) (g : List (List Nat)) (p : Nat) : Option Nat := ((rangeF g.length p).find? fun q => fitsF us (g.drop q)).map (· + us.length)
noncomputable def El.step (g : List (List Nat)) : El → List Nat → List Nat
  | .one a, ps => stepF (unitFits a.unit) g ps
  | .run, ps => runF g.length ps
  | .held l, ps => ps.filterMap (ffit (l.map Atom.unit) g)
noncomputable def itemFits (it x : List Nat) : Bool := it == [63] || x.any fun c => decide (c ∈ it)
noncomputable def meetF (g : List (List Nat)) (it : List Nat) (ps : List Nat) : List Nat := if it = [42] then runF g.length ps else stepF (itemFits it) g ps

/-- the places that a list holds are the name's -/
noncomputable def Pl (g : List (List Nat)) (ps : List Nat) : Prop := ps.length ≤ g.length + 1 ∧ ∀ p ∈ ps, p ≤ g.length
theorem Pl.step {g : List (List Nat)} {pred : List Nat → Bool} {ps : List Nat} (h : Pl g ps) : Pl g (stepF pred g ps) := by
  refine ⟨?_, fun p hp => ?_⟩
  · unfold stepF
    rw [List.length_map]
    exact Nat.le_trans (List.length_filter_le _ _) h.1
  · unfold stepF at hp
    obtain ⟨q, hq, rfl⟩ := List.mem_map.mp hp
    have := (List.mem_filter.mp hq).2
    split at this
    · rename_i x e
      exact (List.getElem?_eq_some_iff.mp e).1
    · cases this
theorem mem_rangeF {n p q : Nat} : q ∈ rangeF n p ↔ p ≤ q ∧ q ≤ n := by
  unfold rangeF
  rw [List.mem_range'_1]
  lia
theorem Pl.run {g : List (List Nat)} {ps : List Nat} : Pl g (runF g.length ps) := by
  cases ps with
  | nil => exact ⟨by simp [runF], fun p hp => by simp [runF] at hp⟩
  | cons p r =>
    refine ⟨?_, fun q hq => (mem_rangeF.mp hq).2⟩
    show (List.range' p (g.length + 1 - p)).length ≤ _
    rw [List.length_range']; lia
theorem ffit_le {us : List Un} {g : List (List Nat)} {p q : Nat} (h : ffit us g p = some q) : q ≤ g.length ∧ p + us.length ≤ q := by
  unfold ffit at h
  obtain ⟨x, e, rfl⟩ := ms h
  have h1 := List.find?_some e
  have h2 := mem_rangeF.mp (List.mem_of_find?_eq_some e)
  have h3 := fitsF_len h1
  simp at h3
  lia
theorem Pl.held {g : List (List Nat)} {us : List Un} {ps : List Nat} (h : Pl g ps) : Pl g (ps.filterMap (ffit us g)) := by
  refine ⟨Nat.le_trans (List.length_filterMap_le _ _) h.1, fun q hq => ?_⟩
  obtain ⟨p, _, e⟩ := List.mem_filterMap.mp hq
  exact (ffit_le e).1
theorem Pl.el {g : List (List Nat)} {a : El} {ps : List Nat} (h : Pl g ps) : Pl g (a.step g ps) := by
  cases a with
  | one a => exact h.step
  | run => exact Pl.run
  | held l => exact h.held
theorem Pl.meet {g : List (List Nat)} {it ps : List Nat} (h : Pl g ps) : Pl g (meetF g it ps) := by
  unfold meetF
  split
  · exact Pl.run
  · exact h.step
theorem rangeF_cons {n p : Nat} (h : p ≤ n) : rangeF n p = p :: rangeF n (p + 1) := by
  unfold rangeF
  rw [show n + 1 - p = (n - p) + 1 by lia, List.range'_succ, show n + 1 - (p + 1) = n - p by lia]
theorem rngL_range (p n : Nat) : rngL (p : Int) (((n : Int) + 1) - (p : Int)).toNat = (rangeF n p).map intN := by
  unfold rngL rangeF
  rw [show (((n : Int) + 1) - (p : Int)).toNat = n + 1 - p by lia, List.range'_eq_map_range, List.map_map]
  apply List.map_congr_left
  intro i _
  show D.int _ = D.int _
  congr 1
theorem filter_int (ps : List Nat) (c : Nat → Bool) : (ps.map intN).filter (fun d => match d with | .int i => c i.toNat | _ => false) = (ps.filter c).map intN := by
  rw [List.filter_map]
  congr 1
theorem yrun {Φ : Fn} {V : List CB} {nm : D} {g : List (List Nat)} {ps : List Nat} (hn : Nm nm g) (hl : g.length ≤ 1000) (hp : Pl g ps) (h1 : gv V 1 = some nm) (h2 : gv V 2 = some (psD ps)) :
    ev Φ (.ite (.tv (.var 2)) (.lrg (.idx (.var 2) (.int 0)) (.bin .Add (.len (.var 1)) (.int 1))) (.lst .nil)) V = some (psD (runF g.length ps)) := by
  have hpl := hp.1
  have ht : truthD (psD ps) = some (!(ps.map intN).isEmpty) := by
    show (if fit (ps.map intN) = true then some (!(ps.map intN).isEmpty) else none) = _
    rw [if_pos (fit_iff.mpr (by simp; lia))]
  match ps, hp, h2, ht with
  | [], _, h2, ht => exact yitef (ytv (yvar h2) ht) (ylst (ds := []) ynil (by simp))
  | p :: r, hp, h2, ht =>
    have hple := hp.2 p List.mem_cons_self
    refine yitet (ytv (yvar h2) ht) ?_
    have e1 : ev Φ (.idx (.var 2) (.int 0)) V = some (.int (p : Int)) := yidx (j := 0) (yvar h2) rfl rfl
    have e2 : ev Φ (.bin .Add (.len (.var 1)) (.int 1)) V = some (.int ((g.length : Int) + 1)) := ybin (ylen (yvar h1) (hn.len hl)) rfl rfl
    refine bq e1 (bq e2 ?_)
    show (if 0 ≤ (p : Int) ∧ (p : Int) ≤ 16777216 ∧ 0 ≤ (g.length : Int) + 1 ∧ (g.length : Int) + 1 ≤ 16777216 then some (D.lst (rngL (p : Int) ((g.length : Int) + 1 - (p : Int)).toNat)) else none) = _
    rw [if_pos ⟨by lia, by lia, by lia, by lia⟩, rngL_range]; rfl
theorem anyEq_int (n : Nat) : ∀ ps : List Nat, anyEq (.int (n : Int)) (ps.map intN) = some (decide (n ∈ ps))
  | [] => rfl
  | p :: r => by
    rw [List.map_cons, anyEq, anyEq_int n r]
    show some (((p : Int) == (n : Int)) || decide (n ∈ r)) = _
    congr 1
    by_cases h : n = p
    · subst h; simp
    · have h1 : ((p : Int) == (n : Int)) = false := by simp; lia
      rw [h1]
      simp [h]
theorem yin {Φ : Fn} {V : List CB} {nm : D} {g : List (List Nat)} {ps : List Nat} (hn : Nm nm g) (hl : g.length ≤ 1000) (h1 : gv V 1 = some nm) (h2 : gv V 2 = some (psD ps)) : ev Φ (.cmp .In (.len (.var 1)) (.var 2)) V = some (ofB (decide (g.length ∈ ps))) :=
  ycmpv (ylen (yvar h1) (hn.len hl)) (yvar h2) (anyEq_int g.length ps)

/-! _law_meets -/
noncomputable abbrev mtC1 : CE := .cmp .Lt (.var 5) (.len (.var 1))
noncomputable abbrev mtC2 : CE := .orr (.cmp .Eq (.var 3) (.str [63])) (.cmp .In (.bool true) (.comp (.nm 6) (.idx (.var 1) (.var 5)) (.cmp .In (.var 6) (.var 3)) .no))
noncomputable abbrev rnE : CE := .ite (.tv (.var 2)) (.lrg (.idx (.var 2) (.int 0)) (.bin .Add (.len (.var 1)) (.int 1))) (.lst .nil)
noncomputable abbrev mtS : CS := .sq (.ifs (.cmp .Eq (.var 3) (.str [42])) (.sq (.set 2 rnE) <| .sk) (.sq (.setc 4 (.comp (.nm 5) (.var 2) (.var 5) mtC1)) <|
  .sq (.setc 2 (.comp (.nm 5) (.var 4) (.bin .Add (.var 5) (.int 1)) mtC2)) <| .sk)) <| .sk
theorem c_mt : c_law_meets =
  (.sq (.set 2 (.lst (.cons (.int 0) .nil))) <|
  .sq (.fr (.nm 3) (.var 0) mtS) <|
  .sq (.ret (.cmp .In (.len (.var 1)) (.var 2))) <| .sk) := rfl
noncomputable def MV (its nm : D) (ps : List Nat) (it ah pl sg : CB) : List CB := [.val its, .val nm, .val (psD ps), it, ah, pl, sg]
theorem MV.na {its nm : D} {ps : List Nat} {it ah pl sg : CB} (h1 : JK it) (h2 : JK ah) (h3 : JK pl) (h4 : JK sg) (x : Nat) : noApp (MV its nm ps it ah pl sg) x = true :=
  na_cons rfl <| na_cons rfl <| na_cons rfl <| na_cons (h1 _) <| na_cons (h2 _) <| na_cons (h3 _) <| na_cons (h4 _) rfl
theorem JK.pure {c : CB} (h : JK c) : JK c.pure := by cases c <;> exact fun _ => rfl
section
variable {its nm : D} {g : List (List Nat)}
theorem mt_step {ps it : List Nat} {ah pl sg : CB} (hn : Nm nm g) (hl : g.length ≤ 1000) (hgl : ∀ x ∈ g, x.length ≤ 1000) (hp : Pl g ps) (j1 : JK ah) (j2 : JK pl) (j3 : JK sg) :
    ∃ ah', JK ah' ∧ ex Φ0 hZ FU mtS (MV its nm ps (.val (.str it)) ah pl sg) = some (.next, MV its nm (meetF g it ps) (.val (.str it)) ah' pl sg) := by
  have hpl := hp.1
  by_cases q : it = [42]
  · subst q
    refine ⟨ah, j1, ?_⟩
    have e : meetF g [42] ps = runF g.length ps := if_pos rfl
    rw [e]
    exact xs (xift (ycmp (yvar rfl) rfl eq_t) (xs (xset (yrun hn hl hp rfl rfl) (MV.na (JK.val _) j1 j2 j3 _) rfl) xsk)) xsk
  · have e : meetF g it ps = stepF (itemFits it) g ps := if_neg q
    rw [e]
    have hV : ∀ (a b : CB), (MV its nm ps (.val (.str it)) a b sg).map CB.pure = MV its nm ps (.val (.str it)) a.pure b.pure sg.pure := fun _ _ => rfl
    have c1 : ev Φ0 (.comp (.nm 5) (.var 2) (.var 5) mtC1) (MV its nm ps (.val (.str it)) ah pl sg) = some (psD (ps.filter fun p => decide (p < g.length))) := by
      have := ycompc (Φ := Φ0) (V := MV its nm ps (.val (.str it)) ah pl sg) (g := .nm 5) (it := .var 2) (el := .var 5) (co := mtC1) (c := fun d => match d with | .int i => decide (i.toNat < g.length) | _ => false) (f := fun d => d) (fun _ => rfl) (yvar rfl) (d := psD ps) (ds := ps.map intN) rfl (by simp; lia) fun d hd => by
        obtain ⟨p, hp', rfl⟩ := List.mem_map.mp hd
        refine ⟨MV its nm ps (.val (.str it)) ah.pure (.val (intN p)) sg.pure, setV_of (by rw [hV]; exact MV.na (JK.val _) j1.pure j2.pure j3.pure _) rfl, ?_, fun _ => yvar rfl⟩
        refine ycmp (yvar rfl) (ylen (yvar rfl) (hn.len hl)) ?_
        show some (decide ((p : Int) < (g.length : Int))) = some (decide (((p : Int)).toNat < g.length))
        congr 1
        rw [decide_eq_decide]
        lia
      rw [this, filter_int ps (fun p => decide (p < g.length))]
      simp [psD]
    have c2 : ∀ {qs : List Nat}, qs.length ≤ 2000 → (∀ p ∈ qs, p < g.length) → ev Φ0 (.comp (.nm 5) (.var 4) (.bin .Add (.var 5) (.int 1)) mtC2) (MV its nm ps (.val (.str it)) (.val (psD qs)) pl sg) = some (psD (stepF (itemFits it) g qs)) := fun {qs} hql hq => by
      have := ycompc (Φ := Φ0) (V := MV its nm ps (.val (.str it)) (.val (psD qs)) pl sg) (g := .nm 5) (it := .var 4) (el := .bin .Add (.var 5) (.int 1)) (co := mtC2) (c := fun d => match d with | .int i => (match g[i.toNat]? with | some x => itemFits it x | none => false) | _ => false) (f := fun d => match d with | .int i => .int (i + 1) | d => d) (fun _ => rfl) (yvar rfl) (d := psD qs) (ds := qs.map intN) rfl (by simp; lia) fun d hd => by
        obtain ⟨p, hp', rfl⟩ := List.mem_map.mp hd
        have hlt := hq p hp'
        have hx : g[p]? = some g[p] := List.getElem?_eq_getElem hlt
        refine ⟨MV its nm ps (.val (.str it)) (.val (psD qs)) (.val (intN p)) sg.pure, setV_of (by rw [hV]; exact MV.na (JK.val _) (JK.val _) j2.pure j3.pure _) rfl, ?_, fun _ => ybin (yvar rfl) rfl rfl⟩
        show _ = some (match g[((p : Int)).toNat]? with | some x => itemFits it x | none => false)
        rw [show ((p : Int)).toNat = p by lia, hx]
        dsimp only
        unfold itemFits
        by_cases q63 : it = [63]
        · subst q63
          exact yort (ycmp (yvar rfl) rfl eq_t)
        · have hb : (it == [63]) = false := by simpa using q63
          rw [hb, Bool.false_or]
          refine yorf (ycmp (yvar rfl) rfl (eq_f q63)) ?_
          refine ycmp (x := ofB true) (y := .lst ((g[p].map fun c => decide (c ∈ it)).map ofB)) rfl ?_ ?_
          · have e : (g[p].map fun c => decide (c ∈ it)).map ofB = (g[p].map fun c => D.str [c]).map fun d => match d with | .str [c] => ofB (decide (c ∈ it)) | _ => ofB false := by simp
            rw [e]
            have hgp := hgl _ (List.getElem_mem hlt)
            refine ycomp (d := .str g[p]) (yidx (j := (p : Int)) (yvar rfl) (yvar rfl) (hn.idx hl hx)) rfl (by simp; lia) fun d hd => ?_
            obtain ⟨c, hc, rfl⟩ := List.mem_map.mp hd
            exact ⟨MV its nm ps (.val (.str it)) (.val (psD qs)) (.val (intN p)) (.val (.str [c])), setV_of (MV.na (JK.val _) (JK.val _) (JK.val _) j3.pure.pure _) rfl, ycmpv (yvar rfl) (yvar rfl) (in1 c it)⟩
          · show anyEq (ofB true) _ = _
            rw [anyEq_true]
            simp
      rw [this, filter_int qs (fun p => match g[p]? with | some x => itemFits it x | none => false)]
      simp [psD, stepF, intN]
    have hs : stepF (itemFits it) g (ps.filter fun p => decide (p < g.length)) = stepF (itemFits it) g ps := by
      unfold stepF
      rw [List.filter_filter]
      congr 1
      apply List.filter_congr
      intro p _
      cases h : g[p]? with
      | none => simp
      | some x =>
        have := (List.getElem?_eq_some_iff.mp h).1
        simp [this]
    refine ⟨.val (psD (ps.filter fun p => decide (p < g.length))), JK.val _, ?_⟩
    refine xs (xiff (ycmp (yvar rfl) rfl (eq_f q)) ?_) xsk
    refine xs (V' := MV its nm ps (.val (.str it)) (.val (psD (ps.filter fun p => decide (p < g.length)))) pl sg) (xsetc c1 (MV.na (JK.val _) j1 j2 j3 _) rfl) ?_
    refine xs (xsetc (d := psD (stepF (itemFits it) g ps)) ?_ (MV.na (JK.val _) (JK.val _) j2 j3 _) rfl) xsk
    have := c2 (qs := ps.filter fun p => decide (p < g.length)) (Nat.le_trans (List.length_filter_le _ _) (by lia)) fun p hp => by simpa using (List.mem_filter.mp hp).2
    rw [hs] at this
    exact this
theorem mt_loop (hn : Nm nm g) (hl : g.length ≤ 1000) (hgl : ∀ x ∈ g, x.length ≤ 1000) : ∀ (l : List (List Nat)) (ps : List Nat) (it ah pl sg : CB), JK it → JK ah → JK pl → JK sg → Pl g ps →
    ∃ it' ah', JK it' ∧ JK ah' ∧ frl Φ0 hZ FU (bindG (.nm 3)) mtS (l.map .str) (MV its nm ps it ah pl sg) = some (.next, MV its nm (l.foldl (fun ps it => meetF g it ps) ps) it' ah' pl sg)
  | [], ps, it, ah, pl, sg, j0, j1, _, _, _ => ⟨it, ah, j0, j1, rfl⟩
  | x :: l, ps, it, ah, pl, sg, j0, j1, j2, j3, hp => by
    obtain ⟨ah', j1', e⟩ := mt_step (its := its) (it := x) hn hl hgl hp j1 j2 j3
    obtain ⟨it', ah'', q1, q2, e2⟩ := mt_loop hn hl hgl l (meetF g x ps) (.val (.str x)) ah' pl sg (JK.val _) j1' j2 j3 hp.meet
    exact ⟨it', ah'', q1, q2, fc (V1 := MV its nm ps (.val (.str x)) ah pl sg) (setV_of (MV.na j0 j1 j2 j3 _) rfl) e e2⟩
end
theorem phi11 (a b : D) : Φ1 11 [a, b] = run Φ0 hZ c_law_meets n_law_meets [a, b] := by
  have e : Φ1 11 [a, b] = if [a, b].length = 2 then run Φ0 hZ c_law_meets n_law_meets [a, b] else none := rfl
  rw [e, if_pos (show [a, b].length = 2 from rfl)]
noncomputable def meetsF (g : List (List Nat)) (l : List (List Nat)) : Bool := decide (g.length ∈ l.foldl (fun ps it => meetF g it ps) [0])
theorem meets_run {nm : D} {g : List (List Nat)} {l : List (List Nat)} (hn : Nm nm g) (hl : g.length ≤ 1000) (hgl : ∀ x ∈ g, x.length ≤ 1000) : Φ1 11 [.lst (l.map .str), nm] = some (ofB (meetsF g l)) := by
  rw [phi11]
  obtain ⟨it', ah', q1, q2, e⟩ := mt_loop (its := .lst (l.map .str)) hn hl hgl l [0] .none .none .none .none JK.none JK.none JK.none JK.none ⟨by simp, by simp⟩
  refine run_of (V0 := [.val (.lst (l.map .str)), .val nm, .none, .none, .none, .none, .none]) (V' := MV (.lst (l.map .str)) nm (l.foldl (fun ps it => meetF g it ps) [0]) it' ah' .none .none) rfl ?_
  rw [c_mt]
  refine xs (V' := MV (.lst (l.map .str)) nm [0] .none .none .none .none) (xset (ylst (ycons rfl ynil) (by simp)) rfl rfl) ?_
  refine xs (xfr (yvar rfl) rfl e) ?_
  exact xs_ret (xret (yin hn hl rfl rfl))
end Mine
end TP13
section TP14
open PySem PySem.W PyProof.Rows PySem.Calls
set_option maxRecDepth 100000
namespace Mine

/-! _law_takes -/
noncomputable abbrev ftCal : CE := .cal 7 (.cons (.var 4) (.cons (.var 1) (.cons (.var 5) .nil)))
noncomputable abbrev enE : CE := .bin .Add (.var 5) (.len (.var 4))
noncomputable abbrev hdT : CE := .an (.cmp .LtE enE (.len (.var 1))) (.nt (.tv ftCal))
noncomputable abbrev hdB : CS := .sq (.aug 5 (.int 1)) <| .sk
noncomputable abbrev hdS : CS := .sq (.whl hdT hdB) <| .sq (.ifs (.cmp .LtE enE (.len (.var 1))) (.sq (.app 6 enE) <| .sk) (.sk)) <| .sk
noncomputable abbrev tkS : CS := .sq (.ifs (.cmp .Eq (.var 3) (.str [114, 117, 110])) (.sq (.set 2 rnE) <| .sk)
  (.sq (.ifs (.cmp .Eq (.var 3) (.str [111, 110, 101])) (.sq (.setc 2 (.comp (.nm 5) (.var 2) (.bin .Add (.var 5) (.int 1)) (.tv ftCal))) <| .sk)
    (.sq (.newl 6 .nil) <| .sq (.fr (.nm 5) (.var 2) hdS) <| .gh (.frz 6) <| .sq (.set 2 (.var 6)) <| .sk)) <| .sk)) <| .sk
theorem c_ta : c_law_takes =
  (.sq (.set 2 (.lst (.cons (.int 0) .nil))) <|
  .sq (.fr (.tp [3, 4]) (.var 0) tkS) <|
  .sq (.ret (.cmp .In (.len (.var 1)) (.var 2))) <| .sk) := rfl
noncomputable def TK (ts nm : D) (ps : List Nat) (kd us pl af : CB) : List CB := [.val ts, .val nm, .val (psD ps), kd, us, pl, af]
theorem TK.na {ts nm : D} {ps : List Nat} {kd us pl af : CB} (h1 : JK kd) (h2 : JK us) (h3 : JK pl) (h4 : JK af) (x : Nat) : noApp (TK ts nm ps kd us pl af) x = true :=
  na_cons rfl <| na_cons rfl <| na_cons rfl <| na_cons (h1 _) <| na_cons (h2 _) <| na_cons (h3 _) <| na_cons (h4 _) rfl
noncomputable def cI (c : Nat → Bool) : D → Bool
  | .int i => c i.toNat
  | _ => false
theorem filter_cI (ps : List Nat) (c : Nat → Bool) : (ps.map intN).filter (cI c) = (ps.filter c).map intN := by
  rw [List.filter_map]
  congr 1
noncomputable def incD : D → D
  | .int i => .int (i + 1)
  | d => d
noncomputable def usD (us : List Un) : D := .lst (us.map unD)
noncomputable def UsOk (us : List Un) : Prop := us.length ≤ 1000 ∧ ∀ u ∈ us, u.2.length ≤ 1000

theorem ffit_stop {us : List Un} {g : List (List Nat)} {p : Nat} (h : ¬ p + us.length ≤ g.length) : ffit us g p = none := by
  unfold ffit
  rw [Option.map_eq_none_iff, List.find?_eq_none]
  intro q hq hf
  have h1 := mem_rangeF.mp hq
  have h2 := fitsF_len hf
  simp at h2
  lia
theorem ffit_here {us : List Un} {g : List (List Nat)} {p : Nat} (h : p + us.length ≤ g.length) (hf : fitsF us (g.drop p) = true) : ffit us g p = some (p + us.length) := by
  unfold ffit
  rw [rangeF_cons (by lia), List.find?_cons_of_pos (by exact hf)]; rfl
theorem ffit_next {us : List Un} {g : List (List Nat)} {p : Nat} (h : p + us.length ≤ g.length) (hf : fitsF us (g.drop p) = false) : ffit us g p = ffit us g (p + 1) := by
  unfold ffit
  rw [rangeF_cons (by lia), List.find?_cons_of_neg (by rw [hf]; decide)]
theorem lei {a b : Nat} : cmpD .LtE (.int (a : Int)) (.int (b : Int)) = some (decide (a ≤ b)) := by
  have e : cmpD .LtE (.int (a : Int)) (.int (b : Int)) = some (decide ((a : Int) ≤ (b : Int))) := rfl
  rw [e]
  congr 1
  rw [decide_eq_decide]
  lia
section
variable {ts nm : D} {g : List (List Nat)}
theorem ta_fit {ps : List Nat} {kd af : CB} {us : List Un} {p : Nat} (hn : Nm nm g) (hl : g.length ≤ 1000) (hgl : ∀ x ∈ g, x.length ≤ 1000) (hu : UsOk us) (hp : p ≤ g.length) : ev Φ1 ftCal (TK ts nm ps kd (.val (usD us)) (.val (intN p)) af) = some (ofB (fitsF us (g.drop p))) :=
  ycal (ycons (yvar rfl) (ycons (yvar rfl) (ycons (yvar rfl) ynil))) (fits_run hn hl hgl hu.2 hu.1 hp)
theorem ta_end {ps : List Nat} {kd af : CB} {us : List Un} {p : Nat} (hu : UsOk us) : ev Φ1 enE (TK ts nm ps kd (.val (usD us)) (.val (intN p)) af) = some (.int (p + us.length : Nat)) := by
  refine ybin (x := .int p) (y := .int us.length) (yvar rfl) (ylen (yvar rfl) ?_) rfl
  show (if fit (us.map unD) = true then some (D.int (us.map unD).length) else none) = _
  rw [if_pos (fit_iff.mpr (by have := hu.1; simp; lia)), List.length_map]
theorem ta_le {ps : List Nat} {kd af : CB} {us : List Un} {p : Nat} (hn : Nm nm g) (hl : g.length ≤ 1000) (hu : UsOk us) : asB (ev Φ1 (.cmp .LtE enE (.len (.var 1))) (TK ts nm ps kd (.val (usD us)) (.val (intN p)) af)) = some (decide (p + us.length ≤ g.length)) :=
  ycmp (ta_end hu) (ylen (yvar rfl) (hn.len hl)) lei
theorem hd_loop {ps : List Nat} {kd af : CB} {us : List Un} (hn : Nm nm g) (hl : g.length ≤ 1000) (hgl : ∀ x ∈ g, x.length ≤ 1000) (hu : UsOk us) (j1 : JK kd) (j4 : JK af) : ∀ (m p N : Nat), g.length + 1 - p ≤ m → m < N →
    ∃ p', whl Φ1 hZ FU hdT hdB N (TK ts nm ps kd (.val (usD us)) (.val (intN p)) af) = some (.next, TK ts nm ps kd (.val (usD us)) (.val (intN p')) af) ∧ (if p' + us.length ≤ g.length then some (p' + us.length) else none) = ffit us g p
  | 0, p, N, hm, hN => by
    obtain ⟨N, rfl⟩ : ∃ m, N = m + 1 := ⟨N - 1, by lia⟩
    have hgt : ¬ p + us.length ≤ g.length := by lia
    exact ⟨p, wf (yanf ((ta_le hn hl hu).trans (by rw [decide_eq_false hgt]))), by rw [if_neg hgt, ffit_stop hgt]⟩
  | m + 1, p, N, hm, hN => by
    obtain ⟨N, rfl⟩ : ∃ m, N = m + 1 := ⟨N - 1, by lia⟩
    by_cases q : p + us.length ≤ g.length
    · have t1 : asB (ev Φ1 (.cmp .LtE enE (.len (.var 1))) (TK ts nm ps kd (.val (usD us)) (.val (intN p)) af)) = some true := (ta_le hn hl hu).trans (by rw [decide_eq_true q])
      have t2 := ta_fit (ts := ts) (ps := ps) (kd := kd) (af := af) hn hl hgl hu (show p ≤ g.length by lia)
      cases hf : fitsF us (g.drop p)
      · rw [hf] at t2
        obtain ⟨p', e1, e2⟩ := hd_loop hn hl hgl hu j1 j4 m (p + 1) N (by lia) (by lia)
        refine ⟨p', wt (yant t1 (ynt (ytv t2 rfl))) ?_ e1, by rw [e2, ffit_next q hf]⟩
        exact xs (xaug (i := p) (j := 1) rfl rfl (TK.na j1 (JK.val _) (JK.val _) j4 _) rfl) xsk
      · rw [hf] at t2
        exact ⟨p, wf (yant t1 (ynt (ytv t2 rfl))), by rw [if_pos q, ffit_here q hf]⟩
    · exact ⟨p, wf (yanf ((ta_le hn hl hu).trans (by rw [decide_eq_false q]))), by rw [if_neg q, ffit_stop q]⟩
theorem hd_places {ps : List Nat} {kd : CB} {us : List Un} (hn : Nm nm g) (hl : g.length ≤ 900) (hgl : ∀ x ∈ g, x.length ≤ 1000) (hu : UsOk us) (j1 : JK kd) : ∀ (qs : List Nat) (out : List Nat) (pl : CB), JK pl → out.length + qs.length ≤ 2000 →
    ∃ pl', JK pl' ∧ frl Φ1 hZ FU (bindG (.nm 5)) hdS (qs.map intN) (TK ts nm ps kd (.val (usD us)) pl (.mu (out.map intN))) = some (.next, TK ts nm ps kd (.val (usD us)) pl' (.mu ((out ++ qs.filterMap (ffit us g)).map intN)))
  | [], out, pl, j, _ => ⟨pl, j, by rw [List.filterMap_nil, List.append_nil]; rfl⟩
  | p :: qs, out, pl, j, hq => by
    simp only [List.length_cons] at hq
    have hl' : g.length ≤ 1000 := by lia
    obtain ⟨p', e1, e2⟩ := hd_loop (ts := ts) (ps := ps) (kd := kd) (af := .mu (out.map intN)) hn hl' hgl hu j1 (JK.mu _) (g.length + 1 - p) p FU (Nat.le_refl _) (by have : FU = 1000 := rfl; lia)
    have hb : bindG (.nm 5) (intN p) (TK ts nm ps kd (.val (usD us)) pl (.mu (out.map intN))) = some (TK ts nm ps kd (.val (usD us)) (.val (intN p)) (.mu (out.map intN))) := setV_of (TK.na j1 (JK.val _) j (JK.mu _) _) rfl
    by_cases q : p' + us.length ≤ g.length
    · rw [if_pos q] at e2
      obtain ⟨pl', j', e3⟩ := hd_places hn hl hgl hu j1 qs (out ++ [p' + us.length]) (.val (intN p')) (JK.val _) (by simp; lia)
      refine ⟨pl', j', fc (V' := TK ts nm ps kd (.val (usD us)) (.val (intN p')) (.mu ((out ++ [p' + us.length]).map intN))) hb (xs (xwhl e1) (xs (xift ((ta_le hn hl' hu).trans (by rw [decide_eq_true q])) (xs (xapp (ds := out.map intN) rfl (by simp; lia) (ta_end hu) (by simp [TK, intN])) xsk)) xsk)) ?_⟩
      rw [e3, List.filterMap_cons, ← e2]
      simp
    · rw [if_neg q] at e2
      obtain ⟨pl', j', e3⟩ := hd_places hn hl hgl hu j1 qs out (.val (intN p')) (JK.val _) (by lia)
      refine ⟨pl', j', fc (V' := TK ts nm ps kd (.val (usD us)) (.val (intN p')) (.mu (out.map intN))) hb (xs (xwhl e1) (xs (xiff ((ta_le hn hl' hu).trans (by rw [decide_eq_false q])) xsk) xsk)) ?_⟩
      rw [e3, List.filterMap_cons, ← e2]
theorem fits_one {u : Un} {g : List (List Nat)} {p : Nat} : fitsF [u] (g.drop p) = match g[p]? with | some x => unitFits u x | none => false := by
  cases h : g[p]? with
  | none =>
    have : g.length ≤ p := by simpa using h
    rw [List.drop_eq_nil_of_le this]; rfl
  | some x =>
    obtain ⟨hlt, hx⟩ := List.getElem?_eq_some_iff.mp h
    rw [List.drop_eq_getElem_cons hlt, hx]
    simp [fitsF]
noncomputable def El.us : El → List Un
  | .one a => [a.unit]
  | .run => []
  | .held l => l.map Atom.unit
theorem unitsD_eq (l : List Atom) : unitsD l = usD (l.map Atom.unit) := by simp [unitsD, usD]
theorem ta_step {ps : List Nat} {a : El} {kd us0 pl af : CB} (hn : Nm nm g) (hl : g.length ≤ 900) (hgl : ∀ x ∈ g, x.length ≤ 1000) (hp : Pl g ps) (hu : UsOk a.us) (j0 : JK kd) (j1 : JK us0) (j2 : JK pl) (j3 : JK af) :
    ∃ kd' us' pl' af', JK kd' ∧ JK us' ∧ JK pl' ∧ JK af' ∧ ∃ V1, bindG (.tp [3, 4]) a.tok (TK ts nm ps kd us0 pl af) = some V1 ∧ ex Φ1 hZ FU tkS V1 = some (.next, TK ts nm (a.step g ps) kd' us' pl' af') := by
  have hpl := hp.1
  have hl' : g.length ≤ 1000 := by lia
  have hb : ∀ (s : List Nat) (us : List Un), bindG (.tp [3, 4]) (.tup [.str s, usD us]) (TK ts nm ps kd us0 pl af) = some (TK ts nm ps (.val (.str s)) (.val (usD us)) pl af) := fun s us => by
    show setsV [3, 4] [.str s, usD us] _ = _
    refine setsV_c (V' := TK ts nm ps (.val (.str s)) us0 pl af) (TK.na j0 j1 j2 j3 _) rfl ?_
    refine setsV_c (V' := TK ts nm ps (.val (.str s)) (.val (usD us)) pl af) (TK.na (JK.val _) j1 j2 j3 _) rfl ?_
    rfl
  match a, hu with
  | .run, _ =>
    refine ⟨_, _, pl, af, JK.val (.str [114, 117, 110]), JK.val (usD []), j2, j3, _, hb [114, 117, 110] [], ?_⟩
    exact xs (xift (ycmp (yvar rfl) rfl eq_t) (xs (xset (yrun hn hl' hp rfl rfl) (TK.na (JK.val _) (JK.val _) j2 j3 _) rfl) xsk)) xsk
  | .one a, hu =>
    refine ⟨_, _, pl, af, JK.val (.str [111, 110, 101]), JK.val (usD [a.unit]), j2, j3, _, hb [111, 110, 101] [a.unit], ?_⟩
    refine xs (xiff (ycmp (yvar rfl) rfl (eq_f (by decide))) ?_) xsk
    refine xs (xift (ycmp (yvar rfl) rfl eq_t) ?_) xsk
    refine xs (xsetc (d := psD (stepF (unitFits a.unit) g ps)) ?_ (TK.na (JK.val _) (JK.val _) j2 j3 _) rfl) xsk
    have hV : (TK ts nm ps (.val (.str [111, 110, 101])) (.val (usD [a.unit])) pl af).map CB.pure = TK ts nm ps (.val (.str [111, 110, 101])) (.val (usD [a.unit])) pl.pure af.pure := rfl
    have := ycompc (Φ := Φ1) (V := TK ts nm ps (.val (.str [111, 110, 101])) (.val (usD [a.unit])) pl af) (g := .nm 5) (it := .var 2) (el := .bin .Add (.var 5) (.int 1)) (co := .tv ftCal) (c := cI fun p => match g[p]? with | some x => unitFits a.unit x | none => false) (f := incD) (fun _ => rfl) (yvar rfl) (d := psD ps) (ds := ps.map intN) rfl (by simp; lia) fun d hd => by
      obtain ⟨p, hp', rfl⟩ := List.mem_map.mp hd
      have hle := hp.2 p hp'
      refine ⟨TK ts nm ps (.val (.str [111, 110, 101])) (.val (usD [a.unit])) (.val (intN p)) af.pure, setV_of (by rw [hV]; exact TK.na (JK.val _) (JK.val _) j2.pure j3.pure _) rfl, ?_, fun _ => ybin (yvar rfl) rfl rfl⟩
      refine (ytv (ta_fit hn hl' hgl hu hle) rfl).trans ?_
      show some (fitsF [a.unit] (g.drop p)) = some (match g[((p : Int)).toNat]? with | some x => unitFits a.unit x | none => false)
      rw [fits_one, show ((p : Int)).toNat = p by lia]
    rw [this, filter_cI]
    have ef : incD ∘ intN = intN ∘ fun x => x + 1 := by funext p; rfl
    simp [psD, stepF, ef]
    all_goals rfl
  | .held l, hu =>
    obtain ⟨pl', j', e⟩ := hd_places (ts := ts) (ps := ps) (kd := .val (.str [104, 101, 108, 100])) (us := l.map Atom.unit) hn hl hgl hu (JK.val _) ps [] pl j2 (by simp; lia)
    rw [List.nil_append] at e
    refine ⟨_, _, pl', .val (psD (ps.filterMap (ffit (l.map Atom.unit) g))), JK.val (.str [104, 101, 108, 100]), JK.val (usD (l.map Atom.unit)), j', JK.val _, _, (by rw [El.tok, unitsD_eq]; exact hb [104, 101, 108, 100] (l.map Atom.unit)), ?_⟩
    refine xs (xiff (ycmp (yvar rfl) rfl (eq_f (by decide))) ?_) xsk
    refine xs (xiff (ycmp (yvar rfl) rfl (eq_f (by decide))) ?_) xsk
    refine xs (V' := TK ts nm ps (.val (.str [104, 101, 108, 100])) (.val (usD (l.map Atom.unit))) pl (.mu [])) (xnewl ynil (by simp) (TK.na (JK.val _) (JK.val _) j2 j3 _) rfl) ?_
    refine xs (xfr (d := psD ps) (yvar rfl) rfl e) ?_
    refine xg (V' := TK ts nm ps (.val (.str [104, 101, 108, 100])) (.val (usD (l.map Atom.unit))) pl' (.val (psD (ps.filterMap (ffit (l.map Atom.unit) g))))) (xfrz rfl (TK.na (JK.val _) (JK.val _) j' (JK.mu _) _) rfl) ?_
    exact xs (xset (yvar rfl) (TK.na (JK.val _) (JK.val _) j' (JK.val _) _) rfl) xsk
theorem ta_loop (hn : Nm nm g) (hl : g.length ≤ 900) (hgl : ∀ x ∈ g, x.length ≤ 1000) : ∀ (l : List El) (ps : List Nat) (kd us pl af : CB), (∀ a ∈ l, UsOk a.us) → JK kd → JK us → JK pl → JK af → Pl g ps →
    ∃ kd' us' pl' af', JK kd' ∧ JK us' ∧ JK pl' ∧ JK af' ∧ frl Φ1 hZ FU (bindG (.tp [3, 4])) tkS (l.map El.tok) (TK ts nm ps kd us pl af) = some (.next, TK ts nm (l.foldl (fun ps a => a.step g ps) ps) kd' us' pl' af')
  | [], ps, kd, us, pl, af, _, j0, j1, j2, j3, _ => ⟨kd, us, pl, af, j0, j1, j2, j3, rfl⟩
  | a :: l, ps, kd, us, pl, af, hu, j0, j1, j2, j3, hp => by
    obtain ⟨kd1, us1, pl1, af1, q0, q1, q2, q3, V1, e1, e2⟩ := ta_step (ts := ts) hn hl hgl hp (hu a List.mem_cons_self) j0 j1 j2 j3
    obtain ⟨kd2, us2, pl2, af2, r0, r1, r2, r3, e3⟩ := ta_loop hn hl hgl l (a.step g ps) kd1 us1 pl1 af1 (fun b hb => hu b (List.mem_cons_of_mem _ hb)) q0 q1 q2 q3 hp.el
    exact ⟨kd2, us2, pl2, af2, r0, r1, r2, r3, fc e1 e2 e3⟩
end
theorem phi8 (a b : D) : Φ2 8 [a, b] = run Φ1 hZ c_law_takes n_law_takes [a, b] := by
  have e : Φ2 8 [a, b] = if [a, b].length = 2 then run Φ1 hZ c_law_takes n_law_takes [a, b] else none := rfl
  rw [e, if_pos (show [a, b].length = 2 from rfl)]
noncomputable def takesF (g : List (List Nat)) (l : List El) : Bool := decide (g.length ∈ l.foldl (fun ps a => a.step g ps) [0])
theorem takes_run {nm : D} {g : List (List Nat)} {l : List El} (hn : Nm nm g) (hl : g.length ≤ 900) (hgl : ∀ x ∈ g, x.length ≤ 1000) (hu : ∀ a ∈ l, UsOk a.us) : Φ2 8 [.lst (l.map El.tok), nm] = some (ofB (takesF g l)) := by
  rw [phi8]
  obtain ⟨kd, us, pl, af, _, _, _, _, e⟩ := ta_loop (ts := .lst (l.map El.tok)) hn hl hgl l [0] .none .none .none .none hu JK.none JK.none JK.none JK.none ⟨by simp, by simp⟩
  refine run_of (V0 := [.val (.lst (l.map El.tok)), .val nm, .none, .none, .none, .none, .none]) (V' := TK (.lst (l.map El.tok)) nm (l.foldl (fun ps a => a.step g ps) [0]) kd us pl af) rfl ?_
  rw [c_ta]
  refine xs (V' := TK (.lst (l.map El.tok)) nm [0] .none .none .none .none) (xset (ylst (ycons rfl ynil) (by simp)) rfl rfl) ?_
  refine xs (xfr (yvar rfl) rfl e) ?_
  exact xs_ret (xret (yin hn (by lia) rfl rfl))
end Mine
end TP14
section TP15
open PySem PySem.W PyProof.Rows PySem.Calls
set_option maxRecDepth 100000
namespace Mine

/-! the plain law -/
noncomputable abbrev Pr := Atom × List Nat
/-- g: the name by groups, for the items; g': as the made text reads it -/
noncomputable def Ag (g g' : List (List Nat)) (x : Pr) : Prop := x.2 ≠ [42] ∧ ∀ (i : Nat) (y y' : List Nat), g[i]? = some y → g'[i]? = some y' → unitFits x.1.unit y' = itemFits x.2 y
noncomputable def tailE : List (List Pr) → List El
  | [] => []
  | [u] => .run :: u.map fun x => .one x.1
  | u :: v :: r => .held (u.map (·.1)) :: tailE (v :: r)
noncomputable def bodyE (u0 : List Pr) (segs : List (List Pr)) : List El := (u0.map fun x => .one x.1) ++ tailE segs
noncomputable def itemsOf (u0 : List Pr) (segs : List (List Pr)) : List (List Nat) := u0.map (·.2) ++ (segs.map fun u => [42] :: u.map (·.2)).flatten

section
variable {g g' : List (List Nat)}
noncomputable def oneF (g : List (List Nat)) (ps : List Nat) (x : Pr) : List Nat := stepF (unitFits x.1.unit) g ps
theorem step_one {x : Pr} {ps : List Nat} (hlen : g'.length = g.length) (h : Ag g g' x) : meetF g x.2 ps = oneF g' ps x := by
  unfold meetF oneF
  rw [if_neg h.1]
  unfold stepF
  congr 1
  apply List.filter_congr
  intro p _
  cases q : g[p]? with
  | none =>
    have : g'[p]? = none := by
      rw [List.getElem?_eq_none_iff] at q ⊢
      lia
    rw [this]
  | some y =>
    have hlt := (List.getElem?_eq_some_iff.mp q).1
    have q' : g'[p]? = some g'[p] := List.getElem?_eq_getElem (by lia)
    rw [q']
    exact (h.2 p y _ q q').symm
theorem fold_takes (u : List Pr) (ps : List Nat) : (u.map fun x => El.one x.1).foldl (fun ps a => a.step g ps) ps = u.foldl (oneF g) ps := by
  induction u generalizing ps with
  | nil => rfl
  | cons x r ih => exact ih _
theorem fold_meets (hlen : g'.length = g.length) {u : List Pr} (ps : List Nat) (h : ∀ x ∈ u, Ag g g' x) : (u.map (·.2)).foldl (fun ps it => meetF g it ps) ps = u.foldl (oneF g') ps := by
  induction u generalizing ps with
  | nil => rfl
  | cons x r ih =>
    show (r.map (·.2)).foldl (fun ps it => meetF g it ps) (meetF g x.2 ps) = _
    rw [step_one hlen (h x List.mem_cons_self), ih _ fun y hy => h y (List.mem_cons_of_mem _ hy)]
    rfl
theorem fold_fits : ∀ (u : List Pr) (ps : List Nat), u.foldl (oneF g) ps = (ps.filter fun p => fitsF (u.map fun x => x.1.unit) (g.drop p)).map (· + u.length)
  | [], ps => by
    have e : ps.filter (fun p => fitsF ([] : List Un) (g.drop p)) = ps := List.filter_eq_self.mpr fun _ _ => rfl
    show ps = (ps.filter (fun p => fitsF ([] : List Un) (g.drop p))).map (· + 0)
    rw [e]
    simp
  | x :: r, ps => by
    rw [List.foldl_cons, fold_fits r]
    unfold oneF stepF
    rw [List.filter_map, List.map_map, List.filter_filter]
    have e : ∀ p, (((fun p => fitsF (r.map fun x => x.1.unit) (g.drop p)) ∘ fun x => x + 1) p && (match g[p]? with | some y => unitFits x.1.unit y | none => false)) = fitsF ((x :: r).map fun x => x.1.unit) (g.drop p) := by
      intro p
      cases q : g[p]? with
      | none =>
        have : g.length ≤ p := by simpa using q
        rw [List.drop_eq_nil_of_le this]
        simp [fitsF]
      | some y =>
        obtain ⟨hlt, hy⟩ := List.getElem?_eq_some_iff.mp q
        rw [List.drop_eq_getElem_cons hlt, hy]
        simp [fitsF, Bool.and_comm]
    have e2 : (fun p => (((fun p => fitsF (r.map fun x => x.1.unit) (g.drop p)) ∘ fun x => x + 1) p && (match g[p]? with | some y => unitFits x.1.unit y | none => false))) = fun p => fitsF ((x :: r).map fun x => x.1.unit) (g.drop p) := funext e
    have e3 : ((fun x => x + r.length) ∘ fun x => x + 1) = fun q : Nat => q + (x :: r).length := by
      funext q
      simp
      lia
    rw [e3, ← e2]
    all_goals rfl
/-- both sides go on from the same least place -/
noncomputable def Rel (ps qs : List Nat) : Prop := (ps = [] ∧ qs = []) ∨ ∃ p, ps.head? = some p ∧ qs.head? = some p ∧ ∀ x ∈ ps, p ≤ x
theorem runF_rel {n : Nat} {ps qs : List Nat} (h : Rel ps qs) : runF n ps = runF n qs := by
  rcases h with ⟨rfl, rfl⟩ | ⟨p, h1, h2, _⟩
  · rfl
  · match ps, qs, h1, h2 with
    | a :: r, b :: s, h1, h2 =>
      have e1 : a = p := by simpa using h1
      have e2 : b = p := by simpa using h2
      subst e1 e2; rfl
theorem range_sorted (n p : Nat) : (rangeF n p).Pairwise (· ≤ ·) := by
  unfold rangeF
  have h : (List.range' p (n + 1 - p)).Pairwise (· < ·) := List.pairwise_lt_range'
  exact h.imp fun h => Nat.le_of_lt h
theorem one_sorted {ps : List Nat} (x : Pr) (h : ps.Pairwise (· ≤ ·)) : (oneF g ps x).Pairwise (· ≤ ·) := by
  unfold oneF stepF
  rw [List.pairwise_map]
  exact (h.filter _).imp fun h => by lia
theorem fold_sorted : ∀ (u : List Pr) {ps : List Nat}, ps.Pairwise (· ≤ ·) → (u.foldl (oneF g) ps).Pairwise (· ≤ ·)
  | [], _, h => h
  | x :: r, _, h => fold_sorted r (one_sorted x h)
theorem rel_refl {ps : List Nat} (h : ps.Pairwise (· ≤ ·)) : Rel ps ps := by
  cases ps with
  | nil => exact .inl ⟨rfl, rfl⟩
  | cons p r =>
    refine .inr ⟨p, rfl, rfl, fun x hx => ?_⟩
    rcases List.mem_cons.mp hx with e | e
    · lia
    · exact (List.pairwise_cons.mp h).1 x e
theorem ffit_head {us : List Un} {p : Nat} : ffit us g p = (((rangeF g.length p).filter fun q => fitsF us (g.drop q)).map (· + us.length)).head? := by
  unfold ffit
  rw [List.head?_map, List.head?_filter]
theorem ffit_least {us : List Un} {p q r s : Nat} (h : p ≤ q) (hp : ffit us g p = some r) (hq : ffit us g q = some s) : r ≤ s := by
  unfold ffit at hp hq
  obtain ⟨x, e1, rfl⟩ := ms hp
  obtain ⟨y, e2, rfl⟩ := ms hq
  have hy := mem_rangeF.mp (List.mem_of_find?_eq_some e2)
  have hfy := List.find?_some e2
  have hpair := (range_sorted g.length p).filter (fun q => fitsF us (g.drop q))
  have hmem : y ∈ (rangeF g.length p).filter fun q => fitsF us (g.drop q) := List.mem_filter.mpr ⟨mem_rangeF.mpr ⟨by lia, hy.2⟩, hfy⟩
  have hhead : ((rangeF g.length p).filter fun q => fitsF us (g.drop q)).head? = some x := by rw [List.head?_filter]; exact e1
  match q : (rangeF g.length p).filter fun q => fitsF us (g.drop q), hhead, hmem, hpair with
  | a :: l, hhead, hmem, hpair =>
    have : a = x := by simpa using hhead
    subst this
    rcases List.mem_cons.mp hmem with e | e
    · lia
    · have := (List.pairwise_cons.mp hpair).1 y e
      lia
theorem ffit_none {us : List Un} {p q : Nat} (h : p ≤ q) (hp : ffit us g p = none) : ffit us g q = none := by
  unfold ffit at hp ⊢
  rw [Option.map_eq_none_iff, List.find?_eq_none] at hp ⊢
  intro x hx
  have := mem_rangeF.mp hx
  exact hp x (mem_rangeF.mpr ⟨by lia, this.2⟩)
theorem held_rel {ps qs : List Nat} {u : List Pr} (h : Rel ps qs) : Rel (ps.filterMap (ffit (u.map fun x => x.1.unit) g)) (u.foldl (oneF g) (runF g.length qs)) := by
  rcases h with ⟨rfl, rfl⟩ | ⟨p, h1, h2, h3⟩
  · left
    refine ⟨rfl, ?_⟩
    rw [fold_fits]; rfl
  · match ps, qs, h1, h2, h3 with
    | a :: r, b :: s, h1, h2, h3 =>
      have e1 : a = p := by simpa using h1
      have e2 : b = p := by simpa using h2
      subst e1 e2
      have hl : (u.map fun x => x.1.unit).length = u.length := by simp
      have hq : u.foldl (oneF g) (runF g.length (b :: s)) = (((rangeF g.length b).filter fun q => fitsF (u.map fun x => x.1.unit) (g.drop q)).map (· + (u.map fun x => x.1.unit).length)) := by
        rw [fold_fits, hl]; rfl
      have hd := ffit_head (g := g) (us := u.map fun x => x.1.unit) (p := b)
      rw [hq]
      cases hf : ffit (u.map fun x => x.1.unit) g b with
      | none =>
        left
        constructor
        · rw [List.filterMap_eq_nil_iff]
          intro x hx
          exact ffit_none (h3 x hx) hf
        · rw [hf] at hd
          exact List.head?_eq_none_iff.mp hd.symm
      | some w =>
        right
        refine ⟨w, by rw [List.filterMap_cons, hf]; rfl, by rw [← hd, hf], fun x hx => ?_⟩
        obtain ⟨y, hy, e⟩ := List.mem_filterMap.mp hx
        exact ffit_least (h3 y hy) hf e
theorem segs_same (hlen : g'.length = g.length) : ∀ (segs : List (List Pr)) (ps qs : List Nat), (∀ u ∈ segs, ∀ x ∈ u, Ag g g' x) → Rel ps qs → segs ≠ [] →
    (tailE segs).foldl (fun ps a => a.step g' ps) ps = (segs.map fun u => [42] :: u.map (·.2)).flatten.foldl (fun ps it => meetF g it ps) qs
  | [], _, _, _, _, h => absurd rfl h
  | [u], ps, qs, ha, hr, _ => by
    show (u.map fun x => El.one x.1).foldl (fun ps a => a.step g' ps) (runF g'.length ps) = _
    rw [fold_takes, runF_rel hr]
    simp only [List.map_cons, List.map_nil, List.flatten_cons, List.flatten_nil, List.append_nil, List.foldl_cons]
    have e : meetF g [42] qs = runF g.length qs := if_pos rfl
    rw [e, fold_meets hlen _ (ha u List.mem_cons_self), hlen]
  | u :: v :: r, ps, qs, ha, hr, _ => by
    show (tailE (v :: r)).foldl (fun ps a => a.step g' ps) (ps.filterMap (ffit ((u.map (·.1)).map Atom.unit) g')) = _
    rw [List.map_cons, List.flatten_cons, List.foldl_append, List.foldl_cons]
    have e : meetF g [42] qs = runF g'.length qs := by rw [hlen]; exact if_pos rfl
    rw [e, fold_meets hlen _ (ha u List.mem_cons_self)]
    have e2 : (u.map (·.1)).map Atom.unit = u.map fun x => x.1.unit := by simp
    rw [e2]
    exact segs_same hlen (v :: r) _ _ (fun w hw => ha w (List.mem_cons_of_mem _ hw)) (held_rel hr) (by simp)
/-- the made text takes a name just if the items do -/
theorem same (hlen : g'.length = g.length) (u0 : List Pr) (segs : List (List Pr)) (h0 : ∀ x ∈ u0, Ag g g' x) (h1 : ∀ u ∈ segs, ∀ x ∈ u, Ag g g' x) : takesF g' (bodyE u0 segs) = meetsF g (itemsOf u0 segs) := by
  have hs : (u0.foldl (oneF g') [0]).Pairwise (· ≤ ·) := fold_sorted u0 (by simp)
  have key : (bodyE u0 segs).foldl (fun ps a => a.step g' ps) [0] = (itemsOf u0 segs).foldl (fun ps it => meetF g it ps) [0] := by
    unfold bodyE itemsOf
    rw [List.foldl_append, List.foldl_append, fold_takes, fold_meets hlen _ h0]
    by_cases q : segs = []
    · subst q; rfl
    · exact segs_same hlen segs _ _ h1 (rel_refl hs) q
  unfold takesF meetsF
  rw [key, hlen]
end
end Mine
end TP15
section TP16
open PySem PySem.W PyProof.Rows PySem.Calls
set_option maxRecDepth 100000
namespace Mine

/-! the written pieces -/
noncomputable def letters : List Nat := [32, 95, 45, 47, 92, 58, 59, 34, 40, 41]
noncomputable abbrev Wi := List Nat × List Nat
noncomputable def wL : List Wi :=
  letters.map (fun a => ([a], [a])) ++ (letters.flatMap fun a => letters.map fun b => ([91, a, b, 93], [a, b])) ++
  letters.map (fun a => ([91, 120, a, 93], [120, a])) ++ letters.map (fun a => ([91, a, 120, 93], [120, a])) ++
  [([63], [63]), ([42], [42]), ([91, 119, 45, 121, 93], [119, 120, 121])]
noncomputable def rL : List (List Nat) := letters.map (fun a => [a]) ++ (letters.flatMap fun a => letters.map fun b => [a, 120, b]) ++ [[], [120]]
noncomputable def alikeOf (c : Nat) : List Nat := if c = 95 ∨ c = 32 then [95, 32] else if letters.contains c then [45, 47, 92, 58, 59, 34, 40, 41] else [c]
noncomputable def groups : List (List Nat) := [[95, 32], [45, 47, 92, 58, 59, 34, 40, 41], [120]]
noncomputable def atomOf : List Nat → Atom
  | [42] => .star
  | [63] => .any
  | [c] => .ch c
  | w => .set ((w.drop 1).dropLast)
noncomputable def isStar : Atom → Bool
  | .star => true
  | _ => false
noncomputable def smallU (u : Un) : Bool := decide (u.2.length ≤ 100)
noncomputable def atOk (a : Atom) : Bool := a.ok && a.okU && smallU a.unit && decide (a.txt.length ≤ 20) && !isStar a
noncomputable def headG (x : List Nat) : List Nat := [x.headD 0]
/-- all that is asked of a written piece -/
noncomputable def okW (x : Wi) : Bool :=
  decide (x.1.length ≤ 6) && !x.1.contains 117 && ((atomOf x.1).rend == x.1) && ((atomOf (plat x.1)).rend == plat x.1) && (col (plat x.1) == plat x.1) && decide ((plat x.1).length ≤ 6) &&
  (if isStar (atomOf x.1) then isStar (atomOf (plat x.1)) && x.2 == [42]
   else atOk (atomOf x.1) && atOk (atomOf (plat x.1)) && x.2 != [42] && groups.all fun y => (unitFits (atomOf x.1).unit y == itemFits x.2 y) && (unitFits (atomOf (plat x.1)).unit (headG y) == itemFits x.2 y))
noncomputable def okR (r : List Nat) : Bool := decide (r.length ≤ 3) && !r.contains 117 && (plat r == r.map fun c => (alikeOf c).headD 0) && (col (plat r) == plat r) && r.all fun c => letters.contains c || c == 120
theorem okR_all : rL.all okR = true := by decide +kernel
theorem okW_all : wL.all okW = true := by decide +kernel
end Mine
end TP16
section TP17
open PySem PySem.W PyProof.Rows PySem.Calls
set_option maxRecDepth 100000
namespace Mine

/-! a pattern's text, made and read -/
noncomputable def splitS : List Pr → List Pr × List (List Pr)
  | [] => ([], [])
  | x :: r => if isStar x.1 then ([], (splitS r).1 :: (splitS r).2) else (x :: (splitS r).1, (splitS r).2)
theorem part_txt {a : Atom} (h : isStar a = false) : a.part = .str a.txt := by
  cases a <;> first | rfl | cases h
theorem isStar_eq {a : Atom} (h : isStar a = true) : a = .star := by
  cases a <;> first | rfl | cases h
theorem splitS_cons (x : Pr) (r : List Pr) : splitS (x :: r) = if isStar x.1 then ([], (splitS r).1 :: (splitS r).2) else (x :: (splitS r).1, (splitS r).2) := rfl
noncomputable def txts (u : List Pr) : List (List Nat) := u.map fun x => x.1.txt
theorem split_parts : ∀ L : List Pr, L.map (fun x => x.1.part) = (txts (splitS L).1).map .str ++ starred ((splitS L).2.map txts)
  | [] => rfl
  | x :: r => by
    have ih := split_parts r
    rw [List.map_cons, ih, splitS_cons]
    by_cases h : isStar x.1 = true
    · rw [if_pos h, isStar_eq h]
      simp [Atom.part, starred, txts]
    · rw [if_neg h, part_txt (by simpa using h)]
      simp [txts]
theorem split_items : ∀ {L : List Pr}, (∀ x ∈ L, isStar x.1 = true → x.2 = [42]) → itemsOf (splitS L).1 (splitS L).2 = L.map (·.2)
  | [], _ => rfl
  | x :: r, h => by
    have ih := split_items (L := r) fun y hy => h y (List.mem_cons_of_mem _ hy)
    rw [splitS_cons]
    by_cases q : isStar x.1 = true
    · rw [if_pos q]
      have e := h x List.mem_cons_self q
      rw [List.map_cons, ← ih, e]
      simp [itemsOf]
    · rw [if_neg q, List.map_cons, ← ih]
      simp [itemsOf]
theorem split_mem : ∀ {L : List Pr}, (∀ x ∈ (splitS L).1, x ∈ L ∧ isStar x.1 = false) ∧ ∀ u ∈ (splitS L).2, ∀ x ∈ u, x ∈ L ∧ isStar x.1 = false
  | [] => ⟨fun x hx => by simp [splitS] at hx, fun u hu => by simp [splitS] at hu⟩
  | x :: r => by
    obtain ⟨i1, i2⟩ := split_mem (L := r)
    rw [splitS_cons]
    by_cases q : isStar x.1 = true
    · rw [if_pos q]
      refine ⟨fun y hy => by simp at hy, fun u hu y hy => ?_⟩
      rcases List.mem_cons.mp hu with rfl | hu
      · exact ⟨List.mem_cons_of_mem _ (i1 y hy).1, (i1 y hy).2⟩
      · exact ⟨List.mem_cons_of_mem _ (i2 u hu y hy).1, (i2 u hu y hy).2⟩
    · rw [if_neg q]
      refine ⟨fun y hy => ?_, fun u hu y hy => ⟨List.mem_cons_of_mem _ (i2 u hu y hy).1, (i2 u hu y hy).2⟩⟩
      rcases List.mem_cons.mp hy with rfl | hy
      · exact ⟨List.mem_cons_self, by simpa using q⟩
      · exact ⟨List.mem_cons_of_mem _ (i1 y hy).1, (i1 y hy).2⟩
/-- behind each star stands another sign -/
noncomputable def sepOk : List Pr → Bool
  | [] => true
  | x :: r => (if isStar x.1 then (match r with | [] => false | y :: _ => !isStar y.1) else true) && sepOk r
theorem split_ne : ∀ {L : List Pr}, sepOk L = true → ∀ u ∈ (splitS L).2, u ≠ []
  | [], _, u, hu => by simp [splitS] at hu
  | x :: r, h, u, hu => by
    simp only [sepOk, Bool.and_eq_true] at h
    have ih := split_ne h.2
    rw [splitS_cons] at hu
    by_cases q : isStar x.1 = true
    · rw [if_pos q] at hu h
      rcases List.mem_cons.mp hu with e | hu
      · match r, h.1 with
        | y :: r', h1 =>
          have hy : isStar y.1 = false := by simpa using h1
          rw [e, splitS_cons, if_neg (by rw [hy]; decide)]
          simp
      · exact ih u hu
    · rw [if_neg q] at hu
      exact ih u hu
noncomputable def headNS : List Pr → Prop
  | [] => True
  | x :: _ => isStar x.1 = false
theorem sep_stars : ∀ {L : List Pr} {b : Bool}, sepOk L = true → (b = false → headNS L) → starsOk b (L.map fun x => x.1) = true
  | [], b, _, _ => by cases b <;> rfl
  | x :: r, b, h, hb => by
    simp only [sepOk, Bool.and_eq_true] at h
    by_cases q : isStar x.1 = true
    · rw [if_pos q] at h
      have e := isStar_eq q
      rw [List.map_cons, e]
      show (b && starsOk false (r.map fun x => x.1)) = true
      rw [Bool.and_eq_true]
      refine ⟨?_, sep_stars h.2 fun _ => ?_⟩
      · cases b with
        | true => rfl
        | false =>
          have : isStar x.1 = false := hb rfl
          rw [q] at this; cases this
      · match r, h.1 with
        | y :: r', h1 =>
          show isStar y.1 = false
          simpa using h1
    · have q' : isStar x.1 = false := by simpa using q
      have e : starsOk b ((x :: r).map fun x => x.1) = starsOk true (r.map fun x => x.1) := by
        rw [List.map_cons]
        cases hx : x.1 with
        | star => rw [hx] at q'; cases q'
        | ch c => cases b <;> rfl
        | any => cases b <;> rfl
        | set st => cases b <;> rfl
      rw [e]
      exact sep_stars h.2 fun q => nomatch q
theorem flat_tail : ∀ segs : List (List Pr), flatE (tailE segs) = (tails (segs.map txts)).flatten
  | [] => rfl
  | [u] => by
    simp [flatE, tailE, tails, txts, El.txt, Function.comp_def]
  | u :: v :: r => by
    have ih := flat_tail (v :: r)
    have e : flatE (tailE (u :: v :: r)) = (El.held (u.map (·.1))).txt ++ flatE (tailE (v :: r)) := by simp [flatE, tailE]
    rw [e, ih]
    simp [tails, txts, El.txt, txtL, Function.comp_def]
theorem flat_body (u0 : List Pr) (segs : List (List Pr)) : flatE (bodyE u0 segs) = (txts u0 ++ tails (segs.map txts)).flatten := by
  unfold bodyE
  rw [List.flatten_append, ← flat_tail]
  simp [flatE, txts, El.txt, Function.comp_def]
noncomputable def wtL (L : List Pr) : Nat := (L.map fun x => x.1.txt.length + 7).sum
theorem tails_len : ∀ segs : List (List Pr), (tails (segs.map txts)).flatten.length ≤ (segs.map fun u => (txts u).flatten.length + 7).sum
  | [] => by simp [tails]
  | [u] => by simp [tails]
  | u :: v :: r => by
    have ih := tails_len (v :: r)
    simp only [List.map_cons, tails, List.flatten_cons, List.length_append, List.sum_cons, List.length_cons, List.length_nil, List.flatten_nil] at ih ⊢
    lia
theorem split_len : ∀ L : List Pr, (txts (splitS L).1).flatten.length + ((splitS L).2.map fun u => (txts u).flatten.length + 7).sum ≤ wtL L ∧ (splitS L).1.length + ((splitS L).2.map fun u => u.length + 1).sum = L.length
  | [] => by simp [splitS, txts, wtL]
  | x :: r => by
    obtain ⟨i1, i2⟩ := split_len r
    rw [splitS_cons]
    by_cases q : isStar x.1 = true
    · rw [if_pos q]
      simp only [wtL, List.map_cons, List.sum_cons, txts, List.map_nil, List.flatten_nil, List.length_nil, List.length_cons] at i1 i2 ⊢
      lia
    · rw [if_neg q]
      simp only [wtL, List.map_cons, List.sum_cons, txts, List.flatten_cons, List.length_append, List.length_cons] at i1 i2 ⊢
      lia
/-- a list of atoms that is served -/
structure LOk (L : List Pr) : Prop where
  len : L.length ≤ 20
  each : ∀ x ∈ L, if isStar x.1 then x.2 = [42] else atOk x.1 = true
  sep : sepOk L = true
  head : headNS L
theorem atOk_at {a : Atom} (h : atOk a = true) : a.ok = true ∧ a.okU = true ∧ a.unit.2.length ≤ 100 ∧ a.txt.length ≤ 20 ∧ isStar a = false := by
  unfold atOk smallU at h
  simp only [Bool.and_eq_true, decide_eq_true_eq, Bool.not_eq_true'] at h
  exact ⟨h.1.1.1.1, h.1.1.1.2, h.1.1.2, h.1.2, h.2⟩
theorem LOk.at {L : List Pr} (h : LOk L) {x : Pr} (hx : x ∈ L) (hs : isStar x.1 = false) : atOk x.1 = true := by
  have := h.each x hx
  rw [hs] at this
  simpa using this
noncomputable def elsOf (L : List Pr) : List El := bodyE (splitS L).1 (splitS L).2
noncomputable def textOf (L : List Pr) : List Nat := [40, 63, 115, 58] ++ (flatE (elsOf L) ++ [41, 92, 90])
theorem tail_all {p : El → Prop} (h1 : p .run) : ∀ (segs : List (List Pr)), (∀ u ∈ segs, ∀ x ∈ u, isStar x.1 = false) → (∀ u ∈ segs, p (.held (u.map (·.1)))) → (∀ u ∈ segs, ∀ x ∈ u, p (.one x.1)) → ∀ a ∈ tailE segs, p a
  | [], _, _, _, a, ha => by simp [tailE] at ha
  | [u], hs, hh, ho, a, ha => by
    rcases List.mem_cons.mp ha with rfl | ha
    · exact h1
    · obtain ⟨x, hx, rfl⟩ := List.mem_map.mp ha
      exact ho u List.mem_cons_self x hx
  | u :: v :: r, hs, hh, ho, a, ha => by
    rcases List.mem_cons.mp ha with rfl | ha
    · exact hh u List.mem_cons_self
    · exact tail_all h1 (v :: r) (fun w hw => hs w (List.mem_cons_of_mem _ hw)) (fun w hw => hh w (List.mem_cons_of_mem _ hw)) (fun w hw => ho w (List.mem_cons_of_mem _ hw)) a ha
theorem le_sum : ∀ {l : List Nat} {x : Nat}, x ∈ l → x ≤ l.sum
  | a :: r, x, h => by
    rw [List.sum_cons]
    rcases List.mem_cons.mp h with e | e
    · lia
    · have := le_sum e; lia
theorem seg_len {L : List Pr} {u : List Pr} (hu : u ∈ (splitS L).2) : u.length ≤ L.length := by
  have h2 := (split_len L).2
  have : u.length + 1 ≤ ((splitS L).2.map fun u => u.length + 1).sum := by
    have : u.length + 1 ∈ (splitS L).2.map fun u => u.length + 1 := List.mem_map_of_mem (f := fun u => u.length + 1) hu
    exact le_sum this
  lia
theorem els_all {L : List Pr} (h : LOk L) : (elsOf L).all El.ok = true ∧ ∀ a ∈ elsOf L, UsOk a.us := by
  obtain ⟨m1, m2⟩ := split_mem (L := L)
  have key : ∀ a ∈ elsOf L, a.ok = true ∧ UsOk a.us := by
    intro a ha
    unfold elsOf bodyE at ha
    have hone : ∀ x : Pr, x ∈ L → isStar x.1 = false → (El.one x.1).ok = true ∧ UsOk (El.one x.1).us := fun x hx hs => by
      obtain ⟨o1, o2, o3, o4, o5⟩ := atOk_at (h.at hx hs)
      refine ⟨o2, by simp [El.us], fun u hu => ?_⟩
      simp [El.us] at hu
      rw [hu]; lia
    rcases List.mem_append.mp ha with ha | ha
    · obtain ⟨x, hx, rfl⟩ := List.mem_map.mp ha
      exact hone x (m1 x hx).1 (m1 x hx).2
    · refine tail_all (p := fun a => a.ok = true ∧ UsOk a.us) ⟨rfl, by simp [El.us], by simp [El.us]⟩ (splitS L).2 (fun u hu x hx => (m2 u hu x hx).2) (fun u hu => ?_) (fun u hu x hx => hone x (m2 u hu x hx).1 (m2 u hu x hx).2) a ha
      · refine ⟨?_, ?_, fun w hw => ?_⟩
        · show (u.map (·.1)).all Atom.okU = true
          rw [List.all_eq_true]
          intro a ha
          obtain ⟨x, hx, rfl⟩ := List.mem_map.mp ha
          exact (atOk_at (h.at (m2 u hu x hx).1 (m2 u hu x hx).2)).2.1
        · have := seg_len hu
          have := h.len
          simp [El.us]; lia
        · obtain ⟨a, ha, rfl⟩ := List.mem_map.mp hw
          obtain ⟨x, hx, rfl⟩ := List.mem_map.mp ha
          have := (atOk_at (h.at (m2 u hu x hx).1 (m2 u hu x hx).2)).2.2.1
          lia
  exact ⟨List.all_eq_true.mpr fun a ha => (key a ha).1, fun a ha => (key a ha).2⟩
theorem wt_le : ∀ {L : List Pr}, (∀ x ∈ L, x.1.txt.length ≤ 20) → wtL L ≤ 27 * L.length
  | [], _ => by simp [wtL]
  | x :: r, h => by
    have ih := wt_le (L := r) fun y hy => h y (List.mem_cons_of_mem _ hy)
    have hx := h x List.mem_cons_self
    simp only [wtL, List.map_cons, List.sum_cons, List.length_cons] at ih ⊢
    lia
theorem LOk.wt {L : List Pr} (h : LOk L) : wtL L ≤ 540 := by
  have := wt_le (L := L) fun x hx => by
    by_cases q : isStar x.1 = true
    · rw [isStar_eq q]; simp [Atom.txt]
    · exact (atOk_at (h.at hx (by simpa using q))).2.2.2.1
  have := h.len
  lia
theorem flat_sum (segs : List (List (List Nat))) : ((segs.map List.flatten).flatten).length = (segs.map fun u => u.flatten.length).sum := by
  rw [List.length_flatten, List.map_map]; rfl
theorem sum_mono {α : Type} (f g : α → Nat) : ∀ (l : List α), (∀ x ∈ l, f x ≤ g x) → (l.map f).sum ≤ (l.map g).sum
  | [], _ => by simp
  | x :: r, h => by
    have ih := sum_mono f g r fun y hy => h y (List.mem_cons_of_mem _ hy)
    have hx := h x List.mem_cons_self
    simp only [List.map_cons, List.sum_cons]
    lia
theorem phi3_2 (a b c : D) : Φ3 2 [a, b, c] = Φ2 2 [a, b, c] := rfl
theorem trans_run {L : List Pr} (h : LOk L) (hp : (rendL (L.map (·.1))).length ≤ 1000) : Φ3 1 [.str (rendL (L.map (·.1)))] = some (.str (textOf L)) := by
  obtain ⟨l1, l2⟩ := split_len L
  have hw := h.wt
  have hlen := h.len
  have h2 := translate2_run (l := L.map (·.1)) (by simp; lia) hp (by
    rw [List.all_eq_true]
    intro a ha
    obtain ⟨x, hx, rfl⟩ := List.mem_map.mp ha
    by_cases q : isStar x.1 = true
    · rw [isStar_eq q]; rfl
    · exact (atOk_at (h.at hx (by simpa using q))).1) (sep_stars h.sep fun _ => h.head)
  have e : (L.map (·.1)).map Atom.part = (txts (splitS L).1).map .str ++ starred ((splitS L).2.map txts) := by
    rw [← split_parts, List.map_map]; rfl
  rw [e] at h2
  have h3 := join_run (u0 := txts (splitS L).1) (segs := (splitS L).2.map txts) (by rw [← e]; simp; lia) (fun u hu => by
    obtain ⟨v, hv, rfl⟩ := List.mem_map.mp hu
    have := split_ne h.sep v hv
    simpa [txts] using this) (by
    rw [flat_sum, List.map_map]
    have := sum_mono (fun u => (txts u).flatten.length) (fun u => (txts u).flatten.length + 7) (splitS L).2 fun x _ => by lia
    have e2 : ((fun u : List (List Nat) => u.flatten.length) ∘ txts) = fun u => (txts u).flatten.length := rfl
    rw [e2]
    lia) (by
    rw [List.flatten_append, List.length_append]
    have := tails_len (splitS L).2
    lia)
  have h4 : Φ2 3 [.lst ((txts (splitS L).1).map .str ++ starred ((splitS L).2.map txts)), .star] = some (.str (textOf L)) := by
    have e3 : Φ2 3 [.lst ((txts (splitS L).1).map .str ++ starred ((splitS L).2.map txts)), .star] = Φ1 3 [.lst ((txts (splitS L).1).map .str ++ starred ((splitS L).2.map txts)), .star] := rfl
    rw [e3, h3]
    unfold textOf elsOf
    rw [flat_body]
    simp
  have e5 : Φ3 1 [.str (rendL (L.map (·.1)))] = (Φ2 2 [.str (rendL (L.map (·.1))), .star, .str [46]]).bind fun parts => outF (Φ2 3 [parts, .star]) := rfl
  rw [e5, h2, Option.bind_some, h4]
  rfl
theorem read_run {L : List Pr} (h : LOk L) : Φ3 6 [.str (textOf L)] = some (.lst ((elsOf L).map El.tok)) := by
  obtain ⟨l1, l2⟩ := split_len L
  have hw := h.wt
  have e : Φ3 6 [.str (textOf L)] = Φ2 6 [.str (textOf L)] := rfl
  rw [e]
  refine tokens_run ?_ (els_all h).1
  unfold elsOf
  rw [flat_body, List.flatten_append, List.length_append]
  have := tails_len (splitS L).2
  lia
theorem take_run {L : List Pr} (h : LOk L) {nm : D} {g g' : List (List Nat)} (hn : Nm nm g') (hl : g'.length ≤ 900) (hgl : ∀ x ∈ g', x.length ≤ 1000) (hlen : g'.length = g.length) (ha : ∀ x ∈ L, isStar x.1 = false → Ag g g' x) :
    Φ3 8 [.lst ((elsOf L).map El.tok), nm] = some (ofB (meetsF g (L.map (·.2)))) := by
  have e : Φ3 8 [.lst ((elsOf L).map El.tok), nm] = Φ2 8 [.lst ((elsOf L).map El.tok), nm] := rfl
  obtain ⟨m1, m2⟩ := split_mem (L := L)
  rw [e, takes_run hn hl hgl (els_all h).2]
  unfold elsOf
  rw [same hlen _ _ (fun x hx => ha x (m1 x hx).1 (m1 x hx).2) fun u hu x hx => ha x (m2 u hu x hx).1 (m2 u hu x hx).2]
  rw [split_items fun x hx hs => by have := h.each x hx; rw [if_pos hs] at this; exact this]
end Mine
end TP17
section TP18
open PySem PySem.W PyProof.Rows PySem.Calls
set_option maxRecDepth 100000
namespace Mine

/-! patterns and names, piece by piece -/
noncomputable def joinX (ws : List (List Nat)) : List Nat := 120 :: (ws.map fun w => w ++ [120]).flatten
noncomputable def seqL (f : Wi → Atom) (ws : List Wi) : List Pr := (.ch 120, [120]) :: (ws.map fun x => [(f x, x.2), (Atom.ch 120, [120])]).flatten
noncomputable def fA (x : Wi) : Atom := atomOf x.1
noncomputable def fB (x : Wi) : Atom := atomOf (plat x.1)
noncomputable def itX (ws : List Wi) : List (List Nat) := [120] :: (ws.map fun x => [x.2, [120]]).flatten
theorem seq_items (f : Wi → Atom) (ws : List Wi) : (seqL f ws).map (·.2) = itX ws := by
  unfold seqL itX
  simp [List.map_flatten, Function.comp_def]
theorem seq_rend (f : Wi → Atom) (ws : List Wi) : rendL ((seqL f ws).map (·.1)) = joinX (ws.map fun x => (f x).rend) := by
  unfold seqL rendL joinX
  simp [List.map_flatten, Function.comp_def, Atom.rend]
  induction ws with
  | nil => rfl
  | cons x r ih => simp [ih, Atom.rend]
theorem seq_mem {f : Wi → Atom} {ws : List Wi} {y : Pr} (h : y ∈ seqL f ws) : y = (.ch 120, [120]) ∨ ∃ x ∈ ws, y = (f x, x.2) := by
  unfold seqL at h
  rcases List.mem_cons.mp h with e | h
  · exact .inl e
  · obtain ⟨l, hl, hy⟩ := List.mem_flatten.mp h
    obtain ⟨x, hx, rfl⟩ := List.mem_map.mp hl
    simp at hy
    rcases hy with e | e
    · exact .inr ⟨x, hx, e⟩
    · exact .inl e
theorem seq_len (f : Wi → Atom) (ws : List Wi) : (seqL f ws).length = 1 + 2 * ws.length := by
  unfold seqL
  rw [List.length_cons]
  induction ws with
  | nil => rfl
  | cons x r ih => simp at ih ⊢; lia
theorem sepx (f : Wi → Atom) : ∀ ws : List Wi, sepOk (ws.map fun x => [(f x, x.2), (Atom.ch 120, [120])]).flatten = true
  | [] => rfl
  | x :: r => by
    have ih := sepx f r
    rw [List.map_cons, List.flatten_cons]
    show ((if isStar (f x) then (match ((Atom.ch 120, [120]) :: (r.map fun x => [(f x, x.2), (Atom.ch 120, [120])]).flatten : List Pr) with | [] => false | y :: _ => !isStar y.1) else true) && ((if isStar (Atom.ch 120) then _ else true) && sepOk (r.map fun x => [(f x, x.2), (Atom.ch 120, [120])]).flatten)) = true
    rw [ih]
    cases isStar (f x) <;> rfl
theorem seq_sep (f : Wi → Atom) (ws : List Wi) : sepOk (seqL f ws) = true := by
  have := sepx f ws
  unfold seqL
  show ((if isStar (Atom.ch 120) then _ else true) && sepOk _) = true
  rw [this]; rfl
theorem atOk_x : atOk (.ch 120) = true := by decide +kernel
theorem agree_x : (groups.all fun y => (unitFits (Atom.ch 120).unit y == itemFits [120] y) && (unitFits (Atom.ch 120).unit (headG y) == itemFits [120] y)) = true := by decide +kernel

theorem okW_at {x : Wi} (h : okW x = true) : x.1.length ≤ 6 ∧ 117 ∉ x.1 ∧ (fA x).rend = x.1 ∧ (fB x).rend = plat x.1 ∧ col (plat x.1) = plat x.1 ∧ (plat x.1).length ≤ 6 ∧
    ((isStar (fA x) = true ∧ isStar (fB x) = true ∧ x.2 = [42]) ∨ (isStar (fA x) = false ∧ isStar (fB x) = false ∧ atOk (fA x) = true ∧ atOk (fB x) = true ∧ x.2 ≠ [42] ∧ ∀ y ∈ groups, unitFits (fA x).unit y = itemFits x.2 y ∧ unitFits (fB x).unit (headG y) = itemFits x.2 y)) := by
  unfold okW at h
  simp only [Bool.and_eq_true, decide_eq_true_eq, Bool.not_eq_true', beq_iff_eq] at h
  obtain ⟨⟨⟨⟨⟨⟨h1, h2⟩, h3⟩, h4⟩, h5⟩, h6⟩, h7⟩ := h
  refine ⟨h1, by simpa using h2, h3, h4, h5, h6, ?_⟩
  cases q : isStar (fA x)
  · have q' : isStar (atomOf x.1) = false := q
    rw [q'] at h7
    simp only [Bool.false_eq_true, if_false, Bool.and_eq_true, bne_iff_ne] at h7
    obtain ⟨⟨⟨a1, a2⟩, a3⟩, a4⟩ := h7
    refine .inr ⟨rfl, (atOk_at a2).2.2.2.2, a1, a2, a3, fun y hy => ?_⟩
    have := List.all_eq_true.mp a4 y hy
    simp only [Bool.and_eq_true, beq_iff_eq] at this
    exact this
  · have q' : isStar (atomOf x.1) = true := q
    rw [q'] at h7
    simp only [if_true, Bool.and_eq_true, beq_iff_eq] at h7
    exact .inl ⟨rfl, h7.1, h7.2⟩
noncomputable def WsOk (ws : List Wi) : Prop := ws.length ≤ 4 ∧ ∀ x ∈ ws, x ∈ wL
theorem WsOk.ok {ws : List Wi} (h : WsOk ws) {x : Wi} (hx : x ∈ ws) : okW x = true := List.all_eq_true.mp okW_all x (h.2 x hx)
theorem seq_ok {f : Wi → Atom} (hf : f = fA ∨ f = fB) {ws : List Wi} (h : WsOk ws) : LOk (seqL f ws) := by
  refine ⟨by rw [seq_len]; have := h.1; lia, fun y hy => ?_, seq_sep f ws, rfl⟩
  rcases seq_mem hy with rfl | ⟨x, hx, rfl⟩
  · rw [if_neg (by decide)]; exact atOk_x
  · obtain ⟨_, _, _, _, _, _, h7⟩ := okW_at (h.ok hx)
    rcases h7 with ⟨a1, a2, a3⟩ | ⟨a1, a2, a3, a4, _, _⟩
    · rcases hf with rfl | rfl
      · rw [if_pos a1]; exact a3
      · rw [if_pos a2]; exact a3
    · rcases hf with rfl | rfl
      · rw [if_neg (by rw [a1]; decide)]; exact a3
      · rw [if_neg (by rw [a2]; decide)]; exact a4
theorem get_map {α β : Type} {l : List α} {f : α → β} {i : Nat} {y : β} (h : (l.map f)[i]? = some y) : ∃ x, l[i]? = some x ∧ y = f x := by
  rw [List.getElem?_map] at h
  cases q : l[i]? with
  | none => rw [q] at h; simp at h
  | some x => rw [q] at h; simp at h; exact ⟨x, rfl, h.symm⟩
theorem ag_a {ws : List Wi} (h : WsOk ws) {g : List (List Nat)} (hg : ∀ y ∈ g, y ∈ groups) : ∀ x ∈ seqL fA ws, isStar x.1 = false → Ag g g x := fun y hy hs => by
  have key : y.2 ≠ [42] ∧ ∀ z ∈ groups, unitFits y.1.unit z = itemFits y.2 z := by
    rcases seq_mem hy with rfl | ⟨x, hx, rfl⟩
    · refine ⟨by decide, fun z hz => ?_⟩
      have := List.all_eq_true.mp agree_x z hz
      simp only [Bool.and_eq_true, beq_iff_eq] at this
      exact this.1
    · obtain ⟨_, _, _, _, _, _, h7⟩ := okW_at (h.ok hx)
      rcases h7 with ⟨a1, _, _⟩ | ⟨_, _, _, _, a5, a6⟩
      · rw [a1] at hs; cases hs
      · exact ⟨a5, fun z hz => (a6 z hz).1⟩
  refine ⟨key.1, fun i z z' h1 h2 => ?_⟩
  rw [h1] at h2
  cases h2
  exact key.2 z (hg z (List.mem_of_getElem? h1))
theorem ag_b {ws : List Wi} (h : WsOk ws) {g : List (List Nat)} (hg : ∀ y ∈ g, y ∈ groups) : ∀ x ∈ seqL fB ws, isStar x.1 = false → Ag g (g.map headG) x := fun y hy hs => by
  have key : y.2 ≠ [42] ∧ ∀ z ∈ groups, unitFits y.1.unit (headG z) = itemFits y.2 z := by
    rcases seq_mem hy with rfl | ⟨x, hx, rfl⟩
    · refine ⟨by decide, fun z hz => ?_⟩
      have := List.all_eq_true.mp agree_x z hz
      simp only [Bool.and_eq_true, beq_iff_eq] at this
      exact this.2
    · obtain ⟨_, _, _, _, _, _, h7⟩ := okW_at (h.ok hx)
      rcases h7 with ⟨_, a2, _⟩ | ⟨_, _, _, _, a5, a6⟩
      · rw [a2] at hs; cases hs
      · exact ⟨a5, fun z hz => (a6 z hz).2⟩
  refine ⟨key.1, fun i z z' h1 h2 => ?_⟩
  obtain ⟨w, h3, rfl⟩ := get_map h2
  rw [h1] at h3
  cases h3
  exact key.2 z (hg z (List.mem_of_getElem? h1))

/-! what _platform makes -/
theorem col_x : ∀ (a b : List Nat), col (a ++ 120 :: b) = col a ++ 120 :: col b
  | [], b => by
    cases b with
    | nil => simp [col]
    | cons c r => simp [col]
  | [x], b => by
    show col (x :: 120 :: b) = [x] ++ 120 :: col b
    rw [col, if_neg (by simp)]
    have := col_x [] b
    rw [List.nil_append] at this
    rw [this]; simp [col]
  | x :: y :: r, b => by
    have i1 := col_x r b
    have i2 := col_x (y :: r) b
    show col (x :: y :: (r ++ 120 :: b)) = _
    by_cases h : x = 45 ∧ y = 45
    · rw [col, if_pos h, i1, col, if_pos h]; rfl
    · rw [col, if_neg h, col, if_neg h]
      have : y :: (r ++ 120 :: b) = (y :: r) ++ 120 :: b := rfl
      rw [this, i2]; rfl
theorem col_join (f : List Nat → List Nat) : ∀ ws : List (List Nat), col (joinX (ws.map f)) = joinX (ws.map fun w => col (f w))
  | [] => by simp [joinX, col]
  | w :: r => by
    have ih := col_join f r
    have e : ∀ h : List Nat → List Nat, joinX ((w :: r).map h) = 120 :: (h w ++ joinX (r.map h)) := fun h => by simp [joinX]
    have e3 : ∀ a, col (120 :: a) = 120 :: col a := fun a => by
      have := col_x [] a
      simpa [col] using this
    rw [e f, e (fun w => col (f w)), e3]
    have e4 : col (f w ++ joinX (r.map f)) = col (f w) ++ col (joinX (r.map f)) := by
      unfold joinX
      rw [col_x, e3]
    rw [e4, ih]
theorem map_join (f : Nat → Nat) (h : f 120 = 120) (ws : List (List Nat)) : (joinX ws).map f = joinX (ws.map (List.map f)) := by
  unfold joinX
  simp [h, List.map_flatten, Function.comp_def]
theorem plat_join (ws : List (List Nat)) : plat (joinX ws) = joinX (ws.map plat) := by
  unfold plat
  rw [map_join cm (by decide), col_join]
theorem join_cons (w : List Nat) (r : List (List Nat)) : joinX (w :: r) = (120 :: w) ++ joinX r := by simp [joinX]
theorem join_end : ∀ ws : List (List Nat), ∃ pre, joinX ws = pre ++ [120]
  | [] => ⟨[], rfl⟩
  | w :: r => by
    obtain ⟨pre, e⟩ := join_end r
    exact ⟨120 :: w ++ pre, by rw [join_cons, e]; simp⟩
theorem join_last (ws : List (List Nat)) : (joinX ws).getLast? = some 120 := by
  obtain ⟨pre, e⟩ := join_end ws
  rw [e]; simp
theorem join_mem {ws : List (List Nat)} {c : Nat} (h : c ∈ joinX ws) : c = 120 ∨ ∃ w ∈ ws, c ∈ w := by
  unfold joinX at h
  rcases List.mem_cons.mp h with e | h
  · exact .inl e
  · obtain ⟨l, hl, hc⟩ := List.mem_flatten.mp h
    obtain ⟨w, hw, rfl⟩ := List.mem_map.mp hl
    rcases List.mem_append.mp hc with e | e
    · exact .inr ⟨w, hw, e⟩
    · exact .inl (by simpa using e)
theorem join_len {ws : List (List Nat)} {n : Nat} (h : ∀ w ∈ ws, w.length ≤ n) : (joinX ws).length ≤ 1 + (n + 1) * ws.length := by
  unfold joinX
  rw [List.length_cons]
  induction ws with
  | nil => simp
  | cons w r ih =>
    have i := ih fun x hx => h x (List.mem_cons_of_mem _ hx)
    have hw := h w List.mem_cons_self
    have e : (n + 1) * (w :: r).length = (n + 1) * r.length + (n + 1) := by rw [List.length_cons, Nat.mul_succ]
    rw [e, List.map_cons, List.flatten_cons, List.length_append, List.length_append]
    simp only [List.length_cons, List.length_nil] at i ⊢
    lia
theorem plat_run {ws : List (List Nat)} (hl : ws.length ≤ 4) (h : ∀ w ∈ ws, w.length ≤ 6 ∧ 117 ∉ w ∧ col (plat w) = plat w) : Φ3 0 [.str (joinX ws)] = some (.str (joinX (ws.map plat))) := by
  have e : Φ3 0 [.str (joinX ws)] = Φ1 0 [.str (joinX ws)] := rfl
  have hp := plat_join ws
  have hlen := join_len (n := 6) fun w hw => (h w hw).1
  have c1 : 117 ∉ joinX ws := fun hm => by
    rcases join_mem hm with q | ⟨w, hw, hc⟩
    · cases q
    · exact (h w hw).2.1 hc
  have c2 : col (plat (joinX ws)) = plat (joinX ws) := by
    rw [hp, col_join]
    congr 1
    apply List.map_congr_left
    intro w hw
    exact (h w hw).2.2
  have c3 : (plat (joinX ws)).getLast? = some 120 := by rw [hp]; exact join_last _
  rw [e, platform_run (by lia) rfl (join_last ws) c1 c2 c3, hp]

/-! names -/
noncomputable def RsOk (rs : List (List Nat)) : Prop := rs.length ≤ 4 ∧ ∀ r ∈ rs, r ∈ rL
theorem okR_at {r : List Nat} (h : okR r = true) : r.length ≤ 3 ∧ 117 ∉ r ∧ plat r = (r.map fun c => (alikeOf c).headD 0) ∧ col (plat r) = plat r ∧ ∀ c ∈ r, c ∈ letters ∨ c = 120 := by
  unfold okR at h
  simp only [Bool.and_eq_true, decide_eq_true_eq, Bool.not_eq_true', beq_iff_eq] at h
  obtain ⟨⟨⟨⟨h1, h2⟩, h3⟩, h4⟩, h5⟩ := h
  refine ⟨h1, by simpa using h2, h3, h4, fun c hc => ?_⟩
  have := List.all_eq_true.mp h5 c hc
  simpa using this
theorem RsOk.ok {rs : List (List Nat)} (h : RsOk rs) {r : List Nat} (hr : r ∈ rs) : okR r = true := List.all_eq_true.mp okR_all r (h.2 r hr)
theorem alike_group {c : Nat} (h : c ∈ letters ∨ c = 120) : alikeOf c ∈ groups := by
  rcases h with h | rfl
  · have : letters.all (fun c => groups.contains (alikeOf c)) = true := by decide +kernel
    have := List.all_eq_true.mp this c h
    simpa using this
  · decide +kernel
theorem name_sign {rs : List (List Nat)} (h : RsOk rs) {c : Nat} (hc : c ∈ joinX rs) : c ∈ letters ∨ c = 120 := by
  rcases join_mem hc with e | ⟨r, hr, hc⟩
  · exact .inr e
  · exact (okR_at (h.ok hr)).2.2.2.2 c hc
theorem name_groups {rs : List (List Nat)} (h : RsOk rs) : ∀ y ∈ (joinX rs).map alikeOf, y ∈ groups := fun y hy => by
  obtain ⟨c, hc, rfl⟩ := List.mem_map.mp hy
  exact alike_group (name_sign h hc)
theorem name_told {rs : List (List Nat)} (h : RsOk rs) : Φ3 0 [.str (joinX rs)] = some (.str ((joinX rs).map fun c => (alikeOf c).headD 0)) := by
  rw [plat_run h.1 fun r hr => by
    obtain ⟨h1, h2, _, h4, _⟩ := okR_at (h.ok hr)
    exact ⟨by lia, h2, h4⟩]
  have e : (joinX rs).map (fun c => (alikeOf c).headD 0) = joinX (rs.map (List.map fun c => (alikeOf c).headD 0)) := map_join _ (by decide +kernel) rs
  rw [e]
  congr 3
  apply List.map_congr_left
  intro r hr
  exact (okR_at (h.ok hr)).2.2.1
theorem pat_plat {ws : List Wi} (h : WsOk ws) : Φ3 0 [.str (joinX (ws.map (·.1)))] = some (.str (rendL ((seqL fB ws).map (·.1)))) := by
  rw [plat_run (by simpa using h.1) fun w hw => by
    obtain ⟨x, hx, rfl⟩ := List.mem_map.mp hw
    obtain ⟨h1, h2, _, _, h5, _⟩ := okW_at (h.ok hx)
    exact ⟨h1, h2, h5⟩]
  rw [seq_rend, List.map_map]
  congr 3
  apply List.map_congr_left
  intro x hx
  exact (okW_at (h.ok hx)).2.2.2.1.symm
theorem pat_raw {ws : List Wi} (h : WsOk ws) : joinX (ws.map (·.1)) = rendL ((seqL fA ws).map (·.1)) := by
  rw [seq_rend]
  congr 1
  apply List.map_congr_left
  intro x hx
  exact (okW_at (h.ok hx)).2.2.1.symm
theorem rend_len {f : Wi → Atom} (hf : f = fA ∨ f = fB) {ws : List Wi} (h : WsOk ws) : (rendL ((seqL f ws).map (·.1))).length ≤ 1000 := by
  rw [seq_rend]
  have := join_len (ws := ws.map fun x => (f x).rend) (n := 6) fun w hw => by
    obtain ⟨x, hx, rfl⟩ := List.mem_map.mp hw
    obtain ⟨h1, _, h3, h4, _, h6, _⟩ := okW_at (h.ok hx)
    rcases hf with rfl | rfl
    · rw [h3]; exact h1
    · rw [h4]; exact h6
  rw [List.length_map] at this
  have := h.1
  lia
end Mine
end TP18
section TP19
open PySem PySem.W PyProof.Rows PySem.Calls
set_option maxRecDepth 100000
namespace Mine

/-! _law_pair -/
theorem w_one {a : Nat} (ha : a ∈ letters) : (([a], [a]) : Wi) ∈ wL := by
  unfold wL; simp [ha]
theorem w_two {a b : Nat} (ha : a ∈ letters) (hb : b ∈ letters) : (([91, a, b, 93], [a, b]) : Wi) ∈ wL := by
  unfold wL; simp [ha, hb]
theorem w_xa {a : Nat} (ha : a ∈ letters) : (([91, 120, a, 93], [120, a]) : Wi) ∈ wL := by
  unfold wL; simp [ha]
theorem w_ax {a : Nat} (ha : a ∈ letters) : (([91, a, 120, 93], [120, a]) : Wi) ∈ wL := by
  unfold wL; simp [ha]
theorem w_q : (([63], [63]) : Wi) ∈ wL := by unfold wL; simp
theorem w_s : (([42], [42]) : Wi) ∈ wL := by unfold wL; simp
theorem w_wy : (([91, 119, 45, 121, 93], [119, 120, 121]) : Wi) ∈ wL := by unfold wL; simp
theorem r_one {a : Nat} (ha : a ∈ letters) : [a] ∈ rL := by unfold rL; simp [ha]
theorem r_x : [120] ∈ rL := by unfold rL; simp
theorem r_no : [] ∈ rL := by unfold rL; simp
theorem r_axb {a b : Nat} (ha : a ∈ letters) (hb : b ∈ letters) : [a, 120, b] ∈ rL := by unfold rL; simp [ha, hb]

theorem threeI (x : Int) (h0 : 0 ≤ x) (h1 : x < 3) : x = 0 ∨ x = 1 ∨ x = 2 := by lia
theorem sgn (j : Int) : ∃ a ∈ letters, idxD (.str letters) (j.fmod 10) = some (.str [a]) := by
  have h0 : 0 ≤ j.fmod 10 := Int.fmod_nonneg_of_pos _ (by decide)
  have h1 : j.fmod 10 < 10 := Int.fmod_lt_of_pos _ (by decide)
  obtain ⟨n, hn⟩ : ∃ n : Nat, j.fmod 10 = (n : Int) := ⟨(j.fmod 10).toNat, by lia⟩
  rw [hn]
  have hlt : n < letters.length := by show n < 10; lia
  exact ⟨letters[n], List.getElem_mem hlt, idx_at (by decide) (List.getElem?_eq_getElem hlt)⟩
theorem modI {a b : Int} (h : 0 < b) (h2 : b < 1073741824) : binD .Mod (.int a) (.int b) = some (.int (a.fmod b)) := by
  have e : binD .Mod (.int a) (.int b) = if 0 < b ∧ b < 1073741824 then some (.int (a.fmod b)) else none := rfl
  rw [e, if_pos ⟨h, h2⟩]
theorem divI {a b : Int} (h : 0 < b) (h2 : b < 1073741824) : binD .FloorDiv (.int a) (.int b) = some (.int (a.fdiv b)) := by
  have e : binD .FloorDiv (.int a) (.int b) = if 0 < b ∧ b < 1073741824 then some (.int (a.fdiv b)) else none := rfl
  rw [e, if_pos ⟨h, h2⟩]
theorem mulI {a b : Int} (h : 0 < b) (h2 : b < 1073741824) : binD .Mult (.int a) (.int b) = some (.int (a * b)) := by
  have e : binD .Mult (.int a) (.int b) = if 0 < b ∧ b < 1073741824 then some (.int (a * b)) else none := rfl
  rw [e, if_pos ⟨h, h2⟩]
theorem addS {a b : List Nat} (h : a.length + b.length ≤ 16777216) : binD .Add (.str a) (.str b) = some (.str (a ++ b)) := by
  have e : binD .Add (.str a) (.str b) = if a.length + b.length ≤ 16777216 then some (.str (a ++ b)) else none := rfl
  rw [e, if_pos h]
theorem ltI {a b : Int} : cmpD .Lt (.int a) (.int b) = some (decide (a < b)) := rfl
theorem eqI {a b : Int} : cmpD .Eq (.int a) (.int b) = some (a == b) := rfl

noncomputable abbrev pA : CE := .var 3
noncomputable abbrev pB : CE := .var 4
noncomputable abbrev pF : CE := .var 5
noncomputable abbrev pT : CE := .var 6
theorem c_pr : c_law_pair =
  (.sq (.set 2 (.str letters)) <|
  .sq (.set 3 (.idx (.var 2) (.bin .Mod (.var 1) (.int 10)))) <|
  .sq (.set 4 (.idx (.var 2) (.bin .Mod (.bin .FloorDiv (.var 1) (.int 10)) (.int 10)))) <|
  .sq (.set 5 (.idx (.var 2) (.bin .Mod (.bin .Add (.bin .Mult (.var 1) (.int 3)) (.bin .FloorDiv (.var 1) (.int 100))) (.int 10)))) <|
  .sq (.set 6 (.bin .Mod (.bin .FloorDiv (.var 1) (.int 3)) (.int 3))) <|
  .sq (.ifs (.cmp .Lt (.var 0) (.int 2)) (.sq (.ret (.tup (.cons pA (.cons pA (.cons pA .nil))))) <| .sk) (.sk)) <|
  .sq (.ifs (.cmp .Lt (.var 0) (.int 5)) (.sq (.ret (.tup (.cons (.bin .Add (.bin .Add (.bin .Add (.str [91]) pA) pB) (.str [93])) (.cons (.bin .Add pA pB) (.cons (.idx (.lst (.cons pA (.cons pB (.cons pF .nil)))) pT) .nil))))) <| .sk) (.sk)) <|
  .sq (.ifs (.cmp .Lt (.var 0) (.int 7)) (.sq (.ret (.tup (.cons (.bin .Add (.bin .Add (.str [91]) (.ite (.cmp .Eq (.var 0) (.int 5)) (.bin .Add (.str [120]) pA) (.bin .Add pA (.str [120])))) (.str [93])) (.cons (.bin .Add (.str [120]) pA) (.cons (.idx (.lst (.cons pA (.cons pF (.cons (.str [120]) .nil)))) pT) .nil))))) <| .sk) (.sk)) <|
  .sq (.ifs (.cmp .Eq (.var 0) (.int 7)) (.sq (.ret (.tup (.cons (.str [63]) (.cons (.str [63]) (.cons pA .nil))))) <| .sk) (.sk)) <|
  .sq (.ifs (.cmp .Lt (.var 0) (.int 10)) (.sq (.ret (.tup (.cons (.str [42]) (.cons (.str [42]) (.cons (.idx (.lst (.cons pA (.cons (.bin .Add (.bin .Add pA (.str [120])) pB) (.cons (.str []) .nil)))) pT) .nil))))) <| .sk) (.sk)) <|
  .sq (.ifs (.cmp .Eq (.var 0) (.int 10)) (.sq (.ret (.tup (.cons pA (.cons pA (.cons pB .nil))))) <| .sk) (.sk)) <|
  .sq (.ret (.tup (.cons (.str [91, 119, 45, 121, 93]) (.cons (.str [119, 120, 121]) (.cons (.idx (.lst (.cons (.str [120]) (.cons (.str [120]) (.cons pA .nil)))) pT) .nil))))) <|
  .sk) := rfl
noncomputable def PV (k r : Int) (a b f : Nat) (t : Int) : List CB := [.val (.int k), .val (.int r), .val (.str letters), .val (.str [a]), .val (.str [b]), .val (.str [f]), .val (.int t)]
theorem ytup3 {Φ : Fn} {V : List CB} {x y z : CE} {a b c : D} (h1 : ev Φ x V = some a) (h2 : ev Φ y V = some b) (h3 : ev Φ z V = some c) : ev Φ (.tup (.cons x (.cons y (.cons z .nil)))) V = some (.tup [a, b, c]) :=
  ytup (ycons h1 (ycons h2 (ycons h3 ynil))) (by simp)
/-- one of threeI -/
theorem yturn {k r t : Int} {a b f : Nat} {x y z : CE} {l1 l2 l3 : List Nat} {P : List Nat → Prop} (ht : t = 0 ∨ t = 1 ∨ t = 2) (h1 : ev Φ0 x (PV k r a b f t) = some (.str l1)) (h2 : ev Φ0 y (PV k r a b f t) = some (.str l2)) (h3 : ev Φ0 z (PV k r a b f t) = some (.str l3)) (p1 : P l1) (p2 : P l2) (p3 : P l3) :
    ∃ l, ev Φ0 (.idx (.lst (.cons x (.cons y (.cons z .nil)))) pT) (PV k r a b f t) = some (.str l) ∧ P l := by
  have hl := ylst (Φ := Φ0) (ycons h1 (ycons h2 (ycons h3 ynil))) (by simp)
  rcases ht with rfl | rfl | rfl
  · exact ⟨l1, yidx (j := 0) hl (yvar rfl) rfl, p1⟩
  · exact ⟨l2, yidx (j := 1) hl (yvar rfl) rfl, p2⟩
  · exact ⟨l3, yidx (j := 2) hl (yvar rfl) rfl, p3⟩
theorem phi9 (a b : D) : Φ3 9 [a, b] = run Φ0 hZ c_law_pair n_law_pair [a, b] := by
  have e : Φ3 9 [a, b] = if [a, b].length = 2 then run Φ0 hZ c_law_pair n_law_pair [a, b] else none := rfl
  rw [e, if_pos (show [a, b].length = 2 from rfl)]
theorem ret3 {k r t : Int} {a b f : Nat} {V : List CB} {x y z : CE} {w it n : List Nat} (h1 : ev Φ0 x V = some (.str w)) (h2 : ev Φ0 y V = some (.str it)) (h3 : ev Φ0 z V = some (.str n)) : ex Φ0 hZ FU (.sq (.ret (.tup (.cons x (.cons y (.cons z .nil))))) <| .sk) V = some (.ret (.tup [.str w, .str it, .str n]), V) :=
  xs_ret (xret (ytup3 h1 h2 h3))
theorem pair_tail {k r t : Int} {a b f : Nat} (hk0 : 0 ≤ k) (hk1 : k < 12) (ha : a ∈ letters) (hb : b ∈ letters) (hf : f ∈ letters) (ht : t = 0 ∨ t = 1 ∨ t = 2) :
    ∃ w it n, ex Φ0 hZ FU (.sq (.ifs (.cmp .Lt (.var 0) (.int 2)) (.sq (.ret (.tup (.cons pA (.cons pA (.cons pA .nil))))) <| .sk) (.sk)) <|
      .sq (.ifs (.cmp .Lt (.var 0) (.int 5)) (.sq (.ret (.tup (.cons (.bin .Add (.bin .Add (.bin .Add (.str [91]) pA) pB) (.str [93])) (.cons (.bin .Add pA pB) (.cons (.idx (.lst (.cons pA (.cons pB (.cons pF .nil)))) pT) .nil))))) <| .sk) (.sk)) <|
      .sq (.ifs (.cmp .Lt (.var 0) (.int 7)) (.sq (.ret (.tup (.cons (.bin .Add (.bin .Add (.str [91]) (.ite (.cmp .Eq (.var 0) (.int 5)) (.bin .Add (.str [120]) pA) (.bin .Add pA (.str [120])))) (.str [93])) (.cons (.bin .Add (.str [120]) pA) (.cons (.idx (.lst (.cons pA (.cons pF (.cons (.str [120]) .nil)))) pT) .nil))))) <| .sk) (.sk)) <|
      .sq (.ifs (.cmp .Eq (.var 0) (.int 7)) (.sq (.ret (.tup (.cons (.str [63]) (.cons (.str [63]) (.cons pA .nil))))) <| .sk) (.sk)) <|
      .sq (.ifs (.cmp .Lt (.var 0) (.int 10)) (.sq (.ret (.tup (.cons (.str [42]) (.cons (.str [42]) (.cons (.idx (.lst (.cons pA (.cons (.bin .Add (.bin .Add pA (.str [120])) pB) (.cons (.str []) .nil)))) pT) .nil))))) <| .sk) (.sk)) <|
      .sq (.ifs (.cmp .Eq (.var 0) (.int 10)) (.sq (.ret (.tup (.cons pA (.cons pA (.cons pB .nil))))) <| .sk) (.sk)) <|
      .sq (.ret (.tup (.cons (.str [91, 119, 45, 121, 93]) (.cons (.str [119, 120, 121]) (.cons (.idx (.lst (.cons (.str [120]) (.cons (.str [120]) (.cons pA .nil)))) pT) .nil))))) <|
      .sk) (PV k r a b f t) = some (.ret (.tup [.str w, .str it, .str n]), PV k r a b f t) ∧ ((w, it) : Wi) ∈ wL ∧ n ∈ rL := by
  have lt_T : ∀ {m : Int}, k < m → asB (ev Φ0 (.cmp .Lt (.var 0) (.int m)) (PV k r a b f t)) = some true := fun {m} h => ycmp (yvar rfl) rfl (ltI.trans (by rw [decide_eq_true h]))
  have lt_F : ∀ {m : Int}, ¬ k < m → asB (ev Φ0 (.cmp .Lt (.var 0) (.int m)) (PV k r a b f t)) = some false := fun {m} h => ycmp (yvar rfl) rfl (ltI.trans (by rw [decide_eq_false h]))
  have eq_T : ∀ {m : Int}, k = m → asB (ev Φ0 (.cmp .Eq (.var 0) (.int m)) (PV k r a b f t)) = some true := fun {m} h => ycmp (yvar rfl) rfl (eqI.trans (by simpa using h))
  have eq_F : ∀ {m : Int}, k ≠ m → asB (ev Φ0 (.cmp .Eq (.var 0) (.int m)) (PV k r a b f t)) = some false := fun {m} h => ycmp (yvar rfl) rfl (eqI.trans (by simpa using h))
  have vA : ev Φ0 pA (PV k r a b f t) = some (.str [a]) := yvar rfl
  have vB : ev Φ0 pB (PV k r a b f t) = some (.str [b]) := yvar rfl
  have vF : ev Φ0 pF (PV k r a b f t) = some (.str [f]) := yvar rfl
  by_cases k2 : k < 2
  · exact ⟨[a], [a], [a], xs_ret (xift (lt_T k2) (ret3 (k := k) (r := r) (t := t) (a := a) (b := b) (f := f) vA vA vA)), w_one ha, r_one ha⟩
  by_cases k5 : k < 5
  · obtain ⟨l, e, hl⟩ := yturn (P := (· ∈ rL)) ht vA vB vF (r_one ha) (r_one hb) (r_one hf)
    refine ⟨[91, a, b, 93], [a, b], l, ?_, w_two ha hb, hl⟩
    refine xs (xiff (lt_F k2) xsk) (xs_ret (xift (lt_T k5) (ret3 (k := k) (r := r) (t := t) (a := a) (b := b) (f := f) ?_ ?_ e)))
    · exact ybin (ybin (ybin rfl vA (addS (by simp))) vB (addS (by simp))) rfl (addS (by simp))
    · exact ybin vA vB (addS (by simp))
  by_cases k7 : k < 7
  · obtain ⟨l, e, hl⟩ := yturn (P := (· ∈ rL)) ht vA vF (show ev Φ0 (.str [120]) (PV k r a b f t) = some (.str [120]) from rfl) (r_one ha) (r_one hf) r_x
    have hit : ev Φ0 (.bin .Add (.str [120]) pA) (PV k r a b f t) = some (.str [120, a]) := ybin rfl vA (addS (by simp))
    by_cases k5e : k = 5
    · refine ⟨[91, 120, a, 93], [120, a], l, ?_, w_xa ha, hl⟩
      refine xs (xiff (lt_F k2) xsk) (xs (xiff (lt_F k5) xsk) (xs_ret (xift (lt_T k7) (ret3 (k := k) (r := r) (t := t) (a := a) (b := b) (f := f) ?_ hit e))))
      exact ybin (ybin rfl (yitet (eq_T k5e) hit) (addS (by simp))) rfl (addS (by simp))
    · refine ⟨[91, a, 120, 93], [120, a], l, ?_, w_ax ha, hl⟩
      refine xs (xiff (lt_F k2) xsk) (xs (xiff (lt_F k5) xsk) (xs_ret (xift (lt_T k7) (ret3 (k := k) (r := r) (t := t) (a := a) (b := b) (f := f) ?_ hit e))))
      exact ybin (ybin rfl (yitef (eq_F k5e) (ybin vA rfl (addS (by simp)))) (addS (by simp))) rfl (addS (by simp))
  by_cases k7e : k = 7
  · refine ⟨[63], [63], [a], ?_, w_q, r_one ha⟩
    exact xs (xiff (lt_F k2) xsk) (xs (xiff (lt_F k5) xsk) (xs (xiff (lt_F k7) xsk) (xs_ret (xift (eq_T k7e) (ret3 (k := k) (r := r) (t := t) (a := a) (b := b) (f := f) rfl rfl vA)))))
  by_cases k10 : k < 10
  · obtain ⟨l, e, hl⟩ := yturn (P := (· ∈ rL)) ht vA (show ev Φ0 (.bin .Add (.bin .Add pA (.str [120])) pB) (PV k r a b f t) = some (.str [a, 120, b]) from ybin (ybin vA rfl (addS (by simp))) vB (addS (by simp))) (show ev Φ0 (.str []) (PV k r a b f t) = some (.str []) from rfl) (r_one ha) (r_axb ha hb) r_no
    refine ⟨[42], [42], l, ?_, w_s, hl⟩
    exact xs (xiff (lt_F k2) xsk) (xs (xiff (lt_F k5) xsk) (xs (xiff (lt_F k7) xsk) (xs (xiff (eq_F k7e) xsk) (xs_ret (xift (lt_T k10) (ret3 (k := k) (r := r) (t := t) (a := a) (b := b) (f := f) rfl rfl e))))))
  by_cases k10e : k = 10
  · refine ⟨[a], [a], [b], ?_, w_one ha, r_one hb⟩
    exact xs (xiff (lt_F k2) xsk) (xs (xiff (lt_F k5) xsk) (xs (xiff (lt_F k7) xsk) (xs (xiff (eq_F k7e) xsk) (xs (xiff (lt_F k10) xsk) (xs_ret (xift (eq_T k10e) (ret3 (k := k) (r := r) (t := t) (a := a) (b := b) (f := f) vA vA vB)))))))
  · obtain ⟨l, e, hl⟩ := yturn (P := (· ∈ rL)) ht (show ev Φ0 (.str [120]) (PV k r a b f t) = some (.str [120]) from rfl) (show ev Φ0 (.str [120]) (PV k r a b f t) = some (.str [120]) from rfl) vA r_x r_x (r_one ha)
    refine ⟨[91, 119, 45, 121, 93], [119, 120, 121], l, ?_, w_wy, hl⟩
    exact xs (xiff (lt_F k2) xsk) (xs (xiff (lt_F k5) xsk) (xs (xiff (lt_F k7) xsk) (xs (xiff (eq_F k7e) xsk) (xs (xiff (lt_F k10) xsk) (xs (xiff (eq_F k10e) xsk) (ret3 (k := k) (r := r) (t := t) (a := a) (b := b) (f := f) rfl rfl e))))))
theorem pair_run (k r : Int) (hk0 : 0 ≤ k) (hk1 : k < 12) : ∃ w it n, Φ3 9 [.int k, .int r] = some (.tup [.str w, .str it, .str n]) ∧ ((w, it) : Wi) ∈ wL ∧ n ∈ rL := by
  obtain ⟨a, ha, ia⟩ := sgn r
  obtain ⟨b, hb, ib⟩ := sgn (r.fdiv 10)
  obtain ⟨f, hf, jf⟩ := sgn (r * 3 + r.fdiv 100)
  have ht := threeI ((r.fdiv 3).fmod 3) (Int.fmod_nonneg_of_pos _ (by decide)) (Int.fmod_lt_of_pos _ (by decide))
  obtain ⟨w, it, n, e, h1, h2⟩ := pair_tail (r := r) hk0 hk1 ha hb hf ht
  refine ⟨w, it, n, ?_, h1, h2⟩
  rw [phi9]
  refine run_of (V0 := [.val (.int k), .val (.int r), .none, .none, .none, .none, .none]) (V' := PV k r a b f ((r.fdiv 3).fmod 3)) rfl ?_
  rw [c_pr]
  refine xs (V' := [.val (.int k), .val (.int r), .val (.str letters), .none, .none, .none, .none]) (xset rfl rfl rfl) ?_
  refine xs (V' := [.val (.int k), .val (.int r), .val (.str letters), .val (.str [a]), .none, .none, .none]) (xset (yidx (yvar rfl) (ybin (yvar rfl) rfl (modI (by decide) (by decide))) ia) rfl rfl) ?_
  refine xs (V' := [.val (.int k), .val (.int r), .val (.str letters), .val (.str [a]), .val (.str [b]), .none, .none]) (xset (yidx (yvar rfl) (ybin (ybin (yvar rfl) rfl (divI (by decide) (by decide))) rfl (modI (by decide) (by decide))) ib) rfl rfl) ?_
  refine xs (V' := [.val (.int k), .val (.int r), .val (.str letters), .val (.str [a]), .val (.str [b]), .val (.str [f]), .none]) (xset (yidx (yvar rfl) (ybin (ybin (ybin (yvar rfl) rfl (mulI (by decide) (by decide))) (ybin (yvar rfl) rfl (divI (by decide) (by decide))) rfl) rfl (modI (by decide) (by decide))) jf) rfl rfl) ?_
  refine xs (V' := PV k r a b f ((r.fdiv 3).fmod 3)) (xset (ybin (ybin (yvar rfl) rfl (divI (by decide) (by decide))) rfl (modI (by decide) (by decide))) rfl rfl) ?_
  exact e
end Mine
end TP19
section TP20
open PySem PySem.W PyProof.Rows PySem.Calls
set_option maxRecDepth 100000
namespace Mine

/-! the law -/
theorem alike_run {c : Nat} (h : c ∈ letters ∨ c = 120) : Φ3 10 [.str [c]] = some (.str (alikeOf c)) := by
  rcases h with h | rfl
  · simp only [letters, List.mem_cons, List.not_mem_nil, or_false] at h
    rcases h with rfl | rfl | rfl | rfl | rfl | rfl | rfl | rfl | rfl | rfl <;> kernel_rfl
  · kernel_rfl
theorem frl_all {Φ : Fn} {H : Nat → List CB → Option (List CB)} {F : Nat} {bd : D → List CB → Option (List CB)} {a : CS} {Inv : List CB → Prop} : ∀ (ds : List D) (V : List CB), Inv V → (∀ d ∈ ds, ∀ V, Inv V → ∃ V1 V2, bd d V = some V1 ∧ ex Φ H F a V1 = some (.next, V2) ∧ Inv V2) → ∃ V', frl Φ H F bd a ds V = some (.next, V') ∧ Inv V'
  | [], V, hV, _ => ⟨V, rfl, hV⟩
  | d :: r, V, hV, h => by
    obtain ⟨V1, V2, e1, e2, e3⟩ := h d List.mem_cons_self V hV
    obtain ⟨V', e4, e5⟩ := frl_all r V2 e3 fun x hx => h x (List.mem_cons_of_mem _ hx)
    exact ⟨V', fc e1 e2 e4, e5⟩

noncomputable abbrev lwA : CS := .sq (.app 1 (.tup (.cons (.bin .Add (.bin .Add (.idx (.midx 1 (.neg (.int 1))) (.int 0)) (.var 3)) (.str [120])) (.cons (.bin .Add (.idx (.midx 1 (.neg (.int 1))) (.int 1)) (.lst (.cons (.var 4) (.cons (.str [120]) .nil)))) .nil)))) <|
  .sq (.app 2 (.bin .Add (.bin .Add (.midx 2 (.neg (.int 1))) (.var 5)) (.str [120]))) <| .sk
noncomputable abbrev lwN : CE := .join (.str []) (.cons (.comp (.nm 16) (.var 12) (.idx (.var 16) (.int 0)) .no) .nil)
noncomputable abbrev lwC : CS := .sq (.setc 12 (.comp (.nm 13) (.var 11) (.cal 10 (.cons (.var 13) .nil)) .no)) <|
  .sq (.set 14 (.cal 0 (.cons (.var 11) .nil))) <|
  .sq (.set 15 (.cal 11 (.cons (.var 8) (.cons (.var 12) .nil)))) <|
  .sq (.ifs (.cmp .NotEq (.var 14) lwN) (.sq (.ret (.bool false)) <| .sk) (.sk)) <|
  .sq (.ifs (.orr (.cmp .IsNot (.cal 8 (.cons (.var 9) (.cons (.var 12) .nil))) (.var 15)) (.cmp .IsNot (.cal 8 (.cons (.var 10) (.cons (.var 14) .nil))) (.var 15))) (.sq (.ret (.bool false)) <| .sk) (.sk)) <|
  .sk
noncomputable abbrev lwB : CS := .sq (.set 9 (.cal 6 (.cons (.cal 1 (.cons (.var 7) .nil)) .nil))) <|
  .sq (.set 10 (.cal 6 (.cons (.cal 1 (.cons (.cal 0 (.cons (.var 7) .nil)) .nil)) .nil))) <|
  .sq (.fr (.nm 11) (.var 2) lwC) <| .sk
noncomputable abbrev lwP : CE := .comp (.nm 6) (.sl (.var 0) .no (.int 3)) (.cal 9 (.cons (.bin .Mod (.var 6) (.int 12)) (.cons (.bin .FloorDiv (.var 6) (.int 12)) .nil))) .no
theorem c_lw : c_law =
  (.sq (.newl 1 (.cons (.tup (.cons (.str [120]) (.cons (.lst (.cons (.str [120]) .nil)) .nil))) .nil)) <|
  .sq (.newl 2 (.cons (.str [120]) .nil)) <|
  .sq (.fr (.tp [3, 4, 5]) (.bin .Add lwP (.lst (.cons (.tup (.cons (.str [91, 32, 47, 93]) (.cons (.str [32, 47]) (.cons (.str [95]) .nil)))) .nil))) lwA) <|
  .gh (.frz 1) <| .gh (.frz 2) <| .sq (.fr (.tp [7, 8]) (.var 1) lwB) <|
  .sq (.ret (.bool true)) <| .sk) := rfl
noncomputable def LV (sc P N w it r p its tk ft nm al td du : CB) : List CB := [sc, P, N, w, it, r, .none, p, its, tk, ft, nm, al, .none, td, du, .none]
theorem LV.na {sc P N w it r p its tk ft nm al td du : CB} (h0 : JK sc) (h1 : JK P) (h2 : JK N) (h3 : JK w) (h4 : JK it) (h5 : JK r) (h7 : JK p) (h8 : JK its) (h9 : JK tk) (h10 : JK ft) (h11 : JK nm) (h12 : JK al) (h14 : JK td) (h15 : JK du) (x : Nat) : noApp (LV sc P N w it r p its tk ft nm al td du) x = true :=
  na_cons (h0 _) <| na_cons (h1 _) <| na_cons (h2 _) <| na_cons (h3 _) <| na_cons (h4 _) <| na_cons (h5 _) <| na_cons rfl <| na_cons (h7 _) <| na_cons (h8 _) <| na_cons (h9 _) <| na_cons (h10 _) <| na_cons (h11 _) <| na_cons (h12 _) <| na_cons rfl <| na_cons (h14 _) <| na_cons (h15 _) <| na_cons rfl rfl

noncomputable def toksD (L : List Pr) : D := .lst ((elsOf L).map El.tok)
noncomputable def alD (rs : List (List Nat)) : D := .lst (((joinX rs).map alikeOf).map .str)
noncomputable def toldL (rs : List (List Nat)) : List Nat := (joinX rs).map fun c => (alikeOf c).headD 0
theorem rs_len {rs : List (List Nat)} (h : RsOk rs) : (joinX rs).length ≤ 17 := by
  have := join_len (ws := rs) (n := 3) fun r hr => (okR_at (h.ok hr)).1
  have := h.1
  lia
theorem alike_head {c : Nat} (h : c ∈ letters ∨ c = 120) : ∃ a r, alikeOf c = a :: r ∧ alikeOf c ≠ [] ∧ (alikeOf c).length ≤ 1000 := by
  have hg := alike_group h
  simp only [groups, List.mem_cons, List.not_mem_nil, or_false] at hg
  rcases hg with e | e | e <;> rw [e] <;> exact ⟨_, _, rfl, by simp, by simp⟩
theorem isn {a : Bool} : cmpD .IsNot (ofB a) (ofB a) = some false := by
  have e : cmpD .IsNot (ofB a) (ofB a) = some (!(a == a)) := rfl
  rw [e]; simp

/-- one name -/
theorem name_step {sc P N w it r : CB} {p : CB} {ws : List Wi} {rs : List (List Nat)} {nm al td du : CB} (hw : WsOk ws) (hr : RsOk rs) (h0 : JK sc) (h1 : JK P) (h2 : JK N) (h3 : JK w) (h4 : JK it) (h5 : JK r) (h7 : JK p) (h11 : JK nm) (h12 : JK al) (h14 : JK td) (h15 : JK du) :
    ∃ V1, bindG (.nm 11) (.str (joinX rs)) (LV sc P N w it r p (.val (.lst ((itX ws).map .str))) (.val (toksD (seqL fA ws))) (.val (toksD (seqL fB ws))) nm al td du) = some V1 ∧
      ex Φ3 hZ FU lwC V1 = some (.next, LV sc P N w it r p (.val (.lst ((itX ws).map .str))) (.val (toksD (seqL fA ws))) (.val (toksD (seqL fB ws))) (.val (.str (joinX rs))) (.val (alD rs)) (.val (.str (toldL rs))) (.val (ofB (meetsF ((joinX rs).map alikeOf) (itX ws))))) := by
  have hl := rs_len hr
  have na : ∀ {a b c d : CB}, JK a → JK b → JK c → JK d → ∀ x, noApp (LV sc P N w it r p (.val (.lst ((itX ws).map .str))) (.val (toksD (seqL fA ws))) (.val (toksD (seqL fB ws))) a b c d) x = true := fun ha hb hc hd x => LV.na h0 h1 h2 h3 h4 h5 h7 (JK.val _) (JK.val _) (JK.val _) ha hb hc hd x
  have nap : ∀ {a b c d : CB}, JK a → JK b → JK c → JK d → ∀ x, noApp ((LV sc P N w it r p (.val (.lst ((itX ws).map .str))) (.val (toksD (seqL fA ws))) (.val (toksD (seqL fB ws))) a b c d).map CB.pure) x = true := fun ha hb hc hd x => LV.na h0.pure h1.pure h2.pure h3.pure h4.pure h5.pure h7.pure (JK.val _) (JK.val _) (JK.val _) ha.pure hb.pure hc.pure hd.pure x
  have hgr := name_groups hr
  have hgl : ∀ x ∈ (joinX rs).map alikeOf, x.length ≤ 1000 := fun x hx => by
    obtain ⟨c, hc, rfl⟩ := List.mem_map.mp hx
    exact (alike_head (name_sign hr hc)).choose_spec.choose_spec.2.2
  refine ⟨LV sc P N w it r p (.val (.lst ((itX ws).map .str))) (.val (toksD (seqL fA ws))) (.val (toksD (seqL fB ws))) (.val (.str (joinX rs))) al td du, setV_of (na h11 h12 h14 h15 _) rfl, ?_⟩
  refine xs (V' := LV sc P N w it r p (.val (.lst ((itX ws).map .str))) (.val (toksD (seqL fA ws))) (.val (toksD (seqL fB ws))) (.val (.str (joinX rs))) (.val (alD rs)) td du) (xsetc ?_ (na (JK.val _) h12 h14 h15 _) rfl) ?_
  · have := ycomp (Φ := Φ3) (V := LV sc P N w it r p (.val (.lst ((itX ws).map .str))) (.val (toksD (seqL fA ws))) (.val (toksD (seqL fB ws))) (.val (.str (joinX rs))) al td du) (g := .nm 13) (it := .var 11) (el := .cal 10 (.cons (.var 13) .nil)) (d := .str (joinX rs)) (ds := (joinX rs).map fun c => .str [c]) (f := fun d => match d with | .str [c] => .str (alikeOf c) | d => d) (yvar rfl) rfl (by simp; lia) fun d hd => by
      obtain ⟨c, hc, rfl⟩ := List.mem_map.mp hd
      exact ⟨_, setV_of (nap (JK.val _) h12 h14 h15 _) rfl, ycal (ycons (yvar rfl) ynil) (alike_run (name_sign hr hc))⟩
    rw [this]
    simp [alD]
  refine xs (V' := LV sc P N w it r p (.val (.lst ((itX ws).map .str))) (.val (toksD (seqL fA ws))) (.val (toksD (seqL fB ws))) (.val (.str (joinX rs))) (.val (alD rs)) (.val (.str (toldL rs))) du) (xset (ycal (ycons (yvar rfl) ynil) (name_told hr)) (na (JK.val _) (JK.val _) h14 h15 _) rfl) ?_
  have hnm : Nm (alD rs) ((joinX rs).map alikeOf) := .inl rfl
  have hnl : ((joinX rs).map alikeOf).length ≤ 900 := by simp; lia
  have hme : Φ3 11 [.lst ((itX ws).map .str), alD rs] = some (ofB (meetsF ((joinX rs).map alikeOf) (itX ws))) := meets_run hnm (by lia) hgl
  refine xs (V' := LV sc P N w it r p (.val (.lst ((itX ws).map .str))) (.val (toksD (seqL fA ws))) (.val (toksD (seqL fB ws))) (.val (.str (joinX rs))) (.val (alD rs)) (.val (.str (toldL rs))) (.val (ofB (meetsF ((joinX rs).map alikeOf) (itX ws))))) (xset (ycal (ycons (yvar rfl) (ycons (yvar rfl) ynil)) hme) (na (JK.val _) (JK.val _) (JK.val _) h15 _) rfl) ?_
  -- the told name
  have hj : ev Φ3 lwN (LV sc P N w it r p (.val (.lst ((itX ws).map .str))) (.val (toksD (seqL fA ws))) (.val (toksD (seqL fB ws))) (.val (.str (joinX rs))) (.val (alD rs)) (.val (.str (toldL rs))) (.val (ofB (meetsF ((joinX rs).map alikeOf) (itX ws))))) = some (.str (toldL rs)) := by
    have := ycomp (Φ := Φ3) (V := LV sc P N w it r p (.val (.lst ((itX ws).map .str))) (.val (toksD (seqL fA ws))) (.val (toksD (seqL fB ws))) (.val (.str (joinX rs))) (.val (alD rs)) (.val (.str (toldL rs))) (.val (ofB (meetsF ((joinX rs).map alikeOf) (itX ws))))) (g := .nm 16) (it := .var 12) (el := .idx (.var 16) (.int 0)) (d := alD rs) (ds := ((joinX rs).map alikeOf).map .str) (f := fun d => match d with | .str (c :: _) => .str [c] | d => d) (yvar rfl) rfl (by simp; lia) fun d hd => by
      obtain ⟨l, hl', rfl⟩ := List.mem_map.mp hd
      obtain ⟨c, hc, rfl⟩ := List.mem_map.mp hl'
      obtain ⟨a, q, e, _, _⟩ := alike_head (name_sign hr hc)
      refine ⟨_, setV_of (nap (JK.val _) (JK.val _) (JK.val _) (JK.val _) _) rfl, yidx (j := 0) (yvar rfl) rfl ?_⟩
      rw [e]; rfl
    refine yjoin rfl (ycons this ynil) ?_
    have e2 : ((((joinX rs).map alikeOf).map D.str).map fun d => match d with | D.str (c :: _) => D.str [c] | d => d) = ((joinX rs).map fun c => [(alikeOf c).headD 0]).map D.str := by
      rw [List.map_map, List.map_map, List.map_map]
      apply List.map_congr_left
      intro c hc
      obtain ⟨a, q, e, _, _⟩ := alike_head (name_sign hr hc)
      show (match D.str (alikeOf c) with | .str (c :: _) => D.str [c] | d => d) = D.str [(alikeOf c).headD 0]
      rw [e]; rfl
    rw [e2]
    have e3 : ((joinX rs).map fun c => [(alikeOf c).headD 0]).flatten = toldL rs := by
      unfold toldL
      generalize joinX rs = l
      induction l with
      | nil => rfl
      | cons a r ih => rw [List.map_cons, List.flatten_cons, ih, List.map_cons]; rfl
    have hlen : (toldL rs).length ≤ 100000 := by unfold toldL; simp; lia
    have := join_at (xs := (joinX rs).map fun c => [(alikeOf c).headD 0]) (by rw [e3]; exact hlen)
    rw [e3] at this
    exact this
  refine xs (xiff (ycmp (yvar rfl) hj ne_f) xsk) ?_
  -- both texts
  have t1 : Φ3 8 [toksD (seqL fA ws), alD rs] = some (ofB (meetsF ((joinX rs).map alikeOf) (itX ws))) := by
    have := take_run (seq_ok (.inl rfl) hw) hnm hnl hgl rfl (ag_a hw hgr)
    rw [seq_items] at this
    exact this
  have t2 : Φ3 8 [toksD (seqL fB ws), .str (toldL rs)] = some (ofB (meetsF ((joinX rs).map alikeOf) (itX ws))) := by
    have hnm2 : Nm (.str (toldL rs)) (((joinX rs).map alikeOf).map headG) := by
      refine .inr ⟨toldL rs, rfl, ?_⟩
      unfold toldL headG
      simp
    have := take_run (seq_ok (.inr rfl) hw) hnm2 (by simpa using hnl) (fun x hx => by
      obtain ⟨y, _, rfl⟩ := List.mem_map.mp hx
      simp [headG]) (by simp) (ag_b hw hgr)
    rw [seq_items] at this
    exact this
  exact xs (xiff (yorf (ycmp (ycal (ycons (yvar rfl) (ycons (yvar rfl) ynil)) t1) (yvar rfl) isn) (ycmp (ycal (ycons (yvar rfl) (ycons (yvar rfl) ynil)) t2) (yvar rfl) isn)) xsk) xsk
end Mine
end TP20
section TP21
open PySem PySem.W PyProof.Rows PySem.Calls
set_option maxRecDepth 100000
namespace Mine

noncomputable def patD (ws : List Wi) : D := .tup [.str (joinX (ws.map (·.1))), .lst ((itX ws).map .str)]
noncomputable def namD (rs : List (List Nat)) : D := .str (joinX rs)

/-- one pattern -/
noncomputable def InvP (sc P : CB) (rss : List (List (List Nat))) (V : List CB) : Prop := ∃ w it r p its tk ft nm al td du, V = LV sc P (.val (.lst (rss.map namD))) w it r p its tk ft nm al td du ∧ JK w ∧ JK it ∧ JK r ∧ JK p ∧ JK its ∧ JK tk ∧ JK ft ∧ JK nm ∧ JK al ∧ JK td ∧ JK du
theorem pat_step {sc P : CB} {rss : List (List (List Nat))} {ws : List Wi} {V : List CB} (hw : WsOk ws) (hr : ∀ rs ∈ rss, RsOk rs) (hrl : rss.length ≤ 100) (h0 : JK sc) (h1 : JK P) (hV : InvP sc P rss V) :
    ∃ V1 V2, bindG (.tp [7, 8]) (patD ws) V = some V1 ∧ ex Φ3 hZ FU lwB V1 = some (.next, V2) ∧ InvP sc P rss V2 := by
  obtain ⟨w, it, r, p, its, tk, ft, nm, al, td, du, rfl, h3, h4, h5, h7, h8, h9, h10, h11, h12, h14, h15⟩ := hV
  have hN : JK (.val (.lst (rss.map namD))) := JK.val _
  have loop := frl_all (Φ := Φ3) (H := hZ) (F := FU) (bd := bindG (.nm 11)) (a := lwC)
    (Inv := fun V => ∃ nm al td du, V = LV sc P (.val (.lst (rss.map namD))) w it r (.val (.str (joinX (ws.map (·.1))))) (.val (.lst ((itX ws).map .str))) (.val (toksD (seqL fA ws))) (.val (toksD (seqL fB ws))) nm al td du ∧ JK nm ∧ JK al ∧ JK td ∧ JK du)
    (rss.map namD) (LV sc P (.val (.lst (rss.map namD))) w it r (.val (.str (joinX (ws.map (·.1))))) (.val (.lst ((itX ws).map .str))) (.val (toksD (seqL fA ws))) (.val (toksD (seqL fB ws))) nm al td du) ⟨nm, al, td, du, rfl, h11, h12, h14, h15⟩ fun d hd V hV => by
      obtain ⟨rs, hrs, rfl⟩ := List.mem_map.mp hd
      obtain ⟨nm, al, td, du, rfl, j1, j2, j3, j4⟩ := hV
      obtain ⟨V1, e1, e2⟩ := name_step (sc := sc) (P := P) (N := .val (.lst (rss.map namD))) (w := w) (it := it) (r := r) (p := .val (.str (joinX (ws.map (·.1))))) hw (hr rs hrs) h0 h1 hN h3 h4 h5 (JK.val _) j1 j2 j3 j4
      exact ⟨V1, _, e1, e2, _, _, _, _, rfl, JK.val _, JK.val _, JK.val _, JK.val _⟩
  obtain ⟨V', e, nm', al', td', du', rfl, j1, j2, j3, j4⟩ := loop
  refine ⟨LV sc P (.val (.lst (rss.map namD))) w it r (.val (.str (joinX (ws.map (·.1))))) (.val (.lst ((itX ws).map .str))) tk ft nm al td du, LV sc P (.val (.lst (rss.map namD))) w it r (.val (.str (joinX (ws.map (·.1))))) (.val (.lst ((itX ws).map .str))) (.val (toksD (seqL fA ws))) (.val (toksD (seqL fB ws))) nm' al' td' du', ?_, ?_, ?_⟩
  · show setsV [7, 8] [.str (joinX (ws.map (·.1))), .lst ((itX ws).map .str)] _ = _
    refine setsV_c (V' := LV sc P (.val (.lst (rss.map namD))) w it r (.val (.str (joinX (ws.map (·.1))))) its tk ft nm al td du) (LV.na h0 h1 hN h3 h4 h5 h7 h8 h9 h10 h11 h12 h14 h15 _) rfl ?_
    refine setsV_c (V' := LV sc P (.val (.lst (rss.map namD))) w it r (.val (.str (joinX (ws.map (·.1))))) (.val (.lst ((itX ws).map .str))) tk ft nm al td du) (LV.na h0 h1 hN h3 h4 h5 (JK.val _) h8 h9 h10 h11 h12 h14 h15 _) rfl ?_
    rfl
  · have a1 : Φ3 1 [.str (joinX (ws.map (·.1)))] = some (.str (textOf (seqL fA ws))) := by
      rw [pat_raw hw]
      exact trans_run (seq_ok (.inl rfl) hw) (rend_len (.inl rfl) hw)
    have a2 : Φ3 6 [.str (textOf (seqL fA ws))] = some (toksD (seqL fA ws)) := read_run (seq_ok (.inl rfl) hw)
    have b0 := pat_plat hw
    have b1 : Φ3 1 [.str (rendL ((seqL fB ws).map (·.1)))] = some (.str (textOf (seqL fB ws))) := trans_run (seq_ok (.inr rfl) hw) (rend_len (.inr rfl) hw)
    have b2 : Φ3 6 [.str (textOf (seqL fB ws))] = some (toksD (seqL fB ws)) := read_run (seq_ok (.inr rfl) hw)
    refine xs (V' := LV sc P (.val (.lst (rss.map namD))) w it r (.val (.str (joinX (ws.map (·.1))))) (.val (.lst ((itX ws).map .str))) (.val (toksD (seqL fA ws))) ft nm al td du) (xset (ycal (ycons (ycal (ycons (yvar rfl) ynil) a1) ynil) a2) (LV.na h0 h1 hN h3 h4 h5 (JK.val _) (JK.val _) h9 h10 h11 h12 h14 h15 _) rfl) ?_
    refine xs (V' := LV sc P (.val (.lst (rss.map namD))) w it r (.val (.str (joinX (ws.map (·.1))))) (.val (.lst ((itX ws).map .str))) (.val (toksD (seqL fA ws))) (.val (toksD (seqL fB ws))) nm al td du) (xset (ycal (ycons (ycal (ycons (ycal (ycons (yvar rfl) ynil) b0) ynil) b1) ynil) b2) (LV.na h0 h1 hN h3 h4 h5 (JK.val _) (JK.val _) (JK.val _) h10 h11 h12 h14 h15 _) rfl) ?_
    exact xs (xfr (d := .lst (rss.map namD)) (yvar rfl) rfl e) xsk
  · exact ⟨_, _, _, _, _, _, _, _, _, _, _, rfl, h3, h4, h5, JK.val _, JK.val _, JK.val _, JK.val _, j1, j2, j3, j4⟩

/-! the patterns and names are laid -/
theorem joinX_snoc (ws : List (List Nat)) (w : List Nat) : joinX (ws ++ [w]) = joinX ws ++ w ++ [120] := by simp [joinX]
theorem itX_snoc (ws : List Wi) (x : Wi) : itX (ws ++ [x]) = itX ws ++ [x.2, [120]] := by simp [itX]
noncomputable abbrev Tr := Wi × List Nat
noncomputable def trD (x : Tr) : D := .tup [.str x.1.1, .str x.1.2, .str x.2]
theorem last_map {α β : Type} {l : List α} {f : α → β} {x : α} (h : l.getLast? = some x) : (l.map f).getLast? = some (f x) := by
  rw [List.getLast?_map, h]; rfl
theorem wsOk_len {ws : List Wi} (h : WsOk ws) : (joinX (ws.map (·.1))).length ≤ 100 ∧ (itX ws).length ≤ 20 := by
  constructor
  · have := join_len (ws := ws.map (·.1)) (n := 6) fun w hw => by
      obtain ⟨x, hx, rfl⟩ := List.mem_map.mp hw
      exact (okW_at (h.ok hx)).1
    rw [List.length_map] at this
    have := h.1
    lia
  · rw [← seq_items fA, List.length_map, seq_len]
    have := h.1
    lia
theorem build : ∀ (ts : List Tr) (wss : List (List Wi)) (rss : List (List (List Nat))) (ws : List Wi) (rs : List (List Nat)) (sc w it r : CB), JK sc → JK w → JK it → JK r → wss.getLast? = some ws → rss.getLast? = some rs → ws.length + ts.length ≤ 4 → rs.length + ts.length ≤ 4 → wss.length + ts.length ≤ 50 → rss.length + ts.length ≤ 50 →
    (∀ x ∈ ts, x.1 ∈ wL ∧ x.2 ∈ rL) → (∀ v ∈ wss, WsOk v) → (∀ v ∈ rss, RsOk v) →
    ∃ (wss' : List (List Wi)) (rss' : List (List (List Nat))) (w' it' r' : CB), frl Φ3 hZ FU (bindG (.tp [3, 4, 5])) lwA (ts.map trD) (LV sc (.mu (wss.map patD)) (.mu (rss.map namD)) w it r .none .none .none .none .none .none .none .none) =
      some (.next, LV sc (.mu (wss'.map patD)) (.mu (rss'.map namD)) w' it' r' .none .none .none .none .none .none .none .none) ∧ JK w' ∧ JK it' ∧ JK r' ∧ (∀ v ∈ wss', WsOk v) ∧ (∀ v ∈ rss', RsOk v) ∧ rss'.length ≤ 50
  | [], wss, rss, ws, rs, sc, w, it, r, h0, h3, h4, h5, _, _, _, _, _, hn, _, hw, hr => ⟨wss, rss, w, it, r, rfl, h3, h4, h5, hw, hr, by simpa using hn⟩
  | t :: ts, wss, rss, ws, rs, sc, w, it, r, h0, h3, h4, h5, lw, lr, l1, l2, l3, l4, ht, hw, hr => by
    simp only [List.length_cons] at l1 l2 l3 l4
    obtain ⟨t1, t2⟩ := ht t List.mem_cons_self
    have hws : WsOk ws := hw ws (List.mem_of_getLast? lw)
    have hrs : RsOk rs := hr rs (List.mem_of_getLast? lr)
    have hws' : WsOk (ws ++ [t.1]) := ⟨by simp; lia, fun x hx => by
      rcases List.mem_append.mp hx with e | e
      · exact hws.2 x e
      · rw [List.mem_singleton.mp e]; exact t1⟩
    have hrs' : RsOk (rs ++ [t.2]) := ⟨by simp; lia, fun x hx => by
      rcases List.mem_append.mp hx with e | e
      · exact hrs.2 x e
      · rw [List.mem_singleton.mp e]; exact t2⟩
    obtain ⟨wss', rss', w', it', r', e, q1, q2, q3, q4, q5, q6⟩ := build ts (wss ++ [ws ++ [t.1]]) (rss ++ [rs ++ [t.2]]) (ws ++ [t.1]) (rs ++ [t.2]) sc (.val (.str t.1.1)) (.val (.str t.1.2)) (.val (.str t.2)) h0 (JK.val _) (JK.val _) (JK.val _) (by simp) (by simp) (by simp; lia) (by simp; lia) (by simp; lia) (by simp; lia)
      (fun x hx => ht x (List.mem_cons_of_mem _ hx)) (fun v hv => by
        rcases List.mem_append.mp hv with e | e
        · exact hw v e
        · rw [List.mem_singleton.mp e]; exact hws') (fun v hv => by
        rcases List.mem_append.mp hv with e | e
        · exact hr v e
        · rw [List.mem_singleton.mp e]; exact hrs')
    refine ⟨wss', rss', w', it', r', ?_, q1, q2, q3, q4, q5, q6⟩
    have na : ∀ {P N w it r : CB}, JK P → JK N → JK w → JK it → JK r → ∀ x, noApp (LV sc P N w it r .none .none .none .none .none .none .none .none) x = true := fun a1 a2 a3 a4 a5 x => LV.na h0 a1 a2 a3 a4 a5 JK.none JK.none JK.none JK.none JK.none JK.none JK.none JK.none x
    have lens := wsOk_len hws
    have lenr := rs_len hrs
    have lenw : t.1.1.length ≤ 6 := (okW_at (List.all_eq_true.mp okW_all t.1 t1)).1
    have lenn : t.2.length ≤ 3 := (okR_at (List.all_eq_true.mp okR_all t.2 t2)).1
    refine fc (V1 := LV sc (.mu (wss.map patD)) (.mu (rss.map namD)) (.val (.str t.1.1)) (.val (.str t.1.2)) (.val (.str t.2)) .none .none .none .none .none .none .none .none)
      (V' := LV sc (.mu ((wss ++ [ws ++ [t.1]]).map patD)) (.mu ((rss ++ [rs ++ [t.2]]).map namD)) (.val (.str t.1.1)) (.val (.str t.1.2)) (.val (.str t.2)) .none .none .none .none .none .none .none .none) ?_ ?_ e
    · show setsV [3, 4, 5] [.str t.1.1, .str t.1.2, .str t.2] _ = _
      refine setsV_c (V' := LV sc (.mu (wss.map patD)) (.mu (rss.map namD)) (.val (.str t.1.1)) it r .none .none .none .none .none .none .none .none) (na (JK.mu _) (JK.mu _) h3 h4 h5 _) rfl ?_
      refine setsV_c (V' := LV sc (.mu (wss.map patD)) (.mu (rss.map namD)) (.val (.str t.1.1)) (.val (.str t.1.2)) r .none .none .none .none .none .none .none .none) (na (JK.mu _) (JK.mu _) (JK.val _) h4 h5 _) rfl ?_
      refine setsV_c (V' := LV sc (.mu (wss.map patD)) (.mu (rss.map namD)) (.val (.str t.1.1)) (.val (.str t.1.2)) (.val (.str t.2)) .none .none .none .none .none .none .none .none) (na (JK.mu _) (JK.mu _) (JK.val _) (JK.val _) h5 _) rfl ?_
      rfl
    · have i1 : ∀ V, V = LV sc (.mu (wss.map patD)) (.mu (rss.map namD)) (.val (.str t.1.1)) (.val (.str t.1.2)) (.val (.str t.2)) .none .none .none .none .none .none .none .none → ev Φ3 (.midx 1 (.neg (.int 1))) V = some (patD ws) := fun V e => by
        subst e
        exact ymidx (j := -1) rfl rfl (pick_last (last_map lw))
      refine xs (V' := LV sc (.mu ((wss ++ [ws ++ [t.1]]).map patD)) (.mu (rss.map namD)) (.val (.str t.1.1)) (.val (.str t.1.2)) (.val (.str t.2)) .none .none .none .none .none .none .none .none) (xapp (ds := wss.map patD) (d := patD (ws ++ [t.1])) rfl (by simp; lia) ?_ (by simp [LV])) ?_
      · have e1 : patD (ws ++ [t.1]) = .tup [.str (joinX (ws.map (·.1)) ++ t.1.1 ++ [120]), .lst ((itX ws).map .str ++ [.str t.1.2, .str [120]])] := by
          unfold patD
          rw [List.map_append, List.map_cons, List.map_nil, joinX_snoc, itX_snoc, List.map_append]; rfl
        rw [e1]
        refine ytup (ycons (ybin (ybin (yidx (j := 0) (i1 _ rfl) rfl rfl) (yvar rfl) (addS (by lia))) rfl (addS (by simp; lia))) (ycons (ybin (x := .lst ((itX ws).map .str)) (y := .lst [.str t.1.2, .str [120]]) (yidx (j := 1) (i1 _ rfl) rfl rfl) (ylst (ycons (yvar rfl) (ycons rfl ynil)) (by simp)) ?_) ynil)) (by simp)
        have e2 : binD .Add (.lst ((itX ws).map D.str)) (.lst [.str t.1.2, .str [120]]) = if ((itX ws).map D.str).length + [D.str t.1.2, .str [120]].length ≤ 16777216 then some (.lst ((itX ws).map D.str ++ [.str t.1.2, .str [120]])) else none := rfl
        rw [e2, if_pos (by simp; lia)]
      · refine xs (xapp (ds := rss.map namD) (d := namD (rs ++ [t.2])) rfl (by simp; lia) ?_ (by simp [LV])) xsk
        have e1 : namD (rs ++ [t.2]) = .str (joinX rs ++ t.2 ++ [120]) := by unfold namD; rw [joinX_snoc]
        rw [e1]
        exact ybin (ybin (ymidx (j := -1) rfl rfl (pick_last (last_map lr))) (yvar rfl) (addS (by lia))) rfl (addS (by simp; lia))

/-- the law's own text answers True -/
theorem law_run (script : List Int) (hl : script.length ≤ 1000) : run Φ3 hZ c_law n_law [.lst (script.map .int)] = some (ofB true) := by
  -- the pairs
  have pairF : ∀ i : Int, ∃ t : Tr, Φ3 9 [.int (i.fmod 12), .int (i.fdiv 12)] = some (trD t) ∧ t.1 ∈ wL ∧ t.2 ∈ rL := fun i => by
    obtain ⟨w, it, n, e, h1, h2⟩ := pair_run (i.fmod 12) (i.fdiv 12) (Int.fmod_nonneg_of_pos _ (by decide)) (Int.fmod_lt_of_pos _ (by decide))
    exact ⟨((w, it), n), e, h1, h2⟩
  have pairs : ∀ l : List Int, ∃ ts : List Tr, ts.length = l.length ∧ (∀ x ∈ ts, x.1 ∈ wL ∧ x.2 ∈ rL) ∧ ∃ f : D → D, (∀ i ∈ l, Φ3 9 [.int (i.fmod 12), .int (i.fdiv 12)] = some (f (.int i))) ∧ (l.map D.int).map f = ts.map trD := fun l => by
    have hf : ∀ i, Φ3 9 [.int (i.fmod 12), .int (i.fdiv 12)] = some (trD (pairF i).choose) := fun i => (pairF i).choose_spec.1
    refine ⟨l.map fun i => (pairF i).choose, by simp, fun x hx => ?_, fun d => match d with | .int i => trD (pairF i).choose | d => d, fun i _ => hf i, ?_⟩
    · obtain ⟨i, _, rfl⟩ := List.mem_map.mp hx
      exact (pairF i).choose_spec.2
    · simp
  obtain ⟨ts, t1, t2, f, t3, t4⟩ := pairs (script.take 3)
  have tl : ts.length ≤ 3 := by rw [t1, List.length_take]; lia
  have lastT : ((([91, 32, 47, 93], [32, 47]) : Wi) ∈ wL) ∧ [95] ∈ rL := ⟨w_two (by decide) (by decide), r_one (by decide)⟩
  have hall : ∀ x ∈ ts ++ [((([91, 32, 47, 93], [32, 47]) : Wi), [95])], x.1 ∈ wL ∧ x.2 ∈ rL := fun x hx => by
    rcases List.mem_append.mp hx with e | e
    · exact t2 x e
    · rw [List.mem_singleton.mp e]; exact lastT
  have hall' : (ts ++ [((([91, 32, 47, 93], [32, 47]) : Wi), [95])]).length ≤ 4 := by rw [List.length_append]; simp; lia
  obtain ⟨wss, rss, w', it', r', e, q1, q2, q3, q4, q5, q6⟩ := build (ts ++ [((([91, 32, 47, 93], [32, 47]) : Wi), [95])]) [[]] [[]] [] [] (.val (.lst (script.map .int))) .none .none .none (JK.val _) JK.none JK.none JK.none rfl rfl (by simpa using hall') (by simpa using hall') (by simp at hall' ⊢; lia) (by simp at hall' ⊢; lia) hall (fun v hv => by rw [List.mem_singleton.mp hv]; exact ⟨by simp, by simp⟩) (fun v hv => by rw [List.mem_singleton.mp hv]; exact ⟨by simp, by simp⟩)
  obtain ⟨V', e2, hV'⟩ := frl_all (Φ := Φ3) (H := hZ) (F := FU) (bd := bindG (.tp [7, 8])) (a := lwB) (Inv := InvP (.val (.lst (script.map .int))) (.val (.lst (wss.map patD))) rss) (wss.map patD)
    (LV (.val (.lst (script.map .int))) (.val (.lst (wss.map patD))) (.val (.lst (rss.map namD))) w' it' r' .none .none .none .none .none .none .none .none) ⟨_, _, _, _, _, _, _, _, _, _, _, rfl, q1, q2, q3, JK.none, JK.none, JK.none, JK.none, JK.none, JK.none, JK.none, JK.none⟩ fun d hd V hV => by
      obtain ⟨ws, hws, rfl⟩ := List.mem_map.mp hd
      exact pat_step (q4 ws hws) q5 (by lia) (JK.val _) (JK.val _) hV
  refine run_of (V0 := LV (.val (.lst (script.map .int))) .none .none .none .none .none .none .none .none .none .none .none .none .none) (V' := V') rfl ?_
  rw [c_lw]
  have na : ∀ {P N : CB}, JK P → JK N → ∀ x, noApp (LV (.val (.lst (script.map .int))) P N .none .none .none .none .none .none .none .none .none .none .none) x = true := fun a1 a2 x => LV.na (JK.val _) a1 a2 JK.none JK.none JK.none JK.none JK.none JK.none JK.none JK.none JK.none JK.none JK.none x
  refine xs (V' := LV (.val (.lst (script.map .int))) (.mu (([[]] : List (List Wi)).map patD)) .none .none .none .none .none .none .none .none .none .none .none .none) (xnewl (ycons (ytup (ycons rfl (ycons (ylst (ycons rfl ynil) (by simp)) ynil)) (by simp)) ynil) (by simp) (na JK.none JK.none _) rfl) ?_
  refine xs (V' := LV (.val (.lst (script.map .int))) (.mu (([[]] : List (List Wi)).map patD)) (.mu (([[]] : List (List (List Nat))).map namD)) .none .none .none .none .none .none .none .none .none .none .none) (xnewl (ycons rfl ynil) (by simp) (na (JK.mu _) JK.none _) rfl) ?_
  refine xs (xfr (d := .lst ((ts ++ [((([91, 32, 47, 93], [32, 47]) : Wi), [95])]).map trD)) ?_ rfl e) ?_
  · have hs : sliceD (.lst (script.map D.int)) none (some 3) = some (.lst ((script.take 3).map D.int)) := by
      have e : sliceD (.lst (script.map D.int)) none (some 3) = if fit (script.map D.int) = true then some (.lst (cut (script.map D.int) none (some 3))) else none := rfl
      rw [e, if_pos (fit_iff.mpr (by simp; lia))]
      unfold cut
      simp only [Option.elim]
      have : clipAt (script.map D.int).length 3 = min 3 script.length := by
        unfold clipAt
        rw [if_neg (by lia), List.length_map]; lia
      rw [this, List.drop_zero, Nat.sub_zero, ← List.map_take]
      congr 3
      by_cases q : 3 ≤ script.length
      · rw [Nat.min_eq_left q]
      · rw [Nat.min_eq_right (by lia), List.take_of_length_le (Nat.le_refl _), List.take_of_length_le (by lia)]
    have hc := ycomp (Φ := Φ3) (V := LV (.val (.lst (script.map .int))) (.mu (([[]] : List (List Wi)).map patD)) (.mu (([[]] : List (List (List Nat))).map namD)) .none .none .none .none .none .none .none .none .none .none .none) (g := .nm 6) (it := .sl (.var 0) .no (.int 3)) (el := .cal 9 (.cons (.bin .Mod (.var 6) (.int 12)) (.cons (.bin .FloorDiv (.var 6) (.int 12)) .nil)))
      (d := .lst ((script.take 3).map D.int)) (ds := (script.take 3).map D.int) (f := f) (ysl (yvar rfl) rfl rfl hs) rfl (by simp; lia) fun d hd => by
        obtain ⟨i, hi, rfl⟩ := List.mem_map.mp hd
        exact ⟨_, setV_of rfl rfl, ycal (ycons (ybin (yvar rfl) rfl (modI (by decide) (by decide))) (ycons (ybin (yvar rfl) rfl (divI (by decide) (by decide))) ynil)) (t3 i hi)⟩
    rw [t4] at hc
    refine ybin hc (ylst (ycons (ytup3 rfl rfl rfl) ynil) (by simp)) ?_
    have e2 : binD .Add (.lst (ts.map trD)) (.lst [.tup [.str [91, 32, 47, 93], .str [32, 47], .str [95]]]) = if (ts.map trD).length + [D.tup [.str [91, 32, 47, 93], .str [32, 47], .str [95]]].length ≤ 16777216 then some (.lst (ts.map trD ++ [.tup [.str [91, 32, 47, 93], .str [32, 47], .str [95]]])) else none := rfl
    rw [e2, if_pos (by simp; lia), List.map_append]
    rfl
  refine xg (V' := LV (.val (.lst (script.map .int))) (.val (.lst (wss.map patD))) (.mu (rss.map namD)) w' it' r' .none .none .none .none .none .none .none .none) (xfrz rfl (LV.na (JK.val _) (JK.mu _) (JK.mu _) q1 q2 q3 JK.none JK.none JK.none JK.none JK.none JK.none JK.none JK.none _) rfl) ?_
  refine xg (V' := LV (.val (.lst (script.map .int))) (.val (.lst (wss.map patD))) (.val (.lst (rss.map namD))) w' it' r' .none .none .none .none .none .none .none .none) (xfrz rfl (LV.na (JK.val _) (JK.val _) (JK.mu _) q1 q2 q3 JK.none JK.none JK.none JK.none JK.none JK.none JK.none JK.none _) rfl) ?_
  refine xs (xfr (d := .lst (wss.map patD)) (yvar rfl) rfl e2) ?_
  exact xs_ret (xret rfl)
end Mine
end TP21
section TH1
open PySem PySem.W PyProof.Rows PySem.Calls
set_option maxRecDepth 100000
namespace Mine

/-! how the program lies in the heap behind the top -/
noncomputable def bD (x : Str) : List Stmt := match defAt x with | some (b, _) => b | none => []
noncomputable def scD (x : Str) : Scope := match defAt x with | some (_, sc) => sc | none => default
theorem defAt_D {x : Str} (h : (defAt x).isSome = true) : defAt x = some (bD x, scD x) := by
  unfold bD scD
  cases q : defAt x with
  | none => rw [q] at h; cases h
  | some y => rfl
noncomputable def oSome {α : Type} (o : Option α) (k : α → Bool) : Bool := o.elim false k
theorem oSome_e {α : Type} {o : Option α} {k : α → Bool} {P : Option α → Prop} (h : oSome o k = true) (hp : ∀ x, k x = true → P (some x)) : P o := by
  cases o with
  | none => exact Bool.noConfusion h
  | some x => exact hp x h
noncomputable def datVs : Data → Option (Array Value)
  | .fields vs => some vs
  | _ => none
theorem datVs_i {d : Data} {vs : Array Value} (h : datVs d = some vs) : d = .fields vs := by
  cases d <;> first | exact congrArg Data.fields (Option.some.inj h) | exact no_some h
noncomputable def datF : Data → FuncData
  | .func fd => fd
  | _ => default
noncomputable def datIsF : Data → Bool
  | .func _ => true
  | _ => false
theorem datF_i {d : Data} (h : datIsF d = true) : d = .func (datF d) := by
  cases d <;> first | rfl | exact Bool.noConfusion h
noncomputable def valS : Value → Option Str
  | .str q _ => some q
  | _ => none
theorem valS_i {v : Value} {q : Str} (h : valS v = some q) : ∃ t, v = .str q t := by
  cases v <;> first | exact no_some h | exact ⟨_, congrArg (Value.str · _) (Option.some.inj h)⟩
noncomputable def valI : Value → Option Int
  | .int q _ => some q
  | _ => none
theorem valI_i {v : Value} {q : Int} (h : valI v = some q) : ∃ t, v = .int q t := by
  cases v <;> first | exact no_some h | exact ⟨_, congrArg (Value.int · _) (Option.some.inj h)⟩
noncomputable def fdAt (K : Frag) (a : Addr) : FuncData := (K.lookup a).elim default fun o => datF o.data
noncomputable def isFn (K : Frag) (a : Addr) : Bool := oSome (K.lookup a) fun o => datIsF o.data
theorem isFn_at {K : Frag} {a : Addr} (h : isFn K a = true) : ∃ o, K.lookup a = some o ∧ o.data = .func (fdAt K a) := by
  unfold fdAt
  exact oSome_e (P := fun l => ∃ o, l = some o ∧ o.data = .func (l.elim default fun o => datF o.data)) h fun o q => ⟨o, rfl, datF_i q⟩
noncomputable def codeName (K : Frag) (c : Addr) : Option Str := (K.lookup c).bind fun o => (datVs o.data).bind fun vs => (vs[1]? : Option Value).bind valS
theorem codeName_at {K : Frag} {c : Addr} {q : Str} (h : codeName K c = some q) : ∃ o vs t, K.lookup c = some o ∧ o.data = .fields vs ∧ vs[1]? = some (.str q t) := by
  apply bs_e h; clear h; intro o e h
  apply bs_e h; clear h; intro vs e2 h
  apply bs_e h; clear h; intro v e3 h
  obtain ⟨t, ht⟩ := valS_i h
  exact ⟨o, vs, t, e, datVs_i e2, ht ▸ e3⟩
/-- the two growing tables -/
noncomputable def tabT : List Addr := [64, 33]
structure FnOk (K : Frag) (x : Str) (a ca : Addr) : Prop where
  isF : isFn K a = true
  body : (fdAt K a).body = .stmts (bD x)
  scope : (fdAt K a).scope = scD x
  clo : (fdAt K a).closure = []
  gl : (fdAt K a).globals = mainGlobals
  bi : (fdAt K a).builtins = builtinsNs
  code : (fdAt K a).code = .ref ca
  cname : codeName K ca = some (fdAt K a).qualname
  mgn : nsIn K mainGlobals x = some (some (.ref a))
noncomputable def scOk (x : Str) (ps : List Str) : Bool :=
  (defAt x).isSome && !(scD x).isCoroutine && !(scD x).isGenerator && decide ((scD x).kind = .function) && decide (((scD x).names.map (·.1)).Nodup) && (scD x).names.all (fun p => p.2 != .free) && decide ps.Nodup &&
    ps.all fun y => (scD x).names.contains (y, NameKind.local) || (scD x).names.contains (y, NameKind.cell)
theorem sc4 : scOk "escape" ["pattern"] = true := by decide +kernel
theorem sc0 : scOk "_platform" ["args"] = true := by decide +kernel
theorem sc1 : scOk "translate" ["pat"] = true := by decide +kernel
theorem sc2 : scOk "_translate" ["pat", "STAR", "QUESTION_MARK"] = true := by decide +kernel
theorem sc3 : scOk "_join_translated_parts" ["inp", "STAR"] = true := by decide +kernel
theorem sc5 : scOk "_law_unit" ["text", "k"] = true := by decide +kernel
theorem sc6 : scOk "_law_tokens" ["text"] = true := by decide +kernel
theorem sc7 : scOk "_law_fits" ["units", "name", "place"] = true := by decide +kernel
theorem sc8 : scOk "_law_takes" ["tokens", "name"] = true := by decide +kernel
theorem sc9 : scOk "_law_pair" ["kind", "rest"] = true := by decide +kernel
theorem sc10 : scOk "_law_alike" ["sign"] = true := by decide +kernel
theorem sc11 : scOk "_law_meets" ["items", "alike"] = true := by decide +kernel
theorem scL : scOk "law" ["script"] = true := by decide +kernel

section
variable {C : Cx} {K : Frag} (X : K.In C.hb) (hT : C.T = tabT)
include X hT
theorem def_at {G : C.hb.Ns mainGlobals C.mg} {x : Str} {a ca : Addr} {ps : List Str} (f : FnOk K x a ca) (s : scOk x ps = true) (ha : a ∉ tabT) (hca : ca ∉ tabT) :
    C.mg x = some (.ref a) ∧ DefAt C a (fdAt K a) (bD x) ∧ defAt x = some (bD x, scD x) ∧ (fdAt K a).scope.names = (scD x).names ∧ ps.Nodup ∧ ∀ y ∈ ps, (y, NameKind.local) ∈ (scD x).names ∨ (y, NameKind.cell) ∈ (scD x).names := by
  unfold scOk at s
  simp only [Bool.and_eq_true, Bool.not_eq_true', decide_eq_true_eq] at s
  obtain ⟨⟨⟨⟨⟨⟨⟨s1, s2⟩, s3⟩, s4⟩, s5⟩, s6⟩, s7⟩, s8⟩ := s
  obtain ⟨o, ho, hd⟩ := isFn_at f.isF
  obtain ⟨oc, vs, t, hoc, hdc, h1⟩ := codeName_at f.cname
  refine ⟨mg_of X G f.mgn, ⟨⟨o, X _ _ ho, hd⟩, by rw [hT]; exact ha, fun s hs => ⟨ca, oc, vs, t, f.code, hs.keep _ _ (X _ _ hoc) (by rw [hT]; exact hca), hdc, h1⟩, f.body, f.clo, by rw [f.scope]; exact s2, by rw [f.scope]; exact s3, by rw [f.scope]; exact s4, f.gl, f.bi, by rw [f.scope]; exact s5, fun y hy => ?_⟩, defAt_D s1, by rw [f.scope], s7, fun y hy => ?_⟩
  · rw [f.scope] at hy
    have := List.all_eq_true.mp s6 _ hy
    simp at this
  · have := List.all_eq_true.mp s8 y hy
    rw [Bool.or_eq_true] at this
    rcases this with h | h
    · exact .inl (by simpa using h)
    · exact .inr (by simpa using h)
theorem def_in {G : C.hb.Ns mainGlobals C.mg} {x : Str} {a ca : Addr} {ps : List Str} (f : FnOk K x a ca) (s : scOk x ps = true) (ha : a ∉ tabT) (hca : ca ∉ tabT) (hb : ∀ vs, vs.length = ps.length → bindArgs (fdAt K a) ⟨vs, []⟩ = pure (ps.zip vs)) :
    DefIn C x a (fdAt K a) (bD x) (scD x) ps := by
  obtain ⟨h1, h2, h3, h4, h5, h6⟩ := def_at (G := G) X hT f s ha hca
  exact ⟨h1, h2, h3, h4, hb, h5, h6⟩
end

/-! the escape map -/
noncomputable def keyI (e : DictEntry) : Option Int := valI e.key
noncomputable def kvsOf (es : List DictEntry) : List (Int × Value) := es.filterMap fun e => (keyI e).map fun k => (k, e.val)
noncomputable def mapOk (es : List DictEntry) : Bool := es.all (fun e => oSome (keyI e) fun k => e.hash == hashInt k) && decide (((kvsOf es).map (·.1)).Nodup) &&
  (List.range 128).all fun c => (valueAt (kvsOf es) (c : Int)).elim (!special.contains c) fun v => oSome (valS v) fun s => special.contains c && s.cps.toList == [92, c]
theorem key_is {prog : Program} {w : World} {e : DictEntry} {k : Int} (h : keyI e = some k) : (intKind prog w).is k e.key = true := by
  obtain ⟨t, ht⟩ := valI_i h
  rw [ht]
  exact beq_self_eq_true k
theorem pairs_of {prog : Program} {w : World} {es : List DictEntry} (h : ∀ e ∈ es, ∃ k, keyI e = some k) : Pairs (intKind prog w) es (kvsOf es) := by
  induction es with
  | nil => exact .nil
  | cons e r ih =>
    obtain ⟨k, hk⟩ := h e List.mem_cons_self
    rw [show kvsOf (e :: r) = (k, e.val) :: kvsOf r from List.filterMap_cons_some (mq hk)]
    exact .cons (key_is hk) rfl (ih fun x hx => h x (List.mem_cons_of_mem _ hx))
theorem escTab_of {C : Cx} {K : Frag} (X : K.In C.hb) (hT : C.T = tabT) {d : Addr} {o : Obj} {es : Array DictEntry} {ep : Nat} (hl : K.lookup d = some o) (hx : o.ExactDict) (hd : o.data = .dict es ep) (hm : mapOk es.toList = true) (h1 : d ∉ tabT) (h2 : (d == sysModules) = false) : EscTab C d := by
  have m := and_i (and_i hm).1
  have m3 := (and_i hm).2
  have hk : ∀ e ∈ es.toList, ∃ k, keyI e = some k ∧ e.hash = hashInt k := fun e he =>
    oSome_e (P := fun o => ∃ k, o = some k ∧ e.hash = hashInt k) (List.all_eq_true.mp m.1 e he) fun k q => ⟨k, rfl, beq_iff_eq.mp q⟩
  refine ⟨by rw [hT]; exact h1, h2, kvsOf es.toList, ⟨o, es, ep, X _ _ hl, hx, hd, fun e he => ?_, pairs_of fun e he => let ⟨k, q, _⟩ := hk e he; ⟨k, q⟩, bx m.2⟩, fun c hc => ?_⟩
  · obtain ⟨k, q1, q2⟩ := hk e (Array.mem_toList_iff.mpr he)
    exact ⟨k, key_is q1, q2⟩
  · have z := List.all_eq_true.mp m3 c (List.mem_range.mpr hc)
    clear m m3 hk
    cases q : valueAt (kvsOf es.toList) (c : Int) with
    | none =>
      rw [q] at z
      exact ⟨fun hs => Bool.noConfusion ((congrArg (!·) hs).symm.trans z), fun _ => rfl⟩
    | some v =>
      rw [q] at z
      have z : oSome (valS v) _ = true := z
      revert z
      cases q2 : valS v with
      | none => exact fun z => Bool.noConfusion z
      | some s =>
        intro z
        obtain ⟨t, rfl⟩ := valS_i q2
        have z2 := and_i z
        refine ⟨fun _ => ⟨t, ?_⟩, fun hn => Bool.noConfusion (hn.symm.trans z2.1)⟩
        rw [← beq_iff_eq.mp z2.2]

/-! the tables that grow -/
noncomputable def TIo : PH → Heap → Prop := fun _ h => ∀ P ∈ tabT, ∃ more, h.get? P = some { cls := .none, data := .fields more } ∧ TriplesOk more.toList
theorem codeTab_of {C : Cx} {c P : Addr} (hT : C.T = tabT) (hTI : C.TI = TIo) (hP : P ∈ tabT) (hc : c ∉ tabT) (h1 : C.hb.IsCode c P #[]) (h2 : C.hb.TableAt c P #[]) : CodeTab C c P := by
  obtain ⟨o, vs, file, tf, flags, tg, inF, text, tt, op, ho, r1, r2, r3, r4, r5, r6, hop, r7, r8, r9⟩ := h1
  obtain ⟨⟨o2, vs2, ho2, q1, q2, q3⟩, _⟩ := h2
  refine ⟨by rw [hT]; exact hP, fun G h ti keep => ?_, fun G h h' ps more ti ht hc' ht' hk => ?_⟩
  · rw [hTI] at ti
    obtain ⟨m, e1, e2⟩ := ti P hP
    have k1 := keep c o ho (by rw [hT]; exact hc)
    have k2 := keep c o2 ho2 (by rw [hT]; exact hc)
    exact ⟨m, ⟨o, vs, file, tf, flags, tg, inF, text, tt, _, k1, r1, r2, r3, r4, r5, r6, e1, rfl, e2, r9⟩, ⟨o2, vs2, k2, q1, q2, q3⟩, e1⟩
  · rw [hTI] at ti ⊢
    intro Q hQ
    by_cases q : Q = P
    · subst q
      obtain ⟨_, _, _, _, _, _, _, _, _, op', _, _, _, _, _, _, _, g1, g2, g3, _⟩ := hc'
      exact ⟨ps ++ more, ht'.2, g3⟩
    · obtain ⟨m, e1, e2⟩ := ti Q hQ
      exact ⟨m, by rw [hk Q (by rw [hT]; exact hQ) q]; exact e1, e2⟩
end Mine
end TH1
section TH2
open PySem PySem.W PyProof.Rows PySem.Calls
set_option maxRecDepth 100000
namespace Mine

noncomputable def isStrV (v : Value) : Bool := (valS v).isSome
noncomputable def isIntV (v : Value) : Bool := (valI v).isSome
noncomputable def isBoolV (v : Value) : Bool := (vB v).isSome
theorem isStrV_i {v : Value} (h : isStrV v = true) : ∃ s t, v = .str s t := let ⟨s, e⟩ := Option.isSome_iff_exists.mp h; ⟨s, valS_i e⟩
theorem isIntV_i {v : Value} (h : isIntV v = true) : ∃ s t, v = .int s t := let ⟨s, e⟩ := Option.isSome_iff_exists.mp h; ⟨s, valI_i e⟩
theorem isBoolV_i {v : Value} (h : isBoolV v = true) : ∃ b, v = .bool b := let ⟨b, e⟩ := Option.isSome_iff_exists.mp h; ⟨b, vB_some e⟩
noncomputable def dSeq : Data → Option (Array Value)
  | .seq vs _ => some vs
  | _ => none
theorem dSeq_i {d : Data} {vs : Array Value} (h : dSeq d = some vs) : ∃ n, d = .seq vs n := by
  cases d <;> first | exact no_some h | exact ⟨_, congrArg (Data.seq · _) (Option.some.inj h)⟩
noncomputable def dDict : Data → Option (Array DictEntry)
  | .dict vs _ => some vs
  | _ => none
theorem dDict_i {d : Data} {vs : Array DictEntry} (h : dDict d = some vs) : ∃ n, d = .dict vs n := by
  cases d <;> first | exact no_some h | exact ⟨_, congrArg (Data.dict · _) (Option.some.inj h)⟩
theorem oSome_x {α : Type} {o : Option α} {k : α → Bool} (h : oSome o k = true) : ∃ x, o = some x ∧ k x = true := oSome_e (P := fun o => ∃ x, o = some x ∧ k x = true) h fun x q => ⟨x, rfl, q⟩
/-- a code record, its table, and that the table is empty -/
noncomputable def codeOk (vs : Array Value) (P : Addr) : Bool := decide ((vs[11]? : Option Value) = some (.ref P)) && (decide (vs.getD 11 .none = .ref P) && (isStrV (vs.getD 18 .none) && (isIntV (vs.getD 7 .none) && (isBoolV (vs.getD 9 .none) && isIntV (vs.getD 10 .none)))))
noncomputable def emptyTab (o : Obj) : Bool := decide (o.cls = .none) && (decide (o.dict = none) && (o.slots.isEmpty && oSome (datVs o.data) (·.isEmpty)))
theorem emptyTab_i {o : Obj} (h : emptyTab o = true) : o = { cls := .none, data := .fields #[] } := by
  obtain ⟨c, d, da, sl⟩ := o
  have h1 := and_i h
  have h2 := and_i h1.2
  have h3 := and_i h2.2
  obtain ⟨ws, e, q⟩ := oSome_x h3.2
  rw [show c = .none from bx h1.1, show d = none from bx h2.1, show sl = #[] from Array.isEmpty_iff.mp h3.1, show da = .fields ws from datVs_i e, Array.isEmpty_iff.mp q]
noncomputable def tblOk (K : Frag) (c P : Addr) : Bool := oSome (K.lookup c) fun o => oSome (datVs o.data) fun vs => oSome (K.lookup P) fun op => decide (o.cls = .type "code") && (codeOk vs P && emptyTab op)
theorem tblOk_at {K : Frag} {h : Heap} (X : K.In h) {c P : Addr} (ht : tblOk K c P = true) (hne : c ≠ P) : h.IsCode c P #[] ∧ h.TableAt c P #[] := by
  obtain ⟨o, e1, ht⟩ := oSome_x ht
  obtain ⟨vs, e2, ht⟩ := oSome_x ht
  obtain ⟨op, e3, ht⟩ := oSome_x ht
  have h1 := and_i ht
  have h2 := and_i h1.2
  rw [emptyTab_i h2.2] at e3
  have g1 := and_i h2.1
  have g2 := and_i g1.2
  have g3 := and_i g2.2
  have g4 := and_i g3.2
  have g5 := and_i g4.2
  obtain ⟨file, tf, q3⟩ := isStrV_i g3.1
  obtain ⟨flags, tg, q4⟩ := isIntV_i g4.1
  obtain ⟨inF, q5⟩ := isBoolV_i g5.1
  obtain ⟨text, tt, q6⟩ := isIntV_i g5.2
  exact ⟨⟨o, vs, file, tf, flags, tg, inF, text, tt, _, X _ _ e1, datVs_i e2, bx g2.1, q3, q4, q5, q6, X _ _ e3, rfl, trivial, hne⟩, ⟨o, vs, X _ _ e1, bx h1.1, datVs_i e2, bx g1.1⟩, X _ _ e3⟩
noncomputable def bind1 (K : Frag) (a : Addr) (p : Str) : Prop := ∀ v, bindArgs (fdAt K a) ⟨[v], []⟩ = pure [(p, v)]
noncomputable def bind2 (K : Frag) (a : Addr) (p q : Str) : Prop := ∀ v w, bindArgs (fdAt K a) ⟨[v, w], []⟩ = pure [(p, v), (q, w)]
noncomputable def bind3 (K : Frag) (a : Addr) (p q r : Str) : Prop := ∀ v w x, bindArgs (fdAt K a) ⟨[v, w, x], []⟩ = pure [(p, v), (q, w), (r, x)]
theorem bind1_all {K : Frag} {a : Addr} {p : Str} (h : bind1 K a p) : ∀ vs, vs.length = [p].length → bindArgs (fdAt K a) ⟨vs, []⟩ = pure ([p].zip vs) := fun vs hv => by
  obtain ⟨v, rfl⟩ := List.length_eq_one_iff.mp hv
  exact h v
theorem bind2_all {K : Frag} {a : Addr} {p q : Str} (h : bind2 K a p q) : ∀ vs, vs.length = [p, q].length → bindArgs (fdAt K a) ⟨vs, []⟩ = pure ([p, q].zip vs) := fun vs hv => by
  obtain _ | ⟨v, r⟩ := vs
  · cases hv
  obtain ⟨w, rfl⟩ := List.length_eq_one_iff.mp (Nat.succ.inj hv)
  exact h v w
theorem bind3_all {K : Frag} {a : Addr} {p q r : Str} (h : bind3 K a p q r) : ∀ vs, vs.length = [p, q, r].length → bindArgs (fdAt K a) ⟨vs, []⟩ = pure ([p, q, r].zip vs) := fun vs hv => by
  obtain _ | ⟨v, _ | ⟨w, r⟩⟩ := vs
  · cases hv
  · cases hv
  obtain ⟨x, rfl⟩ := List.length_eq_one_iff.mp (Nat.succ.inj (Nat.succ.inj hv))
  exact h v w x
noncomputable def patOk (K : Frag) (pa ca : Addr) : Bool := oSome (K.lookup pa) fun o => oSome (datVs o.data) fun fs => oSome (K.lookup ca) fun o2 => oSome (dSeq o2.data) fun items =>
  decide (o.cls = .type "re.Pattern") && (decide (o.dict = none) && (Builtin.Re.reRawNat (fs.getD 2 .none) == 1 && (decide (fs.getD 5 .none = .ref ca) && (Builtin.Re.reRawNat (fs.getD 6 .none) == 0 && (items.map Builtin.Re.reRawOf).map (·.toNat) == subCode))))
theorem patOk_at {K : Frag} {h : Heap} (X : K.In h) {pa ca : Addr} (hp : patOk K pa ca = true) : IsPat h pa ca := by
  obtain ⟨o, e1, hp⟩ := oSome_x hp
  obtain ⟨fs, e2, hp⟩ := oSome_x hp
  obtain ⟨o2, e3, hp⟩ := oSome_x hp
  obtain ⟨items, e4, hp⟩ := oSome_x hp
  obtain ⟨n, e4⟩ := dSeq_i e4
  have h1 := and_i hp
  have h2 := and_i h1.2
  have h3 := and_i h2.2
  have h4 := and_i h3.2
  have h5 := and_i h4.2
  exact ⟨⟨o, fs, X _ _ e1, bx h1.1, bx h2.1, datVs_i e2, beq_iff_eq.mp h3.1, bx h4.1, beq_iff_eq.mp h5.1⟩, ⟨o2, items, n, X _ _ e3, e4, beq_iff_eq.mp h5.2⟩⟩
noncomputable def mapAt (K : Frag) (d : Addr) : Bool := oSome (K.lookup d) fun o => oSome (dDict o.data) fun es => decide (o.cls = .type "dict") && (decide (o.dict = none) && (o.slots.isEmpty && mapOk es.toList))
theorem mapAt_at {C : Cx} {K : Frag} (X : K.In C.hb) (hT : C.T = tabT) {d : Addr} (hm : mapAt K d = true) (h1 : d ∉ tabT) (h2 : (d == sysModules) = false) : EscTab C d := by
  obtain ⟨o, e1, hm⟩ := oSome_x hm
  obtain ⟨es, e2, hm⟩ := oSome_x hm
  obtain ⟨n, e2⟩ := dDict_i e2
  have g1 := and_i hm
  have g2 := and_i g1.2
  have g3 := and_i g2.2
  exact escTab_of X hT e1 ⟨bx g1.1, bx g2.1, Array.isEmpty_iff.mp g3.1⟩ e2 g3.2 h1 h2

/-- what is to be seen of the heap -/
structure KOk (K : Frag) : Prop where
  f0 : FnOk K "_platform" 38 37
  b0 : ∀ v, bindArgs (fdAt K 38) ⟨[v], []⟩ = (newTuple [v] >>= fun t => pure [(Str.ofString "args", t)])
  f1 : FnOk K "translate" 50 49
  b1 : bind1 K 50 "pat"
  f2 : FnOk K "_translate" 69 68
  b2 : bind3 K 69 "pat" "STAR" "QUESTION_MARK"
  f3 : FnOk K "_join_translated_parts" 76 75
  b3 : bind2 K 76 "inp" "STAR"
  f4 : FnOk K "escape" 62 61
  b4 : bind1 K 62 "pattern"
  f5 : FnOk K "_law_unit" 83 82
  b5 : bind2 K 83 "text" "k"
  f6 : FnOk K "_law_tokens" 90 89
  b6 : bind1 K 90 "text"
  f7 : FnOk K "_law_fits" 95 94
  b7 : bind3 K 95 "units" "name" "place"
  f8 : FnOk K "_law_takes" 100 99
  b8 : bind2 K 100 "tokens" "name"
  f9 : FnOk K "_law_pair" 107 106
  b9 : bind2 K 107 "kind" "rest"
  f10 : FnOk K "_law_alike" 114 113
  b10 : bind1 K 114 "sign"
  f11 : FnOk K "_law_meets" 119 118
  b11 : bind2 K 119 "items" "alike"
  fL : FnOk K "law" 124 123
  bL : bind1 K 124 "script"
  nlen : nsIn K mainGlobals "len" = some none
  nany : nsIn K mainGlobals "any" = some none
  nlist : nsIn K mainGlobals "list" = some none
  nrange : nsIn K mainGlobals "range" = some none
  nenum : nsIn K mainGlobals "enumerate" = some none
  nfil : nsIn K mainGlobals "filter" = some none
  nobj : nsIn K mainGlobals "object" = some none
  nisi : nsIn K mainGlobals "isinstance" = some none
  nstr : nsIn K mainGlobals "str" = some none
  nmap : nsIn K mainGlobals "_special_chars_map" = some (some (.ref 52))
  nsub : nsIn K mainGlobals "_twin_re_1" = some (some (.ref 43))
  nbui : nsIn K mainGlobals "__builtins__" = some (some (.ref 4))
  map : mapAt K 52 = true
  pat : patOk K 43 42 = true
  t0 : tblOk K 37 33 = true
  t2 : tblOk K 68 64 = true

theorem bb_len : bootBuiltins "len" = some (.builtin "len") := by kernel_rfl
theorem bb_any : bootBuiltins "any" = some (.builtin "any") := by kernel_rfl
theorem bb_list : bootBuiltins "list" = some (.type "list") := by kernel_rfl
theorem bb_range : bootBuiltins "range" = some (.type "range") := by kernel_rfl
theorem bb_enum : bootBuiltins "enumerate" = some (.type "enumerate") := by kernel_rfl
theorem bb_fil : bootBuiltins "filter" = some (.type "filter") := by kernel_rfl
theorem bb_obj : bootBuiltins "object" = some (.type "object") := by kernel_rfl
theorem bb_isi : bootBuiltins "isinstance" = some (.builtin "isinstance") := by kernel_rfl
theorem bb_str : bootBuiltins "str" = some (.type "str") := by kernel_rfl

section
variable {prog : Program} {w : World} {K : Frag} {s1 : Shared} {p : Program} {loose : List Str} {mean : ExcName → Option Value} {mg mb : Str → Option Value}
noncomputable def cxOf (prog : Program) (w : World) (s1 : Shared) (mg mb : Str → Option Value) : Cx := { prog := prog, w := w, hb := s1.heap, T := tabT, mg := mg, mb := mb, os := s1.os, TI := TIo }
theorem cx_ok (T : Top p loose mean mg mb s1.heap) : (cxOf prog w s1 mg mb).Ok where
  g := T.g
  b := T.b
  lim := T.nolimit
  gT := by show mainGlobals ∉ tabT; decide
  bT := by show builtinsNs ∉ tabT; decide
  sT := by show cStatics ∉ tabT; decide
  ti := fun G G' h h' ti _ hk => fun P hP => by
    obtain ⟨m, e1, e2⟩ := ti P hP
    exact ⟨m, by rw [hk P hP]; exact e1, e2⟩
  tt := fun G h ti a ha => by
    obtain ⟨m, e1, _⟩ := ti a ha
    exact ⟨_, e1⟩
theorem lay_ok (X : K.In s1.heap) (T : Top p loose mean mg mb s1.heap) (k : KOk K) : Lay (cxOf prog w s1 mg mb) := by
  have hT : (cxOf prog w s1 mg mb).T = tabT := rfl
  have hg : (cxOf prog w s1 mg mb).hb.Ns mainGlobals (cxOf prog w s1 mg mb).mg := T.g
  have hb : ∀ {x : Str} {v : Value}, nsIn K mainGlobals x = some none → bootBuiltins x = some v → (x ≠ "__name__") → mg x = none ∧ mb x = some v := fun {x v} h1 h2 h3 => ⟨mg_none_of X T.g h1, (T.builtins x h3).trans h2⟩
  have tb0 := tblOk_at X k.t0 (by decide)
  have tb2 := tblOk_at X k.t2 (by decide)
  have fn : ∀ {x : Str} {a ca : Addr} {ps : List Str}, FnOk K x a ca → scOk x ps = true → a ∉ tabT → ca ∉ tabT → (∀ vs, vs.length = ps.length → bindArgs (fdAt K a) ⟨vs, []⟩ = pure (ps.zip vs)) → DefIn (cxOf prog w s1 mg mb) x a (fdAt K a) (bD x) (scD x) ps := fun f s h1 h2 h3 => def_in (G := hg) X hT f s h1 h2 h3
  refine ⟨hb k.nlen bb_len (by decide +kernel), hb k.nany bb_any (by decide +kernel), hb k.nlist bb_list (by decide +kernel), hb k.nrange bb_range (by decide +kernel), hb k.nenum bb_enum (by decide +kernel), hb k.nfil bb_fil (by decide +kernel), hb k.nobj bb_obj (by decide +kernel), ?_,
    ⟨52, hb k.nisi bb_isi (by decide +kernel), hb k.nstr bb_str (by decide +kernel), mg_of X T.g k.nmap, mapAt_at X hT k.map (by decide) (by decide)⟩, ⟨43, 42, mg_of X T.g k.nsub, patOk_at X k.pat, by show (43 : Addr) ∉ tabT; decide, by show (42 : Addr) ∉ tabT; decide⟩,
    ?_, ⟨_, _, _, _, fn k.f1 sc1 (by decide) (by decide) (bind1_all k.b1)⟩, ⟨_, _, _, _, fn k.f2 sc2 (by decide) (by decide) (bind3_all k.b2), 68, 64, k.f2.code, codeTab_of hT rfl (by decide) (by decide) tb2.1 tb2.2⟩,
    ⟨_, _, _, _, fn k.f3 sc3 (by decide) (by decide) (bind2_all k.b3)⟩, ⟨_, _, _, _, fn k.f4 sc4 (by decide) (by decide) (bind1_all k.b4)⟩, ⟨_, _, _, _, fn k.f5 sc5 (by decide) (by decide) (bind2_all k.b5)⟩, ⟨_, _, _, _, fn k.f6 sc6 (by decide) (by decide) (bind1_all k.b6)⟩,
    ⟨_, _, _, _, fn k.f7 sc7 (by decide) (by decide) (bind3_all k.b7)⟩, ⟨_, _, _, _, fn k.f8 sc8 (by decide) (by decide) (bind2_all k.b8)⟩, ⟨_, _, _, _, fn k.f9 sc9 (by decide) (by decide) (bind2_all k.b9)⟩, ⟨_, _, _, _, fn k.f10 sc10 (by decide) (by decide) (bind1_all k.b10)⟩, ⟨_, _, _, _, fn k.f11 sc11 (by decide) (by decide) (bind2_all k.b11)⟩⟩
  · obtain ⟨bm, ob, h1, h2, h3, h4, h5, h6⟩ := T.bmain
    have e := mg_of X T.g k.nbui
    rw [h1] at e
    cases e
    exact ⟨4, ob, h1, h2, h3, by show (4 : Addr) ∉ tabT; decide, h4, h5, h6⟩
  · obtain ⟨h1, h2, h3, h4, h5, h6⟩ := def_at (C := cxOf prog w s1 mg mb) (G := hg) X hT k.f0 sc0 (by decide) (by decide)
    exact ⟨38, _, _, _, ⟨h1, h2, h3, h4, k.b0, h6 _ (List.mem_singleton.mpr rfl)⟩, 37, 33, k.f0.code, codeTab_of hT rfl (by decide) (by decide) tb0.1 tb0.2⟩
theorem ints_rl {G : PH} {σ : Addr} : ∀ {vs : List Value} {l : List Int}, IntsAre vs l → RL G σ (l.map .int) vs
  | _, _, .nil => .nil
  | _, _, .cons n t h => .cons (.int n t) (ints_rl h)
/-- the law's call, behind the top -/
theorem law_ends (X : K.In s1.heap) (T : Top p loose mean mg mb s1.heap) (k : KOk K) (hgens : s1.gens = #[]) (htk : 0 < s1.toks) {a : Addr} {vs : List Value} {l : List Int} (hl : s1.heap.IsList a vs.toArray) (hi : IntsAre vs l) (hlen : l.length ≤ 1000) (ha : a ∉ tabT)
    {Q : Value → Shared → Prop} {E : Value → Shared → Prop} (h : ∀ s', OldK s1.heap s'.heap → s'.os = s1.os → AllBare s'.gens → Q (.bool true) s') : wpAny (model prog w) callerA (call (.ref 124) [.ref a]) Q E s1 := by
  have ok := cx_ok (prog := prog) (w := w) T
  have L := lay_ok (prog := prog) (w := w) X T k
  have tb0 := tblOk_at X k.t0 (by decide)
  have tb2 := tblOk_at X k.t2 (by decide)
  have hT0 : TIo (fun b => if b = a then s1.heap.get? a else none) s1.heap := fun P hP => by
    simp only [tabT, List.mem_cons, List.not_mem_nil, or_false] at hP
    rcases hP with rfl | rfl
    · exact ⟨#[], tb2.2.2, trivial⟩
    · exact ⟨#[], tb0.2.2, trivial⟩
  have hgo : Go (cxOf prog w s1 mg mb) (fun b => if b = a then s1.heap.get? a else none) s1 := by
    refine ⟨⟨fun b o e _ => e, .of_eq hgens, rfl, htk⟩, hT0, fun b o e => ?_, fun b hb => ?_⟩
    · have e : (if b = a then s1.heap.get? a else none) = some o := e
      split at e
      · rename_i q; rw [q]; exact e
      · cases e
    · show (if b = a then s1.heap.get? a else none) = none
      rw [if_neg]
      intro q
      exact ha (q ▸ hb)
  obtain ⟨o, ho, hc, n, hd⟩ := hl
  have hd' := def_in (C := cxOf prog w s1 mg mb) (G := T.g) X rfl k.fL scL (by decide) (by decide) (bind1_all k.bL)
  have hrun := law_run l hlen
  have rl : RL (fun b => if b = a then s1.heap.get? a else none) 0 [.lst (l.map .int)] [.ref a] := .cons (.lst (o := o) (n := n) (vs := vs) (by simpa using ho) hc hd (ints_rl hi)) .nil
  have hA : OkA 5 callerA := ⟨rfl, by decide +kernel, by decide +kernel⟩
  refine law_call ok L hd' hA rfl hrun hgo rl Q E fun v s' G' S r => ?_
  cases r
  refine h s' ⟨fun b o e => ?_, fun b o e => ?_⟩ S.go.sok.os S.go.sok.gens
  · by_cases q : b ∈ tabT
    · obtain ⟨m, e1, _⟩ := S.go.ti b q
      have hb : isCodeTable s1.heap b ∧ o = { cls := .none, data := .fields #[] } := by
        simp only [tabT, List.mem_cons, List.not_mem_nil, or_false] at q
        rcases q with rfl | rfl
        · exact ⟨tb2.2.isCodeTable, Option.some.inj (e.symm.trans tb2.2.2)⟩
        · exact ⟨tb0.2.isCodeTable, Option.some.inj (e.symm.trans tb0.2.2)⟩
      obtain ⟨hb1, rfl⟩ := hb
      exact .inr (.inl ⟨hb1, rfl, #[], m, rfl, by simpa using e1⟩)
    · exact .inl (S.keep b o e q)
  · by_cases q : b ∈ tabT
    · obtain ⟨m, e1, _⟩ := S.go.ti b q
      exact ⟨_, e1⟩
    · exact ⟨o, S.keep b o e q⟩
end
end Mine
end TH2
section TH3
open PySem PySem.W PyProof.Rows PySem.Calls
set_option maxRecDepth 100000
namespace Mine

/-! the head: what the top leaves, seen by one look at the heap behind it -/
noncomputable def headView : Program := view PySem.Challenge.pw_nq0086_01 [0, 2, 4, 5, 7, 8, 10, 11, 13, 14, 15, 16, 17, 18, 19, 20]
noncomputable def looseN : List Str := [Str.ofString "_twin_re_1", Str.ofString "_special_chars_map"]
noncomputable def headAt : List Addr := [3, 38, 37, 50, 49, 69, 68, 76, 75, 62, 61, 83, 82, 90, 89, 95, 94, 100, 99, 107, 106, 114, 113, 119, 118, 124, 123, 52, 43, 42, 33, 64]
noncomputable def kOn (h : Heap) (l : List Addr) : Frag := l.filterMap fun a => (h.get? a).map fun o => (a, o)
noncomputable def kOf (h : Heap) : Frag := kOn h headAt
theorem kOn_in {h : Heap} : ∀ (l : List Addr), (kOn h l).In h
  | [], a, o, e => nomatch e
  | b :: l, a, o, e => by
    unfold kOn at e
    rw [List.filterMap_cons] at e
    cases q : h.get? b with
    | none => rw [q] at e; exact kOn_in l a o e
    | some o' =>
      rw [q] at e
      have e : (List.lookup a ((b, o') :: kOn h l)) = some o := e
      rw [List.lookup_cons] at e
      cases q2 : a == b with
      | true => rw [q2] at e; cases e; rw [beq_iff_eq.mp q2]; exact q
      | false => rw [q2] at e; exact kOn_in l a o e
theorem kOf_in (h : Heap) : (kOf h).In h := kOn_in headAt
noncomputable def paD (x : Str) : Arguments := match PySem.Challenge.pw_nq0086_01.theDef x with | some (p, _) => p | none => default
noncomputable def seeFn (K : Frag) (x : Str) (a ca : Addr) := (isFn K a, (fdAt K a).body, (fdAt K a).scope, (fdAt K a).closure, (fdAt K a).globals, (fdAt K a).builtins, (fdAt K a).code, codeName K ca, (fdAt K a).qualname, nsIn K mainGlobals x, (fdAt K a).params, (fdAt K a).defaults, (fdAt K a).kwdefaults)
noncomputable def goodFn (x : Str) (a ca : Addr) : Bool × FuncBody × Scope × List (Str × Addr) × Addr × Addr × Value × Option Str × Str × Option (Option Value) × Arguments × Value × Value :=
  (true, .stmts (bD x), scD x, [], mainGlobals, builtinsNs, .ref ca, some x, x, some (some (.ref a)), paD x, .none, .none)
theorem fn_of {K : Frag} {x : Str} {a ca : Addr} (e : seeFn K x a ca = goodFn x a ca) : FnOk K x a ca ∧ (fdAt K a).params = paD x ∧ (fdAt K a).defaults = .none ∧ (fdAt K a).kwdefaults = .none := by
  unfold seeFn goodFn at e
  simp only [Prod.mk.injEq] at e
  obtain ⟨e1, e2, e3, e4, e5, e6, e7, e8, e9, e10, e11, e12, e13⟩ := e
  exact ⟨⟨e1, e2, e3, e4, e5, e6, e7, by rw [e9]; exact e8, e10⟩, e11, e12, e13⟩
theorem b_platform {fd : FuncData} (h1 : fd.params = paD "_platform") (h2 : fd.defaults = .none) (h3 : fd.kwdefaults = .none) : ∀ v, bindArgs fd ⟨[v], []⟩ = (newTuple [v] >>= fun t => pure [(Str.ofString "args", t)]) := by
  obtain ⟨n, qn, pa, bo, sc, gl, cl, df, kd, dc, pm, an, co, ct, bi⟩ := fd
  cases h1; cases h2; cases h3
  intro v; kernel_rfl
theorem b_one {K : Frag} {a : Addr} {x p : Str} (hb : ∀ n qn bo sc gl cl dc pm an co ct bi v, bindArgs ⟨n, qn, paD x, bo, sc, gl, cl, .none, .none, dc, pm, an, co, ct, bi⟩ ⟨[v], []⟩ = pure [(p, v)])
    (h1 : (fdAt K a).params = paD x) (h2 : (fdAt K a).defaults = .none) (h3 : (fdAt K a).kwdefaults = .none) : bind1 K a p := by
  unfold bind1
  generalize fdAt K a = fd at h1 h2 h3 ⊢
  obtain ⟨n, qn, pa, bo, sc, gl, cl, df, kd, dc, pm, an, co, ct, bi⟩ := fd
  cases h1; cases h2; cases h3
  exact hb _ _ _ _ _ _ _ _ _ _ _ _
theorem b_two {K : Frag} {a : Addr} {x p q : Str} (hb : ∀ n qn bo sc gl cl dc pm an co ct bi v w, bindArgs ⟨n, qn, paD x, bo, sc, gl, cl, .none, .none, dc, pm, an, co, ct, bi⟩ ⟨[v, w], []⟩ = pure [(p, v), (q, w)])
    (h1 : (fdAt K a).params = paD x) (h2 : (fdAt K a).defaults = .none) (h3 : (fdAt K a).kwdefaults = .none) : bind2 K a p q := by
  unfold bind2
  generalize fdAt K a = fd at h1 h2 h3 ⊢
  obtain ⟨n, qn, pa, bo, sc, gl, cl, df, kd, dc, pm, an, co, ct, bi⟩ := fd
  cases h1; cases h2; cases h3
  exact hb _ _ _ _ _ _ _ _ _ _ _ _
theorem b_three {K : Frag} {a : Addr} {x p q r : Str} (hb : ∀ n qn bo sc gl cl dc pm an co ct bi v w y, bindArgs ⟨n, qn, paD x, bo, sc, gl, cl, .none, .none, dc, pm, an, co, ct, bi⟩ ⟨[v, w, y], []⟩ = pure [(p, v), (q, w), (r, y)])
    (h1 : (fdAt K a).params = paD x) (h2 : (fdAt K a).defaults = .none) (h3 : (fdAt K a).kwdefaults = .none) : bind3 K a p q r := by
  unfold bind3
  generalize fdAt K a = fd at h1 h2 h3 ⊢
  obtain ⟨n, qn, pa, bo, sc, gl, cl, df, kd, dc, pm, an, co, ct, bi⟩ := fd
  cases h1; cases h2; cases h3
  exact hb _ _ _ _ _ _ _ _ _ _ _ _
noncomputable def fnsL : List (Str × Addr × Addr) := [(Str.ofString "_platform", 38, 37), (Str.ofString "translate", 50, 49), (Str.ofString "_translate", 69, 68), (Str.ofString "_join_translated_parts", 76, 75), (Str.ofString "escape", 62, 61), (Str.ofString "_law_unit", 83, 82), (Str.ofString "_law_tokens", 90, 89),
  (Str.ofString "_law_fits", 95, 94), (Str.ofString "_law_takes", 100, 99), (Str.ofString "_law_pair", 107, 106), (Str.ofString "_law_alike", 114, 113), (Str.ofString "_law_meets", 119, 118), (Str.ofString "law", 124, 123)]
noncomputable def namesL : List (Str × Option Value) := [(Str.ofString "len", none), (Str.ofString "any", none), (Str.ofString "list", none), (Str.ofString "range", none), (Str.ofString "enumerate", none), (Str.ofString "filter", none), (Str.ofString "object", none), (Str.ofString "isinstance", none), (Str.ofString "str", none),
  (Str.ofString "_special_chars_map", some (.ref 52)), (Str.ofString "_twin_re_1", some (.ref 43)), (Str.ofString "__builtins__", some (.ref 4))]
noncomputable def headSeen (s : Shared) := (fnsL.map (fun f => seeFn (kOf s.heap) f.1 f.2.1 f.2.2), namesL.map (fun n => nsIn (kOf s.heap) mainGlobals n.1), (mapAt (kOf s.heap) 52, patOk (kOf s.heap) 43 42, tblOk (kOf s.heap) 37 33, tblOk (kOf s.heap) 68 64), s.heap.objs.size, s.toks)
noncomputable def headGood (_ : World) := (fnsL.map (fun f => goodFn f.1 f.2.1 f.2.2), namesL.map (fun n => some n.2), (true, true, true, true), 125, 603)
theorem all_of_map {α β : Type} {f g : α → β} : ∀ {l : List α}, l.map f = l.map g → ∀ x ∈ l, f x = g x
  | [], _, x, h => nomatch h
  | a :: l, e, x, h => by
    rw [List.map_cons, List.map_cons] at e
    injection e with e1 e2
    cases h with
    | head => exact e1
    | tail _ h => exact all_of_map e2 x h
theorem kok_of {w : World} {s : Shared} (e : headSeen s = headGood w) : KOk (kOf s.heap) ∧ s.heap.objs.size = 125 ∧ s.toks = 603 := by
  unfold headSeen headGood at e
  simp only [Prod.mk.injEq] at e
  obtain ⟨e1, e2, ⟨m, p, t0, t2⟩, en, et⟩ := e
  have F := fun x a ca (hx : (x, a, ca) ∈ fnsL) => fn_of (all_of_map e1 (x, a, ca) hx)
  have N := fun x v (hx : (x, v) ∈ namesL) => all_of_map e2 (x, v) hx
  refine ⟨?_, en, et⟩
  have mem : ∀ i (h : i < fnsL.length), fnsL[i] ∈ fnsL := fun i h => List.getElem_mem h
  have men : ∀ i (h : i < namesL.length), namesL[i] ∈ namesL := fun i h => List.getElem_mem h
  have f0 := F _ _ _ (mem 0 (by decide)); have f1 := F _ _ _ (mem 1 (by decide)); have f2 := F _ _ _ (mem 2 (by decide)); have f3 := F _ _ _ (mem 3 (by decide)); have f4 := F _ _ _ (mem 4 (by decide))
  have f5 := F _ _ _ (mem 5 (by decide)); have f6 := F _ _ _ (mem 6 (by decide)); have f7 := F _ _ _ (mem 7 (by decide)); have f8 := F _ _ _ (mem 8 (by decide)); have f9 := F _ _ _ (mem 9 (by decide))
  have f10 := F _ _ _ (mem 10 (by decide)); have f11 := F _ _ _ (mem 11 (by decide)); have f12 := F _ _ _ (mem 12 (by decide))
  exact { f0 := f0.1, b0 := b_platform f0.2.1 f0.2.2.1 f0.2.2.2,
          f1 := f1.1, b1 := b_one (by intros; kernel_rfl) f1.2.1 f1.2.2.1 f1.2.2.2,
          f2 := f2.1, b2 := b_three (by intros; kernel_rfl) f2.2.1 f2.2.2.1 f2.2.2.2,
          f3 := f3.1, b3 := b_two (by intros; kernel_rfl) f3.2.1 f3.2.2.1 f3.2.2.2,
          f4 := f4.1, b4 := b_one (by intros; kernel_rfl) f4.2.1 f4.2.2.1 f4.2.2.2,
          f5 := f5.1, b5 := b_two (by intros; kernel_rfl) f5.2.1 f5.2.2.1 f5.2.2.2,
          f6 := f6.1, b6 := b_one (by intros; kernel_rfl) f6.2.1 f6.2.2.1 f6.2.2.2,
          f7 := f7.1, b7 := b_three (by intros; kernel_rfl) f7.2.1 f7.2.2.1 f7.2.2.2,
          f8 := f8.1, b8 := b_two (by intros; kernel_rfl) f8.2.1 f8.2.2.1 f8.2.2.2,
          f9 := f9.1, b9 := b_two (by intros; kernel_rfl) f9.2.1 f9.2.2.1 f9.2.2.2,
          f10 := f10.1, b10 := b_one (by intros; kernel_rfl) f10.2.1 f10.2.2.1 f10.2.2.2,
          f11 := f11.1, b11 := b_two (by intros; kernel_rfl) f11.2.1 f11.2.2.1 f11.2.2.2,
          fL := f12.1, bL := b_one (by intros; kernel_rfl) f12.2.1 f12.2.2.1 f12.2.2.2,
          nlen := N _ _ (men 0 (by decide)), nany := N _ _ (men 1 (by decide)), nlist := N _ _ (men 2 (by decide)), nrange := N _ _ (men 3 (by decide)), nenum := N _ _ (men 4 (by decide)), nfil := N _ _ (men 5 (by decide)), nobj := N _ _ (men 6 (by decide)), nisi := N _ _ (men 7 (by decide)), nstr := N _ _ (men 8 (by decide)),
          nmap := N _ _ (men 9 (by decide)), nsub := N _ _ (men 10 (by decide)), nbui := N _ _ (men 11 (by decide)), map := m, pat := p, t0 := t0, t2 := t2 }
end Mine
end TH3
section TH4
open PySem PySem.W PyProof.Rows PySem.Calls
set_option maxRecDepth 100000
namespace Mine
/-- the top's run, from the start to behind its last statement: one look of the kernel for each pair of the world's two rows -/
noncomputable def topEq (w : World) : Prop := (openEnds treeTable PySem.Challenge.pw_nq0086_01 w 3692).map (fun s => (openSeen headView looseN (importedModules PySem.Challenge.pw_nq0086_01.main.body) (fun s => xlAt headView [] s && recOk [] s) true s, headSeen s)) = some (openGood headView looseN, headGood w)
theorem top_ff (w : World) : topEq ((w.withFollow "comprehension-iter-twice" false).withFollow "special-get-raises" false) := by
  unfold topEq
  kernel_rfl
theorem top_tf (w : World) : topEq ((w.withFollow "comprehension-iter-twice" true).withFollow "special-get-raises" false) := by
  unfold topEq
  kernel_rfl
theorem top_ft (w : World) : topEq ((w.withFollow "comprehension-iter-twice" false).withFollow "special-get-raises" true) := by
  unfold topEq
  kernel_rfl
theorem top_tt (w : World) : topEq ((w.withFollow "comprehension-iter-twice" true).withFollow "special-get-raises" true) := by
  unfold topEq
  kernel_rfl
theorem top_all : ∀ w : World, topEq w := byRow2 "special-get-raises" (P := topEq)
  (byRow2 "comprehension-iter-twice" (P := fun w => topEq (w.withFollow "special-get-raises" false)) top_ff top_tf)
  (byRow2 "comprehension-iter-twice" (P := fun w => topEq (w.withFollow "special-get-raises" true)) top_ft top_tt)
end Mine
end TH4
open PySem PySem.W PyProof.Rows
open PySem.W.X PySem.W.ZRun
set_option maxRecDepth 100000 in
set_option maxHeartbeats 8000000 in
theorem PySem.Challenge.cw_nq0086_01_holds : PySem.Challenge.rw_nq0086_01.Holds := by
  w_on
  refine holds_law (by decide +kernel) fun said => ?_
  refine holds_openX (q := Mine.headView) (loose := Mine.looseN) (Xt := fun s => xlAt Mine.headView [] s && recOk [] s) (XP := XL Mine.headView []) (Yf := Mine.headSeen) (Ya := Mine.headGood) (N := 3692) Mine.top_all (fun s e => xl_of s (Bool.and_eq_true_iff.mp e).1) XL.keeps (by rfl) (by rfl) (by rfl) (fun s e => recFacts_of (Bool.and_eq_true_iff.mp e).2) rfl (by first | assumption | decide +kernel) (by decide +kernel) ⟨rfl, rfl, rfl, rfl, rfl, by decide +kernel⟩ ?hw ?hc
  case hw => w_witness2
  k_fill
  intro w s0 s1 mg mb G y fa o pm cd doc dV kV ho hd hcd hD hmg hg args vals as L hpre hlay hrd hwl hlo
  obtain ⟨kok, ZN, ZT⟩ := Mine.kok_of y
  have KX : (Mine.kOf s0.heap).In s1.heap := (Mine.kOf_in s0.heap).keeps L.keeps
  refine Ground.open G ?_
  intro T B D TE TW
  wrow_args hpre hlay hrd hwl hlo
  obtain ⟨hat, hsz⟩ := script_at L
  have htk := script_toks L ZT
  rw [ZN] at hat hsz
  have hfa : fa = 124 := by
    have := mg_of KX T.g kok.fL.mgn
    rw [show (Str.ofString "law" : Str) = _ from rfl] at hmg
    exact Value.ref.inj (Option.some.inj (hmg.symm.trans this))
  subst hfa
  have hint := ‹IntsAre _ _›
  have hlist := ‹s1.heap.IsList _ _›
  have hlen : ¬ ((63 : Int) < _) := ‹_›
  refine Mine.law_ends KX T kok hg (Nat.lt_of_lt_of_le (by decide : 0 < 603) htk) hlist hint (by omega) (by rw [hat]; decide) (fun s' h1 h2 h3 => ?_)
  exact ⟨.inl ⟨_, _, [], rfl, fun _ => rfl, ReadsW.bool true, by kernel_rfl, fun _ => ⟨List.nodup_nil, fun _ hm => nomatch hm⟩⟩, h1, h2, h3⟩
