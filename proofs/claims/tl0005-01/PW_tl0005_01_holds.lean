import PyProof.Rows.All
import Wide.All
import OpenK.AllK
import Wide.FinOn
import PySem.Challenge.RW_tl0005_01
set_option Elab.async false
set_option compiler.extract_closed false
set_option linter.all false
set_option genSizeOf false
set_option genInjectivity false
section
open PySem PySem.W PyProof.Rows
def Mine.mw (s : Lean.TSyntax `str) (l : List (String × Lean.MacroM (Lean.TSyntax `tactic))) : Lean.MacroM (Lean.TSyntax `tactic) := match l.lookup s.getString with
  | some m => m
  | none => Lean.Macro.throwUnsupported
theorem Mine.sh9 (T : Prop) (h : T) : T := h
section
open Lean
def Mine.t9id (s : String) : MacroM Ident := return mkIdent (← Macro.addMacroScope (.mkSimple s))
def Mine.t9seq (l : List (MacroM (TSyntax `tactic))) : MacroM (TSyntax `tactic) := do
  let ts := (← l.mapM id).toArray
  `(tactic| ($[$ts];*))
def Mine.t9first (l : List (MacroM (TSyntax `tactic))) : MacroM (TSyntax `tactic) := match l.reverse with
  | [] => Macro.throwUnsupported
  | t :: ts => do ts.foldlM (fun r t => do `(tactic| first | $(← t):tactic | $r:tactic)) (← t)
def Mine.t9case (n : String) (t : MacroM (TSyntax `tactic)) : MacroM (TSyntax `tactic) := do `(tactic| (case $(← Mine.t9id n):ident => $(← t):tactic))
def Mine.t9wrap (k a : String) (t : MacroM (TSyntax `tactic)) : MacroM (TSyntax `tactic) := do
  return ⟨.node .none (.mkStr (.mkStr (.mkStr (.mkStr .anonymous "Lean") "Parser") "Tactic") k) #[mkAtom a, .node .none ``Parser.Tactic.tacticSeq #[.node .none ``Parser.Tactic.tacticSeq1Indented #[mkNullNode #[(← t).raw]]]]⟩
def Mine.t9try (t : MacroM (TSyntax `tactic)) : MacroM (TSyntax `tactic) := Mine.t9wrap "tacticTry_" "try" t
def Mine.t9red (t : MacroM (TSyntax `tactic)) : MacroM (TSyntax `tactic) := Mine.t9wrap "withReducible" "with_reducible" t
def Mine.t9unf (t : MacroM (TSyntax `tactic)) : MacroM (TSyntax `tactic) := Mine.t9wrap "withUnfoldingAll" "with_unfolding_all" t
def Mine.t9fis (t : MacroM (TSyntax `tactic)) : MacroM (TSyntax `tactic) := Mine.t9wrap "failIfSuccess" "fail_if_success" t
def Mine.t9all (t : MacroM (TSyntax `tactic)) : MacroM (TSyntax `tactic) := Mine.t9wrap "allGoals" "all_goals" t
def Mine.t9rep (t : MacroM (TSyntax `tactic)) : MacroM (TSyntax `tactic) := Mine.t9wrap "tacticRepeat_" "repeat" t
def Mine.t9repp (t : MacroM (TSyntax `tactic)) : MacroM (TSyntax `tactic) := Mine.t9wrap "repeat'" "repeat'" t
def Mine.t9dflt (t : MacroM (TSyntax `tactic)) : MacroM (TSyntax `tactic) := return ⟨.node .none `PySem.W.tacticK_dflt_ #[mkAtom "k_dflt", (← t).raw]⟩
def Mine.t9gl (s : String) : MacroM Ident := match s.toList with
  | '~' :: l => Mine.t9id (String.ofList l)
  | _ => return mkIdent s.toName
def Mine.t9kw (s : String) : MacroM (TSyntax `tactic) := match s.splitOn " " with
  | k :: a :: is => do
    let is ← is.mapM Mine.t9gl
    return ⟨.node .none k.toName (#[mkAtom a] ++ (is.map (·.raw)).toArray)⟩
  | _ => Macro.throwUnsupported
def Mine.t9word (bs : List (MacroM (TSyntax `tactic))) (s : String) : MacroM Term := match s.toList with
  | ['_'] => `(_)
  | ['?', '_'] => `(?_)
  | '?' :: l => do `(?$(← Mine.t9id (String.ofList l)))
  | '%' :: l => do match bs[(String.ofList l).toNat!]? with
    | some t => `((by $(← t):tactic))
    | none => Macro.throwUnsupported
  | '^' :: l => return mkIdent (.mkStr `named9 (String.ofList l))
  | '$' :: l => return Syntax.mkStrLit (String.ofList l.dropLast)
  | c :: _ => if c.isDigit then return Syntax.mkNumLit s else return (← Mine.t9gl s)
  | [] => Macro.throwUnsupported
def Mine.t9app (a : List Term) : Term := match a.reverse with
  | [t] => t
  | [f, t] => if f.raw.getId.getPrefix == `named9 then ⟨.node .none ``Parser.Term.namedArgument #[mkAtom "(", mkIdent (.mkSimple f.raw.getId.getString!), mkAtom ":=", t.raw, mkAtom ")"]⟩ else Syntax.mkApp f #[t]
  | f :: as => Syntax.mkApp f as.toArray
  | [] => ⟨.missing⟩
def Mine.t9tok (bs : List (MacroM (TSyntax `tactic))) (st : List (List Term)) (w : String) : MacroM (List (List Term)) := match w, st with
  | "(", st => return [] :: st
  | ")", a :: b :: st => return (Mine.t9app a :: b) :: st
  | w, a :: st => return ((← Mine.t9word bs w) :: a) :: st
  | _, [] => Macro.throwUnsupported
def Mine.t9tm (s : String) (bs : List (MacroM (TSyntax `tactic))) : MacroM Term := do
  match (← (s.splitOn " ").foldlM (Mine.t9tok bs) [[]]) with
  | [a] => return Mine.t9app a
  | _ => Macro.throwUnsupported
def Mine.t9ex (s : String) (bs : List (MacroM (TSyntax `tactic))) : MacroM (TSyntax `tactic) := do `(tactic| exact $(← Mine.t9tm s bs))
def Mine.t9rf (s : String) (bs : List (MacroM (TSyntax `tactic))) : MacroM (TSyntax `tactic) := do `(tactic| refine $(← Mine.t9tm s bs))
def Mine.t9rfp (s : String) (bs : List (MacroM (TSyntax `tactic))) : MacroM (TSyntax `tactic) := do `(tactic| refine' $(← Mine.t9tm s bs))
def Mine.t9sh (s : String) (bs : List (MacroM (TSyntax `tactic))) : MacroM (TSyntax `tactic) := do `(tactic| show $(← Mine.t9tm s bs))
def Mine.t9simp (s l : String) : MacroM (TSyntax `tactic) := do
  let as : Array Term := ((s.splitOn " ").map fun x => ⟨mkIdent x.toName⟩).toArray
  if l == "" then `(tactic| simp only [$[$as:term],*]) else if l == "*" then `(tactic| simp only [$[$as:term],*] at *) else `(tactic| simp only [$[$as:term],*] at $(← Mine.t9gl l):ident)
def Mine.t9dsimp (l : String) : MacroM (TSyntax `tactic) := do
  if l == "" then `(tactic| dsimp only) else if l == "*" then `(tactic| dsimp only at *) else `(tactic| dsimp only at $(← Mine.t9gl l):ident)
def Mine.t9rw (s : String) : MacroM (TSyntax `tactic) := `(tactic| rw [$(mkIdent s.toName):term])
def Mine.t9call (n : String) : MacroM (TSyntax `tactic) := `(tactic| (with_reducible show PySem.wpAny _ _ (PySem.call (PySem.Value.ref $(Syntax.mkNumLit n)) _) _ _ _))
def Mine.t9intro (s : String) : MacroM (TSyntax `tactic) := do
  let ids := (← (s.splitOn " ").mapM Mine.t9id).toArray
  `(tactic| intro $ids*)
def Mine.t9arg (s : String) : MacroM Term := if s == "_" then `(?_) else if s == "rfl" then `(rfl) else do `(?$(← Mine.t9id s))
def Mine.t9ref (n s : String) : MacroM (TSyntax `tactic) := do
  let as := (← (s.splitOn " ").mapM Mine.t9arg).toArray
  `(tactic| refine' $(mkIdent n.toName) $as*)
def Mine.t9asm : MacroM (TSyntax `tactic) := `(tactic| assumption)
def Mine.t9rasm : MacroM (TSyntax `tactic) := Mine.t9red Mine.t9asm
def Mine.t9ext (t : Term) : MacroM (TSyntax `tactic) := return ⟨.node .none ``Parser.Tactic.exact #[mkAtom "exact", t.raw]⟩
def Mine.t9rft (t : Term) : MacroM (TSyntax `tactic) := return ⟨.node .none ``Parser.Tactic.refine #[mkAtom "refine", t.raw]⟩
def Mine.t9ids (is : List Ident) : MacroM (TSyntax `tactic) := do
  let is := is.toArray
  `(tactic| intro $is*)
def Mine.t9ren (n : String) : MacroM (TSyntax `tactic) := `(tactic| rename $(mkIdent n.toName) => l9)
end

def Mine.m9e0 : Lean.MacroM (Lean.TSyntax `tactic) := Mine.t9kw "PySem.W.tacticKtr_room ktr_room"
def Mine.m9e1 : Lean.MacroM (Lean.TSyntax `tactic) := Mine.t9kw "PySem.W.tacticKtr_units ktr_units"
def Mine.m9e2 : Lean.MacroM (Lean.TSyntax `tactic) := Mine.t9kw "PySem.W.tacticK_unfold k_unfold"
def Mine.m9e3 : Lean.MacroM (Lean.TSyntax `tactic) := Mine.t9dsimp ""
def Mine.m9e4 : Lean.MacroM (Lean.TSyntax `tactic) := Mine.t9kw "PySem.W.tacticK_end k_end"
def Mine.m9e5 : Lean.MacroM (Lean.TSyntax `tactic) := Mine.t9kw "PySem.W.tacticWrow_close wrow_close"
def Mine.m9e6 : Lean.MacroM (Lean.TSyntax `tactic) := Mine.t9kw "PyProof.Rows.tacticWalk1 walk1"
def Mine.m9e7 : Lean.MacroM (Lean.TSyntax `tactic) := Mine.t9sh "wpAny _ _ ( subscriptTail _ _ _ _ ) _ _ _" []
def Mine.m9e8 : Lean.MacroM (Lean.TSyntax `tactic) := Mine.t9kw "PyProof.Rows.tacticLeave1 leave1"
def Mine.m9l0 : Lean.MacroM (Lean.TSyntax `tactic) := `(tactic| fail "no step")
def Mine.m9k2 : Lean.MacroM (Lean.TSyntax `tactic) := Mine.t9repp (Mine.t9first [Mine.t9seq [Mine.m9e2, Mine.t9try (Mine.m9e3)], Mine.t9seq [Mine.m9e4, Mine.m9e5], Mine.t9seq [Mine.m9e6, Mine.t9all (Mine.t9try (Mine.t9seq [Mine.t9fis (Mine.t9red (Mine.m9e7)), Mine.m9e3]))], Mine.t9seq [Mine.m9e3, Mine.m9e6], Mine.t9seq [Mine.m9e8, Mine.t9try (Mine.m9e3)], Mine.m9l0])
local macro_rules | `(tactic| k_room) => Mine.m9e0
local macro_rules | `(tactic| k_units) => Mine.m9e1
local macro_rules | `(tactic| k_steps) => Mine.m9k2
section
open PySem PySem.W PyProof.Rows
set_option maxRecDepth 100000
set_option maxHeartbeats 8000000
namespace Mine
set_option synthInstance.maxSize 1 in
open_top hd for PySem.Challenge.rw_tl0005_01
end Mine
end
namespace Mine
universe u
noncomputable def pick {A : Type u} (ne : Nonempty A) (P : A → Prop) : A := @Classical.epsilon A ne fun x => ¬ P x
theorem eps1 {A : Type u} (ne : Nonempty A) (P : A → Prop) (h : P (pick ne P)) : ∀ x, P x := fun x => Classical.byContradiction fun hx => (@Classical.epsilon_spec A (fun x => ¬ P x) ⟨x, hx⟩) h
noncomputable def pick2 {A1 A2 : Type} (ne : Nonempty (A1 × A2)) (P : A1 → A2 → Prop) : A1 × A2 := pick ne fun d => P d.1 d.2
theorem eps2 {A1 A2 : Type} (ne : Nonempty (A1 × A2)) (P : A1 → A2 → Prop) (h : P (pick2 ne P).1 (pick2 ne P).2) : ∀ x1 x2, P x1 x2 := fun x1 x2 => eps1 ne (fun d => P d.1 d.2) h (x1, x2)
noncomputable def pick3 {A1 A2 A3 : Type} (ne : Nonempty (A1 × A2 × A3)) (P : A1 → A2 → A3 → Prop) : A1 × A2 × A3 := pick ne fun d => P d.1 d.2.1 d.2.2
theorem eps3 {A1 A2 A3 : Type} (ne : Nonempty (A1 × A2 × A3)) (P : A1 → A2 → A3 → Prop) (h : P (pick3 ne P).1 (pick3 ne P).2.1 (pick3 ne P).2.2) : ∀ x1 x2 x3, P x1 x2 x3 := fun x1 x2 x3 => eps1 ne (fun d => P d.1 d.2.1 d.2.2) h (x1, x2, x3)
noncomputable def pick4 {A1 A2 A3 A4 : Type} (ne : Nonempty (A1 × A2 × A3 × A4)) (P : A1 → A2 → A3 → A4 → Prop) : A1 × A2 × A3 × A4 := pick ne fun d => P d.1 d.2.1 d.2.2.1 d.2.2.2
theorem eps4 {A1 A2 A3 A4 : Type} (ne : Nonempty (A1 × A2 × A3 × A4)) (P : A1 → A2 → A3 → A4 → Prop) (h : P (pick4 ne P).1 (pick4 ne P).2.1 (pick4 ne P).2.2.1 (pick4 ne P).2.2.2) : ∀ x1 x2 x3 x4, P x1 x2 x3 x4 := fun x1 x2 x3 x4 => eps1 ne (fun d => P d.1 d.2.1 d.2.2.1 d.2.2.2) h (x1, x2, x3, x4)
noncomputable def pick5 {A1 A2 A3 A4 A5 : Type} (ne : Nonempty (A1 × A2 × A3 × A4 × A5)) (P : A1 → A2 → A3 → A4 → A5 → Prop) : A1 × A2 × A3 × A4 × A5 := pick ne fun d => P d.1 d.2.1 d.2.2.1 d.2.2.2.1 d.2.2.2.2
theorem eps5 {A1 A2 A3 A4 A5 : Type} (ne : Nonempty (A1 × A2 × A3 × A4 × A5)) (P : A1 → A2 → A3 → A4 → A5 → Prop) (h : P (pick5 ne P).1 (pick5 ne P).2.1 (pick5 ne P).2.2.1 (pick5 ne P).2.2.2.1 (pick5 ne P).2.2.2.2) : ∀ x1 x2 x3 x4 x5, P x1 x2 x3 x4 x5 := fun x1 x2 x3 x4 x5 => eps1 ne (fun d => P d.1 d.2.1 d.2.2.1 d.2.2.2.1 d.2.2.2.2) h (x1, x2, x3, x4, x5)
noncomputable def pick6 {A1 A2 A3 A4 A5 A6 : Type} (ne : Nonempty (A1 × A2 × A3 × A4 × A5 × A6)) (P : A1 → A2 → A3 → A4 → A5 → A6 → Prop) : A1 × A2 × A3 × A4 × A5 × A6 := pick ne fun d => P d.1 d.2.1 d.2.2.1 d.2.2.2.1 d.2.2.2.2.1 d.2.2.2.2.2
theorem eps6 {A1 A2 A3 A4 A5 A6 : Type} (ne : Nonempty (A1 × A2 × A3 × A4 × A5 × A6)) (P : A1 → A2 → A3 → A4 → A5 → A6 → Prop) (h : P (pick6 ne P).1 (pick6 ne P).2.1 (pick6 ne P).2.2.1 (pick6 ne P).2.2.2.1 (pick6 ne P).2.2.2.2.1 (pick6 ne P).2.2.2.2.2) : ∀ x1 x2 x3 x4 x5 x6, P x1 x2 x3 x4 x5 x6 := fun x1 x2 x3 x4 x5 x6 => eps1 ne (fun d => P d.1 d.2.1 d.2.2.1 d.2.2.2.1 d.2.2.2.2.1 d.2.2.2.2.2) h (x1, x2, x3, x4, x5, x6)
noncomputable def pick7 {A1 A2 A3 A4 A5 A6 A7 : Type} (ne : Nonempty (A1 × A2 × A3 × A4 × A5 × A6 × A7)) (P : A1 → A2 → A3 → A4 → A5 → A6 → A7 → Prop) : A1 × A2 × A3 × A4 × A5 × A6 × A7 := pick ne fun d => P d.1 d.2.1 d.2.2.1 d.2.2.2.1 d.2.2.2.2.1 d.2.2.2.2.2.1 d.2.2.2.2.2.2
theorem eps7 {A1 A2 A3 A4 A5 A6 A7 : Type} (ne : Nonempty (A1 × A2 × A3 × A4 × A5 × A6 × A7)) (P : A1 → A2 → A3 → A4 → A5 → A6 → A7 → Prop) (h : P (pick7 ne P).1 (pick7 ne P).2.1 (pick7 ne P).2.2.1 (pick7 ne P).2.2.2.1 (pick7 ne P).2.2.2.2.1 (pick7 ne P).2.2.2.2.2.1 (pick7 ne P).2.2.2.2.2.2) : ∀ x1 x2 x3 x4 x5 x6 x7, P x1 x2 x3 x4 x5 x6 x7 := fun x1 x2 x3 x4 x5 x6 x7 => eps1 ne (fun d => P d.1 d.2.1 d.2.2.1 d.2.2.2.1 d.2.2.2.2.1 d.2.2.2.2.2.1 d.2.2.2.2.2.2) h (x1, x2, x3, x4, x5, x6, x7)
noncomputable def pick8 {A1 A2 A3 A4 A5 A6 A7 A8 : Type} (ne : Nonempty (A1 × A2 × A3 × A4 × A5 × A6 × A7 × A8)) (P : A1 → A2 → A3 → A4 → A5 → A6 → A7 → A8 → Prop) : A1 × A2 × A3 × A4 × A5 × A6 × A7 × A8 := pick ne fun d => P d.1 d.2.1 d.2.2.1 d.2.2.2.1 d.2.2.2.2.1 d.2.2.2.2.2.1 d.2.2.2.2.2.2.1 d.2.2.2.2.2.2.2
theorem eps8 {A1 A2 A3 A4 A5 A6 A7 A8 : Type} (ne : Nonempty (A1 × A2 × A3 × A4 × A5 × A6 × A7 × A8)) (P : A1 → A2 → A3 → A4 → A5 → A6 → A7 → A8 → Prop) (h : P (pick8 ne P).1 (pick8 ne P).2.1 (pick8 ne P).2.2.1 (pick8 ne P).2.2.2.1 (pick8 ne P).2.2.2.2.1 (pick8 ne P).2.2.2.2.2.1 (pick8 ne P).2.2.2.2.2.2.1 (pick8 ne P).2.2.2.2.2.2.2) : ∀ x1 x2 x3 x4 x5 x6 x7 x8, P x1 x2 x3 x4 x5 x6 x7 x8 := fun x1 x2 x3 x4 x5 x6 x7 x8 => eps1 ne (fun d => P d.1 d.2.1 d.2.2.1 d.2.2.2.1 d.2.2.2.2.1 d.2.2.2.2.2.1 d.2.2.2.2.2.2.1 d.2.2.2.2.2.2.2) h (x1, x2, x3, x4, x5, x6, x7, x8)
noncomputable def pick9 {A1 A2 A3 A4 A5 A6 A7 A8 A9 : Type} (ne : Nonempty (A1 × A2 × A3 × A4 × A5 × A6 × A7 × A8 × A9)) (P : A1 → A2 → A3 → A4 → A5 → A6 → A7 → A8 → A9 → Prop) : A1 × A2 × A3 × A4 × A5 × A6 × A7 × A8 × A9 := pick ne fun d => P d.1 d.2.1 d.2.2.1 d.2.2.2.1 d.2.2.2.2.1 d.2.2.2.2.2.1 d.2.2.2.2.2.2.1 d.2.2.2.2.2.2.2.1 d.2.2.2.2.2.2.2.2
theorem eps9 {A1 A2 A3 A4 A5 A6 A7 A8 A9 : Type} (ne : Nonempty (A1 × A2 × A3 × A4 × A5 × A6 × A7 × A8 × A9)) (P : A1 → A2 → A3 → A4 → A5 → A6 → A7 → A8 → A9 → Prop) (h : P (pick9 ne P).1 (pick9 ne P).2.1 (pick9 ne P).2.2.1 (pick9 ne P).2.2.2.1 (pick9 ne P).2.2.2.2.1 (pick9 ne P).2.2.2.2.2.1 (pick9 ne P).2.2.2.2.2.2.1 (pick9 ne P).2.2.2.2.2.2.2.1 (pick9 ne P).2.2.2.2.2.2.2.2) : ∀ x1 x2 x3 x4 x5 x6 x7 x8 x9, P x1 x2 x3 x4 x5 x6 x7 x8 x9 := fun x1 x2 x3 x4 x5 x6 x7 x8 x9 => eps1 ne (fun d => P d.1 d.2.1 d.2.2.1 d.2.2.2.1 d.2.2.2.2.1 d.2.2.2.2.2.1 d.2.2.2.2.2.2.1 d.2.2.2.2.2.2.2.1 d.2.2.2.2.2.2.2.2) h (x1, x2, x3, x4, x5, x6, x7, x8, x9)
noncomputable def pick10 {A1 A2 A3 A4 A5 A6 A7 A8 A9 A10 : Type} (ne : Nonempty (A1 × A2 × A3 × A4 × A5 × A6 × A7 × A8 × A9 × A10)) (P : A1 → A2 → A3 → A4 → A5 → A6 → A7 → A8 → A9 → A10 → Prop) : A1 × A2 × A3 × A4 × A5 × A6 × A7 × A8 × A9 × A10 := pick ne fun d => P d.1 d.2.1 d.2.2.1 d.2.2.2.1 d.2.2.2.2.1 d.2.2.2.2.2.1 d.2.2.2.2.2.2.1 d.2.2.2.2.2.2.2.1 d.2.2.2.2.2.2.2.2.1 d.2.2.2.2.2.2.2.2.2
theorem eps10 {A1 A2 A3 A4 A5 A6 A7 A8 A9 A10 : Type} (ne : Nonempty (A1 × A2 × A3 × A4 × A5 × A6 × A7 × A8 × A9 × A10)) (P : A1 → A2 → A3 → A4 → A5 → A6 → A7 → A8 → A9 → A10 → Prop) (h : P (pick10 ne P).1 (pick10 ne P).2.1 (pick10 ne P).2.2.1 (pick10 ne P).2.2.2.1 (pick10 ne P).2.2.2.2.1 (pick10 ne P).2.2.2.2.2.1 (pick10 ne P).2.2.2.2.2.2.1 (pick10 ne P).2.2.2.2.2.2.2.1 (pick10 ne P).2.2.2.2.2.2.2.2.1 (pick10 ne P).2.2.2.2.2.2.2.2.2) : ∀ x1 x2 x3 x4 x5 x6 x7 x8 x9 x10, P x1 x2 x3 x4 x5 x6 x7 x8 x9 x10 := fun x1 x2 x3 x4 x5 x6 x7 x8 x9 x10 => eps1 ne (fun d => P d.1 d.2.1 d.2.2.1 d.2.2.2.1 d.2.2.2.2.1 d.2.2.2.2.2.1 d.2.2.2.2.2.2.1 d.2.2.2.2.2.2.2.1 d.2.2.2.2.2.2.2.2.1 d.2.2.2.2.2.2.2.2.2) h (x1, x2, x3, x4, x5, x6, x7, x8, x9, x10)
noncomputable def pick11 {A1 A2 A3 A4 A5 A6 A7 A8 A9 A10 A11 : Type} (ne : Nonempty (A1 × A2 × A3 × A4 × A5 × A6 × A7 × A8 × A9 × A10 × A11)) (P : A1 → A2 → A3 → A4 → A5 → A6 → A7 → A8 → A9 → A10 → A11 → Prop) : A1 × A2 × A3 × A4 × A5 × A6 × A7 × A8 × A9 × A10 × A11 := pick ne fun d => P d.1 d.2.1 d.2.2.1 d.2.2.2.1 d.2.2.2.2.1 d.2.2.2.2.2.1 d.2.2.2.2.2.2.1 d.2.2.2.2.2.2.2.1 d.2.2.2.2.2.2.2.2.1 d.2.2.2.2.2.2.2.2.2.1 d.2.2.2.2.2.2.2.2.2.2
theorem eps11 {A1 A2 A3 A4 A5 A6 A7 A8 A9 A10 A11 : Type} (ne : Nonempty (A1 × A2 × A3 × A4 × A5 × A6 × A7 × A8 × A9 × A10 × A11)) (P : A1 → A2 → A3 → A4 → A5 → A6 → A7 → A8 → A9 → A10 → A11 → Prop) (h : P (pick11 ne P).1 (pick11 ne P).2.1 (pick11 ne P).2.2.1 (pick11 ne P).2.2.2.1 (pick11 ne P).2.2.2.2.1 (pick11 ne P).2.2.2.2.2.1 (pick11 ne P).2.2.2.2.2.2.1 (pick11 ne P).2.2.2.2.2.2.2.1 (pick11 ne P).2.2.2.2.2.2.2.2.1 (pick11 ne P).2.2.2.2.2.2.2.2.2.1 (pick11 ne P).2.2.2.2.2.2.2.2.2.2) : ∀ x1 x2 x3 x4 x5 x6 x7 x8 x9 x10 x11, P x1 x2 x3 x4 x5 x6 x7 x8 x9 x10 x11 := fun x1 x2 x3 x4 x5 x6 x7 x8 x9 x10 x11 => eps1 ne (fun d => P d.1 d.2.1 d.2.2.1 d.2.2.2.1 d.2.2.2.2.1 d.2.2.2.2.2.1 d.2.2.2.2.2.2.1 d.2.2.2.2.2.2.2.1 d.2.2.2.2.2.2.2.2.1 d.2.2.2.2.2.2.2.2.2.1 d.2.2.2.2.2.2.2.2.2.2) h (x1, x2, x3, x4, x5, x6, x7, x8, x9, x10, x11)
noncomputable def pick12 {A1 A2 A3 A4 A5 A6 A7 A8 A9 A10 A11 A12 : Type} (ne : Nonempty (A1 × A2 × A3 × A4 × A5 × A6 × A7 × A8 × A9 × A10 × A11 × A12)) (P : A1 → A2 → A3 → A4 → A5 → A6 → A7 → A8 → A9 → A10 → A11 → A12 → Prop) : A1 × A2 × A3 × A4 × A5 × A6 × A7 × A8 × A9 × A10 × A11 × A12 := pick ne fun d => P d.1 d.2.1 d.2.2.1 d.2.2.2.1 d.2.2.2.2.1 d.2.2.2.2.2.1 d.2.2.2.2.2.2.1 d.2.2.2.2.2.2.2.1 d.2.2.2.2.2.2.2.2.1 d.2.2.2.2.2.2.2.2.2.1 d.2.2.2.2.2.2.2.2.2.2.1 d.2.2.2.2.2.2.2.2.2.2.2
theorem eps12 {A1 A2 A3 A4 A5 A6 A7 A8 A9 A10 A11 A12 : Type} (ne : Nonempty (A1 × A2 × A3 × A4 × A5 × A6 × A7 × A8 × A9 × A10 × A11 × A12)) (P : A1 → A2 → A3 → A4 → A5 → A6 → A7 → A8 → A9 → A10 → A11 → A12 → Prop) (h : P (pick12 ne P).1 (pick12 ne P).2.1 (pick12 ne P).2.2.1 (pick12 ne P).2.2.2.1 (pick12 ne P).2.2.2.2.1 (pick12 ne P).2.2.2.2.2.1 (pick12 ne P).2.2.2.2.2.2.1 (pick12 ne P).2.2.2.2.2.2.2.1 (pick12 ne P).2.2.2.2.2.2.2.2.1 (pick12 ne P).2.2.2.2.2.2.2.2.2.1 (pick12 ne P).2.2.2.2.2.2.2.2.2.2.1 (pick12 ne P).2.2.2.2.2.2.2.2.2.2.2) : ∀ x1 x2 x3 x4 x5 x6 x7 x8 x9 x10 x11 x12, P x1 x2 x3 x4 x5 x6 x7 x8 x9 x10 x11 x12 := fun x1 x2 x3 x4 x5 x6 x7 x8 x9 x10 x11 x12 => eps1 ne (fun d => P d.1 d.2.1 d.2.2.1 d.2.2.2.1 d.2.2.2.2.1 d.2.2.2.2.2.1 d.2.2.2.2.2.2.1 d.2.2.2.2.2.2.2.1 d.2.2.2.2.2.2.2.2.1 d.2.2.2.2.2.2.2.2.2.1 d.2.2.2.2.2.2.2.2.2.2.1 d.2.2.2.2.2.2.2.2.2.2.2) h (x1, x2, x3, x4, x5, x6, x7, x8, x9, x10, x11, x12)
theorem neShared : Nonempty PySem.Shared := ⟨{}⟩
theorem neAround : Nonempty PySem.Around := ⟨{}⟩
theorem neWorld : Nonempty PySem.World := ⟨⟨fun _ _ => 0, { strHash := fun _ => 0, shareClass := fun _ => 0, mergeTok := fun t => t, idOf := fun _ => 0, idOfShared := fun _ _ => 0, followText := fun _ => false, idOfImm := fun _ => 0 }⟩⟩
theorem sheta (s : PySem.Shared) {G : Prop} (k : s = ⟨s.heap, s.gens, s.drawn, s.toks, s.os⟩ → G) : G := k rfl
def Lead9 : Prop := True
def Lead9H : Prop := True
def Lead0 : Prop := True
theorem unf9 {α : Type} {q Q : α → PySem.Shared → Prop} {v : α} {s : PySem.Shared} (h : q = Q) (k : Q v s) : q v s := h ▸ k
theorem fold9 {α : Type} {M : PySem.Model} {A : PySem.Around} {c : PySem.Sem α} {Q : α → PySem.Shared → Prop} {E : PySem.Value → PySem.Shared → Prop} {s : PySem.Shared} (h : ∀ q e, q = Q → e = E → PySem.wpAny M A c q e s) : PySem.wpAny M A c Q E s := h Q E rfl rfl
end Mine
namespace Mine
section
open Lean
def e9hv (n : String) : MacroM (TSyntax `tactic) := `(tactic| have := $(mkIdent n.toName))
def e9ne : MacroM Term := do
  let inst : MacroM (TSyntax `tactic) := `(tactic| infer_instance)
  t9tm "%0" [t9first [inst, t9seq [e9hv "Mine.neShared", e9hv "Mine.neWorld", e9hv "Mine.neAround", t9first [inst, t9seq [e9hv "Mine.neLxC", inst]]]]]
def e9lead (chk : List (MacroM (TSyntax `tactic))) : MacroM (TSyntax `tactic) :=
  t9seq [t9red (t9ren "Mine.Lead9"), t9first [t9red (t9ren "Mine.Lead0"), t9seq ([`(tactic| goal_has PySem.wpAny PySem.codeAny PySem.Shared.mk)] ++ chk ++ [t9try (t9dsimp "")])]]
def e9data (xs : Array Ident) (x : Ident) : MacroM (TSyntax `tactic) :=
  t9fis (t9fis `(tactic| (intros $xs*; have h9 : Type := type_of% $x)))
def e9gen (e : Term) (x : Ident) : MacroM (TSyntax `tactic) := `(tactic| generalize $e = $x:ident)
def e9one (x : Ident) : MacroM (TSyntax `tactic) := do
  t9first [t9seq [e9lead [e9data #[x] x], t9rft (Syntax.mkApp (mkIdent `Mine.eps1) #[← e9ne, ← `(_), ← `(?_)]), e9gen (← t9tm "Mine.pick _ _" []) x], `(tactic| intros $x:ident)]
def e9ids (ts : List Term) : MacroM (List Ident) :=
  ((ts.take 12).takeWhile fun t => t.raw.isIdent || t.raw.isOfKind ``Parser.Term.hole).zipIdx.mapM fun p => do
    if p.1.raw.isIdent then return ⟨p.1.raw⟩
    return mkIdent (.num `x9 p.2)
def e9proj (last : Bool) (i : Nat) (p : Term) : MacroM Term := do
  let p ← (List.range i).foldlM (fun p _ => `($p.2)) p
  if last then return p
  `($p.1)
def e9gens (k : Nat) (p : Term) (xs : List Ident) : MacroM (List (TSyntax `tactic)) :=
  xs.zipIdx.foldlM (fun r x => do return (← e9gen (← e9proj (x.2 + 1 == k) x.2 p) x.1) :: r) []
def e9alts (all : Array Term) (ids : Array Ident) (ne : Term) (r : TSyntax `tactic) (n : Nat) : MacroM (TSyntax `tactic) :=
  (List.range n).foldlM (init := r) fun r j => do
    let k := j + 2
    let xs := ids.extract 0 k
    let rest := all.extract k all.size
    let gs ← e9gens k (← `(($(mkIdent (.mkStr `Mine ("pick" ++ toString k))) _ _))) xs.toList
    let tail := if rest.isEmpty then [] else [`(tactic| intro $rest*)]
    t9first [t9seq ([e9data xs ids[k-1]!, t9rft (Syntax.mkApp (mkIdent (.mkStr `Mine ("eps" ++ toString k))) #[ne, ← `(_), ← `(?_)])] ++ gs.map (fun t => return t) ++ tail), return r]
def e9many (x y : Term) (ys : Array Term) : MacroM (TSyntax `tactic) := do
  let all : Array Term := #[x, y] ++ ys
  let ids := (← e9ids all.toList).toArray
  let b ← `(tactic| (intro $x:term; intro $y:term $ys:term*))
  let r ← e9alts all ids (← e9ne) b (ids.size - 1)
  t9first [t9seq [e9lead [], return r], return b]
end
end Mine
local macro_rules
  | `(tactic| intro $x:ident) => Mine.e9one x
local macro_rules
  | `(tactic| intro $x:term) => do
    unless x.raw.isOfKind ``Lean.Parser.Term.hole do Lean.Macro.throwUnsupported
    Mine.e9one (Lean.mkIdent (.num `x9 0))
local macro_rules
  | `(tactic| intro $x:term $y:term $ys:term*) => Mine.e9many x y ys
local macro_rules
  | `(tactic| k_fold) => `(tactic| ((with_reducible rename Mine.Lead9 => l9); refine Mine.fold9 ?_; intro qk9 ek9 hq9 he9))
local macro_rules
  | `(tactic| k_unfold) => `(tactic| ((with_reducible rename Mine.Lead9 => l9); k_end; refine Mine.unf9 (by with_reducible assumption) ?_))
namespace Mine
theorem ex1E {A1 : Type} {p : A1 → Prop} {G : Prop} (h : ∃ x1, p x1) (k : ∀ x1, p x1 → G) : G := Exists.elim h k
theorem ex2E {A1 A2 : Type} {p : A1 → A2 → Prop} {G : Prop} (h : ∃ x1 x2, p x1 x2) (k : ∀ x1 x2, p x1 x2 → G) : G := Exists.elim h fun x h => ex1E h (k x)
theorem ex3E {A1 A2 A3 : Type} {p : A1 → A2 → A3 → Prop} {G : Prop} (h : ∃ x1 x2 x3, p x1 x2 x3) (k : ∀ x1 x2 x3, p x1 x2 x3 → G) : G := Exists.elim h fun x h => ex2E h (k x)
theorem ex4E {A1 A2 A3 A4 : Type} {p : A1 → A2 → A3 → A4 → Prop} {G : Prop} (h : ∃ x1 x2 x3 x4, p x1 x2 x3 x4) (k : ∀ x1 x2 x3 x4, p x1 x2 x3 x4 → G) : G := Exists.elim h fun x h => ex3E h (k x)
theorem ex5E {A1 A2 A3 A4 A5 : Type} {p : A1 → A2 → A3 → A4 → A5 → Prop} {G : Prop} (h : ∃ x1 x2 x3 x4 x5, p x1 x2 x3 x4 x5) (k : ∀ x1 x2 x3 x4 x5, p x1 x2 x3 x4 x5 → G) : G := Exists.elim h fun x h => ex4E h (k x)
theorem ex6E {A1 A2 A3 A4 A5 A6 : Type} {p : A1 → A2 → A3 → A4 → A5 → A6 → Prop} {G : Prop} (h : ∃ x1 x2 x3 x4 x5 x6, p x1 x2 x3 x4 x5 x6) (k : ∀ x1 x2 x3 x4 x5 x6, p x1 x2 x3 x4 x5 x6 → G) : G := Exists.elim h fun x h => ex5E h (k x)
theorem ex7E {A1 A2 A3 A4 A5 A6 A7 : Type} {p : A1 → A2 → A3 → A4 → A5 → A6 → A7 → Prop} {G : Prop} (h : ∃ x1 x2 x3 x4 x5 x6 x7, p x1 x2 x3 x4 x5 x6 x7) (k : ∀ x1 x2 x3 x4 x5 x6 x7, p x1 x2 x3 x4 x5 x6 x7 → G) : G := Exists.elim h fun x h => ex6E h (k x)
theorem ex8E {A1 A2 A3 A4 A5 A6 A7 A8 : Type} {p : A1 → A2 → A3 → A4 → A5 → A6 → A7 → A8 → Prop} {G : Prop} (h : ∃ x1 x2 x3 x4 x5 x6 x7 x8, p x1 x2 x3 x4 x5 x6 x7 x8) (k : ∀ x1 x2 x3 x4 x5 x6 x7 x8, p x1 x2 x3 x4 x5 x6 x7 x8 → G) : G := Exists.elim h fun x h => ex7E h (k x)
theorem ex9E {A1 A2 A3 A4 A5 A6 A7 A8 A9 : Type} {p : A1 → A2 → A3 → A4 → A5 → A6 → A7 → A8 → A9 → Prop} {G : Prop} (h : ∃ x1 x2 x3 x4 x5 x6 x7 x8 x9, p x1 x2 x3 x4 x5 x6 x7 x8 x9) (k : ∀ x1 x2 x3 x4 x5 x6 x7 x8 x9, p x1 x2 x3 x4 x5 x6 x7 x8 x9 → G) : G := Exists.elim h fun x h => ex8E h (k x)
theorem ex10E {A1 A2 A3 A4 A5 A6 A7 A8 A9 A10 : Type} {p : A1 → A2 → A3 → A4 → A5 → A6 → A7 → A8 → A9 → A10 → Prop} {G : Prop} (h : ∃ x1 x2 x3 x4 x5 x6 x7 x8 x9 x10, p x1 x2 x3 x4 x5 x6 x7 x8 x9 x10) (k : ∀ x1 x2 x3 x4 x5 x6 x7 x8 x9 x10, p x1 x2 x3 x4 x5 x6 x7 x8 x9 x10 → G) : G := Exists.elim h fun x h => ex9E h (k x)
theorem ex11E {A1 A2 A3 A4 A5 A6 A7 A8 A9 A10 A11 : Type} {p : A1 → A2 → A3 → A4 → A5 → A6 → A7 → A8 → A9 → A10 → A11 → Prop} {G : Prop} (h : ∃ x1 x2 x3 x4 x5 x6 x7 x8 x9 x10 x11, p x1 x2 x3 x4 x5 x6 x7 x8 x9 x10 x11) (k : ∀ x1 x2 x3 x4 x5 x6 x7 x8 x9 x10 x11, p x1 x2 x3 x4 x5 x6 x7 x8 x9 x10 x11 → G) : G := Exists.elim h fun x h => ex10E h (k x)
theorem ex12E {A1 A2 A3 A4 A5 A6 A7 A8 A9 A10 A11 A12 : Type} {p : A1 → A2 → A3 → A4 → A5 → A6 → A7 → A8 → A9 → A10 → A11 → A12 → Prop} {G : Prop} (h : ∃ x1 x2 x3 x4 x5 x6 x7 x8 x9 x10 x11 x12, p x1 x2 x3 x4 x5 x6 x7 x8 x9 x10 x11 x12) (k : ∀ x1 x2 x3 x4 x5 x6 x7 x8 x9 x10 x11 x12, p x1 x2 x3 x4 x5 x6 x7 x8 x9 x10 x11 x12 → G) : G := Exists.elim h fun x h => ex11E h (k x)
theorem ex13E {A1 A2 A3 A4 A5 A6 A7 A8 A9 A10 A11 A12 A13 : Type} {p : A1 → A2 → A3 → A4 → A5 → A6 → A7 → A8 → A9 → A10 → A11 → A12 → A13 → Prop} {G : Prop} (h : ∃ x1 x2 x3 x4 x5 x6 x7 x8 x9 x10 x11 x12 x13, p x1 x2 x3 x4 x5 x6 x7 x8 x9 x10 x11 x12 x13) (k : ∀ x1 x2 x3 x4 x5 x6 x7 x8 x9 x10 x11 x12 x13, p x1 x2 x3 x4 x5 x6 x7 x8 x9 x10 x11 x12 x13 → G) : G := Exists.elim h fun x h => ex12E h (k x)
theorem ex14E {A1 A2 A3 A4 A5 A6 A7 A8 A9 A10 A11 A12 A13 A14 : Type} {p : A1 → A2 → A3 → A4 → A5 → A6 → A7 → A8 → A9 → A10 → A11 → A12 → A13 → A14 → Prop} {G : Prop} (h : ∃ x1 x2 x3 x4 x5 x6 x7 x8 x9 x10 x11 x12 x13 x14, p x1 x2 x3 x4 x5 x6 x7 x8 x9 x10 x11 x12 x13 x14) (k : ∀ x1 x2 x3 x4 x5 x6 x7 x8 x9 x10 x11 x12 x13 x14, p x1 x2 x3 x4 x5 x6 x7 x8 x9 x10 x11 x12 x13 x14 → G) : G := Exists.elim h fun x h => ex13E h (k x)
theorem ex15E {A1 A2 A3 A4 A5 A6 A7 A8 A9 A10 A11 A12 A13 A14 A15 : Type} {p : A1 → A2 → A3 → A4 → A5 → A6 → A7 → A8 → A9 → A10 → A11 → A12 → A13 → A14 → A15 → Prop} {G : Prop} (h : ∃ x1 x2 x3 x4 x5 x6 x7 x8 x9 x10 x11 x12 x13 x14 x15, p x1 x2 x3 x4 x5 x6 x7 x8 x9 x10 x11 x12 x13 x14 x15) (k : ∀ x1 x2 x3 x4 x5 x6 x7 x8 x9 x10 x11 x12 x13 x14 x15, p x1 x2 x3 x4 x5 x6 x7 x8 x9 x10 x11 x12 x13 x14 x15 → G) : G := Exists.elim h fun x h => ex14E h (k x)
theorem ex16E {A1 A2 A3 A4 A5 A6 A7 A8 A9 A10 A11 A12 A13 A14 A15 A16 : Type} {p : A1 → A2 → A3 → A4 → A5 → A6 → A7 → A8 → A9 → A10 → A11 → A12 → A13 → A14 → A15 → A16 → Prop} {G : Prop} (h : ∃ x1 x2 x3 x4 x5 x6 x7 x8 x9 x10 x11 x12 x13 x14 x15 x16, p x1 x2 x3 x4 x5 x6 x7 x8 x9 x10 x11 x12 x13 x14 x15 x16) (k : ∀ x1 x2 x3 x4 x5 x6 x7 x8 x9 x10 x11 x12 x13 x14 x15 x16, p x1 x2 x3 x4 x5 x6 x7 x8 x9 x10 x11 x12 x13 x14 x15 x16 → G) : G := Exists.elim h fun x h => ex15E h (k x)
theorem ex17E {A1 A2 A3 A4 A5 A6 A7 A8 A9 A10 A11 A12 A13 A14 A15 A16 A17 : Type} {p : A1 → A2 → A3 → A4 → A5 → A6 → A7 → A8 → A9 → A10 → A11 → A12 → A13 → A14 → A15 → A16 → A17 → Prop} {G : Prop} (h : ∃ x1 x2 x3 x4 x5 x6 x7 x8 x9 x10 x11 x12 x13 x14 x15 x16 x17, p x1 x2 x3 x4 x5 x6 x7 x8 x9 x10 x11 x12 x13 x14 x15 x16 x17) (k : ∀ x1 x2 x3 x4 x5 x6 x7 x8 x9 x10 x11 x12 x13 x14 x15 x16 x17, p x1 x2 x3 x4 x5 x6 x7 x8 x9 x10 x11 x12 x13 x14 x15 x16 x17 → G) : G := Exists.elim h fun x h => ex16E h (k x)
theorem ex18E {A1 A2 A3 A4 A5 A6 A7 A8 A9 A10 A11 A12 A13 A14 A15 A16 A17 A18 : Type} {p : A1 → A2 → A3 → A4 → A5 → A6 → A7 → A8 → A9 → A10 → A11 → A12 → A13 → A14 → A15 → A16 → A17 → A18 → Prop} {G : Prop} (h : ∃ x1 x2 x3 x4 x5 x6 x7 x8 x9 x10 x11 x12 x13 x14 x15 x16 x17 x18, p x1 x2 x3 x4 x5 x6 x7 x8 x9 x10 x11 x12 x13 x14 x15 x16 x17 x18) (k : ∀ x1 x2 x3 x4 x5 x6 x7 x8 x9 x10 x11 x12 x13 x14 x15 x16 x17 x18, p x1 x2 x3 x4 x5 x6 x7 x8 x9 x10 x11 x12 x13 x14 x15 x16 x17 x18 → G) : G := Exists.elim h fun x h => ex17E h (k x)
theorem ex19E {A1 A2 A3 A4 A5 A6 A7 A8 A9 A10 A11 A12 A13 A14 A15 A16 A17 A18 A19 : Type} {p : A1 → A2 → A3 → A4 → A5 → A6 → A7 → A8 → A9 → A10 → A11 → A12 → A13 → A14 → A15 → A16 → A17 → A18 → A19 → Prop} {G : Prop} (h : ∃ x1 x2 x3 x4 x5 x6 x7 x8 x9 x10 x11 x12 x13 x14 x15 x16 x17 x18 x19, p x1 x2 x3 x4 x5 x6 x7 x8 x9 x10 x11 x12 x13 x14 x15 x16 x17 x18 x19) (k : ∀ x1 x2 x3 x4 x5 x6 x7 x8 x9 x10 x11 x12 x13 x14 x15 x16 x17 x18 x19, p x1 x2 x3 x4 x5 x6 x7 x8 x9 x10 x11 x12 x13 x14 x15 x16 x17 x18 x19 → G) : G := Exists.elim h fun x h => ex18E h (k x)
theorem ex20E {A1 A2 A3 A4 A5 A6 A7 A8 A9 A10 A11 A12 A13 A14 A15 A16 A17 A18 A19 A20 : Type} {p : A1 → A2 → A3 → A4 → A5 → A6 → A7 → A8 → A9 → A10 → A11 → A12 → A13 → A14 → A15 → A16 → A17 → A18 → A19 → A20 → Prop} {G : Prop} (h : ∃ x1 x2 x3 x4 x5 x6 x7 x8 x9 x10 x11 x12 x13 x14 x15 x16 x17 x18 x19 x20, p x1 x2 x3 x4 x5 x6 x7 x8 x9 x10 x11 x12 x13 x14 x15 x16 x17 x18 x19 x20) (k : ∀ x1 x2 x3 x4 x5 x6 x7 x8 x9 x10 x11 x12 x13 x14 x15 x16 x17 x18 x19 x20, p x1 x2 x3 x4 x5 x6 x7 x8 x9 x10 x11 x12 x13 x14 x15 x16 x17 x18 x19 x20 → G) : G := Exists.elim h fun x h => ex19E h (k x)
theorem ex21E {A1 A2 A3 A4 A5 A6 A7 A8 A9 A10 A11 A12 A13 A14 A15 A16 A17 A18 A19 A20 A21 : Type} {p : A1 → A2 → A3 → A4 → A5 → A6 → A7 → A8 → A9 → A10 → A11 → A12 → A13 → A14 → A15 → A16 → A17 → A18 → A19 → A20 → A21 → Prop} {G : Prop} (h : ∃ x1 x2 x3 x4 x5 x6 x7 x8 x9 x10 x11 x12 x13 x14 x15 x16 x17 x18 x19 x20 x21, p x1 x2 x3 x4 x5 x6 x7 x8 x9 x10 x11 x12 x13 x14 x15 x16 x17 x18 x19 x20 x21) (k : ∀ x1 x2 x3 x4 x5 x6 x7 x8 x9 x10 x11 x12 x13 x14 x15 x16 x17 x18 x19 x20 x21, p x1 x2 x3 x4 x5 x6 x7 x8 x9 x10 x11 x12 x13 x14 x15 x16 x17 x18 x19 x20 x21 → G) : G := Exists.elim h fun x h => ex20E h (k x)
theorem and2E {a1 a2 G : Prop} (h : a1 ∧ a2) (k : a1 → a2 → G) : G := k h.1 h.2
theorem and3E {a1 a2 a3 G : Prop} (h : a1 ∧ a2 ∧ a3) (k : a1 → a2 → a3 → G) : G := and2E h.2 (k h.1)
theorem and4E {a1 a2 a3 a4 G : Prop} (h : a1 ∧ a2 ∧ a3 ∧ a4) (k : a1 → a2 → a3 → a4 → G) : G := and3E h.2 (k h.1)
theorem and5E {a1 a2 a3 a4 a5 G : Prop} (h : a1 ∧ a2 ∧ a3 ∧ a4 ∧ a5) (k : a1 → a2 → a3 → a4 → a5 → G) : G := and4E h.2 (k h.1)
theorem and6E {a1 a2 a3 a4 a5 a6 G : Prop} (h : a1 ∧ a2 ∧ a3 ∧ a4 ∧ a5 ∧ a6) (k : a1 → a2 → a3 → a4 → a5 → a6 → G) : G := and5E h.2 (k h.1)
theorem and7E {a1 a2 a3 a4 a5 a6 a7 G : Prop} (h : a1 ∧ a2 ∧ a3 ∧ a4 ∧ a5 ∧ a6 ∧ a7) (k : a1 → a2 → a3 → a4 → a5 → a6 → a7 → G) : G := and6E h.2 (k h.1)
theorem and8E {a1 a2 a3 a4 a5 a6 a7 a8 G : Prop} (h : a1 ∧ a2 ∧ a3 ∧ a4 ∧ a5 ∧ a6 ∧ a7 ∧ a8) (k : a1 → a2 → a3 → a4 → a5 → a6 → a7 → a8 → G) : G := and7E h.2 (k h.1)
theorem and9E {a1 a2 a3 a4 a5 a6 a7 a8 a9 G : Prop} (h : a1 ∧ a2 ∧ a3 ∧ a4 ∧ a5 ∧ a6 ∧ a7 ∧ a8 ∧ a9) (k : a1 → a2 → a3 → a4 → a5 → a6 → a7 → a8 → a9 → G) : G := and8E h.2 (k h.1)
theorem and10E {a1 a2 a3 a4 a5 a6 a7 a8 a9 a10 G : Prop} (h : a1 ∧ a2 ∧ a3 ∧ a4 ∧ a5 ∧ a6 ∧ a7 ∧ a8 ∧ a9 ∧ a10) (k : a1 → a2 → a3 → a4 → a5 → a6 → a7 → a8 → a9 → a10 → G) : G := and9E h.2 (k h.1)
theorem and11E {a1 a2 a3 a4 a5 a6 a7 a8 a9 a10 a11 G : Prop} (h : a1 ∧ a2 ∧ a3 ∧ a4 ∧ a5 ∧ a6 ∧ a7 ∧ a8 ∧ a9 ∧ a10 ∧ a11) (k : a1 → a2 → a3 → a4 → a5 → a6 → a7 → a8 → a9 → a10 → a11 → G) : G := and10E h.2 (k h.1)
theorem and12E {a1 a2 a3 a4 a5 a6 a7 a8 a9 a10 a11 a12 G : Prop} (h : a1 ∧ a2 ∧ a3 ∧ a4 ∧ a5 ∧ a6 ∧ a7 ∧ a8 ∧ a9 ∧ a10 ∧ a11 ∧ a12) (k : a1 → a2 → a3 → a4 → a5 → a6 → a7 → a8 → a9 → a10 → a11 → a12 → G) : G := and11E h.2 (k h.1)
theorem and13E {a1 a2 a3 a4 a5 a6 a7 a8 a9 a10 a11 a12 a13 G : Prop} (h : a1 ∧ a2 ∧ a3 ∧ a4 ∧ a5 ∧ a6 ∧ a7 ∧ a8 ∧ a9 ∧ a10 ∧ a11 ∧ a12 ∧ a13) (k : a1 → a2 → a3 → a4 → a5 → a6 → a7 → a8 → a9 → a10 → a11 → a12 → a13 → G) : G := and12E h.2 (k h.1)
theorem and14E {a1 a2 a3 a4 a5 a6 a7 a8 a9 a10 a11 a12 a13 a14 G : Prop} (h : a1 ∧ a2 ∧ a3 ∧ a4 ∧ a5 ∧ a6 ∧ a7 ∧ a8 ∧ a9 ∧ a10 ∧ a11 ∧ a12 ∧ a13 ∧ a14) (k : a1 → a2 → a3 → a4 → a5 → a6 → a7 → a8 → a9 → a10 → a11 → a12 → a13 → a14 → G) : G := and13E h.2 (k h.1)
theorem and15E {a1 a2 a3 a4 a5 a6 a7 a8 a9 a10 a11 a12 a13 a14 a15 G : Prop} (h : a1 ∧ a2 ∧ a3 ∧ a4 ∧ a5 ∧ a6 ∧ a7 ∧ a8 ∧ a9 ∧ a10 ∧ a11 ∧ a12 ∧ a13 ∧ a14 ∧ a15) (k : a1 → a2 → a3 → a4 → a5 → a6 → a7 → a8 → a9 → a10 → a11 → a12 → a13 → a14 → a15 → G) : G := and14E h.2 (k h.1)
theorem and16E {a1 a2 a3 a4 a5 a6 a7 a8 a9 a10 a11 a12 a13 a14 a15 a16 G : Prop} (h : a1 ∧ a2 ∧ a3 ∧ a4 ∧ a5 ∧ a6 ∧ a7 ∧ a8 ∧ a9 ∧ a10 ∧ a11 ∧ a12 ∧ a13 ∧ a14 ∧ a15 ∧ a16) (k : a1 → a2 → a3 → a4 → a5 → a6 → a7 → a8 → a9 → a10 → a11 → a12 → a13 → a14 → a15 → a16 → G) : G := and15E h.2 (k h.1)
theorem and17E {a1 a2 a3 a4 a5 a6 a7 a8 a9 a10 a11 a12 a13 a14 a15 a16 a17 G : Prop} (h : a1 ∧ a2 ∧ a3 ∧ a4 ∧ a5 ∧ a6 ∧ a7 ∧ a8 ∧ a9 ∧ a10 ∧ a11 ∧ a12 ∧ a13 ∧ a14 ∧ a15 ∧ a16 ∧ a17) (k : a1 → a2 → a3 → a4 → a5 → a6 → a7 → a8 → a9 → a10 → a11 → a12 → a13 → a14 → a15 → a16 → a17 → G) : G := and16E h.2 (k h.1)
theorem len_cons {α : Type} {l : List α} {n : Nat} (h : l.length = n + 1) : ∃ x r, l = x :: r ∧ r.length = n := match l, h with
  | x :: r, h => ⟨x, r, rfl, Nat.succ.inj h⟩
theorem two_len {α : Type} {l : List α} {n : Nat} (h : l.length = n + 2) : ∃ a b r, l = a :: b :: r ∧ r.length = n := by
  obtain ⟨a, l1, e1, h1⟩ := len_cons h
  obtain ⟨b, l2, e2, h2⟩ := len_cons h1
  exact ⟨a, b, l2, e1.trans (congrArg _ e2), h2⟩
theorem four_len {α : Type} {l : List α} {n : Nat} (h : l.length = n + 4) : ∃ a b c d r, l = a :: b :: c :: d :: r ∧ r.length = n := by
  obtain ⟨a, b, l1, e1, h1⟩ := two_len (n := n + 2) h
  obtain ⟨c, d, l2, e2, h2⟩ := two_len h1
  exact ⟨a, b, c, d, l2, e1.trans (congrArg (fun r => a :: b :: r) e2), h2⟩
theorem ltS9 {P : Nat → Prop} {n : Nat} (h : ∀ v, v < n → P v) (d : P n) : ∀ v, v < n + 1 → P v := fun v hv => (Nat.lt_succ_iff_lt_or_eq.mp hv).elim (h v) (fun e => e ▸ d)
theorem in03 {P : Nat → Prop} (a : P 0) (b : P 1) (c : P 2) (d : P 3) (v : Nat) (h : v < 4) : P v :=
  ltS9 (ltS9 (ltS9 (ltS9 (fun _ h => absurd h (Nat.not_lt_zero _)) a) b) c) d v h
theorem in57 {P : Nat → Prop} (a : P 5) (b : P 6) (c : P 7) (v : Nat) (h1 : 5 ≤ v) (h2 : v < 8) : P v :=
  ltS9 (P := fun v => 5 ≤ v → P v) (ltS9 (ltS9 (fun _ hv h5 => absurd h5 (Nat.not_le_of_lt hv)) (fun _ => a)) (fun _ => b)) (fun _ => c) v h2 h1
theorem b9a {a b c k : Nat} (h : a ≤ 8) (d : 16 ≤ k) : a - b + min c a ≤ k := Nat.le_trans (Nat.add_le_add (Nat.le_trans (Nat.sub_le _ _) h) (Nat.le_trans (Nat.min_le_right _ _) h)) d
theorem b9b {a b c k : Nat} (h : a ≤ 8) (d : 16 ≤ k) : min c a + (a - b) ≤ k := Nat.le_trans (Nat.add_le_add (Nat.le_trans (Nat.min_le_right _ _) h) (Nat.le_trans (Nat.sub_le _ _) h)) d
theorem b9c {a x y k : Nat} (h : a ≤ 8) (d : 16 ≤ k) : min x (a - y) ≤ k := Nat.le_trans (Nat.min_le_right _ _) (Nat.le_trans (Nat.sub_le _ _) (Nat.le_trans h (Nat.le_trans (by decide) d)))
theorem b9d {a b k : Nat} (h : a ≤ 8) (d : 16 ≤ k) : a - b ≤ k := Nat.le_trans (Nat.sub_le _ _) (Nat.le_trans h (Nat.le_trans (by decide) d))
theorem b9e {a x y k : Nat} (h : a = 8) (d : 16 ≤ k) : min x (a - y) ≤ k := b9c (Nat.le_of_eq h) d
theorem b9f {a x y k : Nat} (d : 8 + a ≤ k) : min 8 x + (a - y) ≤ k := Nat.le_trans (Nat.add_le_add (Nat.min_le_left _ _) (Nat.sub_le _ _)) d
theorem b9h {a j : Nat} : min j a + (a - (j + 1)) ≤ a := by
  rcases Nat.le_total j a with h | h
  · rw [Nat.min_eq_left h]
    exact Nat.le_trans (Nat.add_le_add_left (Nat.sub_le_sub_left (Nat.le_succ j) a) j) (Nat.le_of_eq (Nat.add_sub_cancel' h))
  · rw [Nat.min_eq_right h, Nat.sub_eq_zero_of_le (Nat.le_succ_of_le h)]; exact Nat.le_refl _
theorem g9a {a i k : Nat} (h : i + (k + 1) = a) : a - i = a - i - 1 + 1 := by subst h; rw [Nat.add_sub_cancel_left]; rfl
theorem g9b {a i k n : Nat} (h : i + (k + 1) = a) (e : a - i = n + 1) : a - (i + 1) = n := by rw [← Nat.sub_sub, e]; rfl
theorem g9c {a i k n : Nat} (h : i + (k + 1) = a) (e : a - i = n + 1) : a - 1 - (n + 1 - 1) = i := by
  subst h
  rw [Nat.add_sub_cancel_left] at e
  cases e
  show i + (k + 1) - 1 - k = i
  rw [← Nat.add_assoc, Nat.add_sub_cancel, Nat.add_sub_cancel]
theorem lcases {α : Type} (l : List α) : l = [] ∨ ∃ c r, l = c :: r := match l with
  | [] => .inl rfl
  | c :: r => .inr ⟨c, r, rfl⟩
theorem ocases {α : Type} (l : Option α) : l = none ∨ ∃ x, l = some x := match l with
  | none => .inl rfl
  | some x => .inr ⟨x, rfl⟩
end Mine

namespace Mine
section
open Lean
def Om9 : Prop := True
abbrev Tac9 := TSyntax `tactic
abbrev Pat9 := TSyntax ``Parser.Tactic.rcasesPatMed
def o9h (s : Syntax) : Nat := ((List.range 40).foldl (fun (st : List Syntax × Nat) i => (st.1.flatMap (·.getArgs.toList), if st.1.any (·.isOfKind ``Parser.Tactic.rcasesPat.tuple) then i else st.2)) ([s], 0)).2
def o9fresh (h i : Nat) : Ident := mkIdent (.num (.num `q h) i)
def o9pat (qs : Array Syntax) : Pat9 := match qs.toList with
  | [q] => ⟨q[0]⟩
  | _ => ⟨.node .none ``Parser.Tactic.rcasesPatMed #[mkNullNode #[.node .none ``Parser.Tactic.rcasesPat.tuple #[mkAtom "⟨", mkNullNode (mkSepArray qs (mkAtom ",")), mkAtom "⟩"]]]⟩
def o9ob (p : Pat9) (h : Ident) : MacroM Tac9 := `(tactic| obtain $p:rcasesPatMed := $h:ident)
def o9cl (h : Ident) : MacroM Tac9 := `(tactic| clear $h)
def o9part (k : Nat) (q : Syntax) (i : Nat) : MacroM (Ident × Option Tac9 × Bool) := do
  let as := q[0][0].getSepArgs
  let a := as[0]!
  let fresh := o9fresh k i
  if as.size == 1 && a.isOfKind ``Parser.Tactic.rcasesPat.one && a[0].getId != `rfl then return (⟨a[0]⟩, none, true)
  if as.size == 1 && a.isOfKind ``Parser.Tactic.rcasesPat.ignore then return (fresh, none, true)
  if as.size == 1 && a.isOfKind ``Parser.Tactic.rcasesPat.clear then return (fresh, some (← o9cl fresh), true)
  return (fresh, some (← o9ob (o9pat #[q]) fresh), false)
def o9parts (k : Nat) (qs : List Syntax) : MacroM (List (Ident × Option Tac9 × Bool)) := qs.zipIdx.mapM fun p => o9part k p.1 p.2
def o9alt (h : Term) (clr : Tac9) (ps : Array Syntax) (xs : List (Ident × Option Tac9 × Bool)) (lem : String) (k m : Nat) (r : Tac9) : MacroM Tac9 := do
  let us := xs.take m
  let hh := o9fresh (o9h (o9pat ps)) 99
  let more := if m == ps.size then [] else [hh]
  let last ← o9ob (o9pat (ps.extract m ps.size)) hh
  t9first [t9seq ([t9rft (Syntax.mkApp (mkIdent (.mkStr `Mine (lem ++ toString k ++ "E"))) #[h, ← `(?_)]), return clr, t9ids (us.map (·.1) ++ more)] ++ (us.filterMap (fun u => u.2.1) ++ more.map fun _ => last).map fun t => return t), return r]
def o9ands (h : Term) (clr : Tac9) (ps : Array Syntax) (xs : List (Ident × Option Tac9 × Bool)) (k : Nat) (r : Tac9) : MacroM Tac9 :=
  (List.range k).foldlM (fun r j => o9alt h clr ps xs "and" (j + 2) (if j + 2 == ps.size then j + 2 else j + 1) r) r
def o9exs (h : Term) (clr : Tac9) (ps : Array Syntax) (xs : List (Ident × Option Tac9 × Bool)) (k : Nat) (r : Tac9) : MacroM Tac9 :=
  (List.range k).foldlM (fun r j => o9alt h clr ps xs "ex" (j + 1) (if j + 2 == ps.size then j + 2 else j + 1) r) r
def o9gens (hi : Ident) (fs : List Name) (xs : List Ident) : MacroM (List Tac9) := (fs.zip xs).mapM fun p => `(tactic| generalize $(mkIdent p.1) $hi = $(p.2):ident)
def o9obtain (p : Pat9) (h : Term) : MacroM Tac9 := do
  let alts := p.raw[0].getSepArgs
  unless alts.size == 1 && alts[0]!.isOfKind ``Parser.Tactic.rcasesPat.tuple do Macro.throwUnsupported
  let ps := (alts[0]!)[1].getSepArgs
  let n := ps.size
  unless 2 ≤ n && ps.all (fun q => q[1].getNumArgs == 0) do Macro.throwUnsupported
  let lv := o9h p.raw
  let xs ← o9parts lv ps.toList
  let plain := (xs.takeWhile (·.2.2)).length
  let clr ← if h.raw.isIdent then t9try (o9cl ⟨h.raw⟩) else t9kw "Lean.Parser.Tactic.skip skip"
  let hh := o9fresh lv 98
  let r ← `(tactic| first | (have $hh:ident := ($h).out; $clr; obtain $p:rcasesPatMed := $hh:ident) | rcases $h:term with $p:rcasesPatMed)
  let r ← o9ands h clr ps xs (min (n - 1) 20) r
  let r ← o9exs h clr ps xs (min (if plain < n then plain else n - 1) 21) r
  unless h.raw.isIdent && plain == n && (n == 5 || n == 27) do return r
  let hi : Ident := ⟨h.raw⟩
  let ee := o9fresh lv 97
  let fs := if n == 5 then "heap gens drawn toks os" else "P D dD f c' P2 S dS G C doc pm ct oc oC t1 t2 t3 t4 tw u1 u2 u3 u4 u5 ul uw"
  let fs := (fs.splitOn " ").map fun f => Name.mkStr (if n == 5 then `PySem.Shared else `Mine.LxC) f
  let gs ← o9gens hi fs (xs.map (·.1))
  t9first [t9seq ([t9red (t9ren "Mine.Lead9"), t9rft (Syntax.mkApp (mkIdent (if n == 5 then `Mine.sheta else `Mine.lxeta)) #[hi, ← `(?_)])] ++ gs.map (fun t => return t) ++ [`(tactic| intros $ee), `(tactic| subst $ee)]), return r]
def o9rpart (p : Syntax) (i : Nat) : MacroM (List Tac9) := do
  let a := p[0]
  if a.isOfKind ``Parser.Tactic.rcasesPat.tuple then
    let m : Pat9 := ⟨.node .none ``Parser.Tactic.rcasesPatMed #[mkNullNode #[a]]⟩
    let x := o9fresh (o9h m) (100 + i)
    return [← t9ids [x], ← o9ob m x]
  if a.isOfKind ``Parser.Tactic.rcasesPat.one && a[0].getId != `rfl then return [← t9ids [⟨a[0]⟩]]
  if a.isOfKind ``Parser.Tactic.rcasesPat.ignore then return [← `(tactic| intro _)]
  let q : TSyntax `rintroPat := ⟨p⟩
  return [← `(tactic| rintro $q:rintroPat)]
def o9rintro (ps : List Syntax) : MacroM (List Tac9) := do
  unless ps.all (fun p => p.isOfKind ``Parser.Tactic.rintroPat.one) && ps.any (fun p => p[0].isOfKind ``Parser.Tactic.rcasesPat.tuple) do Macro.throwUnsupported
  return (← ps.zipIdx.mapM fun p => o9rpart p.1 p.2).flatten
def w9ex (fs : List String) : MacroM Tac9 := do t9ext (fs.foldr (fun f t => Syntax.mkApp (mkIdent f.toName) #[t]) (← t9tm "%0" [t9rasm]))
def w9kind (f : List String) : MacroM Tac9 := do
  let s := f ++ ["Nat.lt_succ_of_lt"]
  let ps := [f] ++ (List.range 11).map (fun i => f ++ ["And.left"] ++ List.replicate i "And.right") ++ [f ++ ["Nat.lt_of_succ_lt"], s, s ++ ["And.left"], s ++ ["And.left", "And.right"]]
  t9first (ps.map w9ex ++ [t9seq [t9rf (" ".intercalate (f ++ ["?_"])) [], t9rep (t9first [t9rasm, t9ex "And.left %0" [t9rasm], t9rf "Nat.lt_trans %0 ?_" [t9rasm]]), t9kw "Lean.Parser.Tactic.done done"]])
def w9om : MacroM Tac9 := `(tactic| omega +splitDisjunctions)
def w9omega : MacroM Tac9 := t9first [t9rasm, t9ex "Nat.zero_le _" [], t9ex "Nat.le_of_ble_eq_true rfl" [],
  t9seq [t9red `(tactic| refine (?_ : @LT.lt Nat _ _ _)), w9kind []],
  t9seq [`(tactic| refine (?_ : @Ne Nat _ _)), t9first [w9kind ["Nat.ne_of_lt"], w9kind ["Nat.ne_of_gt"]]],
  t9red (t9first ((["b9a %0 %1", "b9b %0 %1", "b9c %0 %1", "b9d %0 %1", "b9e %0 %1"].map fun s => t9ex ("Mine." ++ s) [t9asm, `(tactic| decide)]) ++ [t9ex "Mine.b9f %0" [`(tactic| decide)], t9ex "Nat.le_trans Mine.b9h %0" [t9asm], t9ex "Nat.sub_le_sub_left ( Nat.min_le_left _ _ ) _" [], t9ex "Mine.g9a %0" [t9asm], t9ex "Mine.g9b %0 %0" [t9asm], t9ex "Mine.g9c %0 %0" [t9asm]])),
  t9seq [t9red (t9ren "Mine.Om9"), w9om], `(tactic| lia), w9om]
end
end Mine
local macro_rules
  | `(tactic| obtain $p:rcasesPatMed := $h:term) => Mine.o9obtain p h
open Lean in
local macro_rules
  | `(tactic| obtain $p:rcasesPatMed : $t:term := $v:term) => do
    let alts := p.raw[0].getSepArgs
    unless alts.size == 1 && alts[0]!.isOfKind ``Parser.Tactic.rcasesPat.tuple do Macro.throwUnsupported
    let hh := Mine.o9fresh (Mine.o9h p) 96
    `(tactic| (have $hh:ident : $t := $v; obtain $p:rcasesPatMed := $hh:ident))
local macro_rules
  | `(tactic| rintro $ps:rintroPat*) => do
    let ts := (← Mine.o9rintro (ps.toList.map (·.raw))).toArray
    `(tactic| ($[$ts];*))
local macro_rules
  | `(tactic| omega) => Mine.w9omega
section
open PySem PySem.W PyProof.Rows PySem.Calls PySem.Spec
set_option maxRecDepth 100000
namespace Mine
noncomputable abbrev IsSq (p : Addr × Obj) : Prop := ∃ a c, p.2.data = .seq a c
theorem kS_refl {l : List (Addr × Obj)} : ∀ p ∈ l, IsSq p → p ∈ l := fun _ hp _ => hp
theorem kS_tail {x : Addr × Obj} {l l' : List (Addr × Obj)} (h : ∀ p ∈ l, IsSq p → p ∈ l') : ∀ p ∈ l, IsSq p → p ∈ x :: l' := fun p hp q => .tail _ (h p hp q)
theorem kS_cons {x : Addr × Obj} {l l' : List (Addr × Obj)} (h : ∀ p ∈ l, IsSq p → p ∈ l') : ∀ p ∈ x :: l, IsSq p → p ∈ x :: l' := fun p hp q => by
  cases hp with
  | head => exact .head _
  | tail _ hp => exact .tail _ (h p hp q)
theorem kS_skip {x : Addr × Obj} {l l' : List (Addr × Obj)} (n : ¬ IsSq x) (h : ∀ p ∈ l, IsSq p → p ∈ l') : ∀ p ∈ x :: l, IsSq p → p ∈ l' := fun p hp q => by
  cases hp with
  | head => exact absurd q n
  | tail _ hp => exact h p hp q
theorem kS_app {t l l' : List (Addr × Obj)} (h : ∀ p ∈ l, IsSq p → p ∈ l') : ∀ p ∈ t ++ l, IsSq p → p ∈ t ++ l' := fun p hp q => (List.mem_append.mp hp).elim (List.mem_append_left _) fun hp => List.mem_append_right _ (h p hp q)
noncomputable abbrev PP : Program := PySem.Challenge.rw_tl0005_01.prog
noncomputable abbrev VV : Program := PySem.W.topProg
noncomputable abbrev KK (w : World) : Frag := Mine.hd.heap_39 w.params

noncomputable abbrev Cl (k : Nat) (w : World) (f : Addr) (news : List (Addr × Obj)) (pre : Prop) (vs : List Value) (R : Value → List (Addr × Obj) → Prop) : Prop :=
  ∀ (loose : List Str) (mean : ExcName → Option Value) (mg mb : Str → Option Value) (dp un : Nat) (gd : Option (List Code)) (cn : Str) (cs : Scope) (a : Addr) (ccd : Value) (cl : List (Str × Addr)) (outer : List Env) (A₀ : Around) (base h₀ : Heap) (L : Addr) (m : Str → Option Value) (s : Shared) (Q E : Value → Shared → Prop),
    Below A₀ base outer h₀ → Fr h₀ L s.heap m → (KK w).In h₀ → News h₀ L s.heap news → Top VV loose mean mg mb h₀ → cs.kind = .function → pre →
    dp + k < recursionLimit → un + 10 * k < cLine → AllBare s.gens →
    (∀ v news' s', R v news' → Fr h₀ L s'.heap m → News h₀ L s'.heap news' → AllBare s'.gens → s'.os = s.os → Q v s') →
    wpAny (model PP w) (ktrTop dp un gd cn cs L a ccd cl outer) (call (.ref f) vs) Q E s

noncomputable abbrev CC (k : Nat) (w : World) (f : Addr) (news : List (Addr × Obj)) (pre : Prop) (vs : List Value) (R : Value → List (Addr × Obj) → Prop) : Prop :=
  ∀ (loose : List Str) (mean : ExcName → Option Value) (mg mb : Str → Option Value) (dp un : Nat) (gd : Option (List Code)) (cn : Str) (cs : Scope) (a : Addr) (ccd : Value) (cl : List (Str × Addr)) (outer : List Env) (A₀ : Around) (base h₀ : Heap) (L : Addr) (m : Str → Option Value) (s : Shared) (Q : Result → Shared → Prop),
    Below A₀ base outer h₀ → Fr h₀ L s.heap m → (KK w).In h₀ → News h₀ L s.heap news → Top VV loose mean mg mb h₀ → cs.kind = .function → pre →
    dp + k < recursionLimit → un + 10 * k < cLine → AllBare s.gens →
    (∀ v news' s', R v news' → Fr h₀ L s'.heap m → News h₀ L s'.heap news' → AllBare s'.gens → s'.os = s.os → Q (.ok (.ret v)) s') →
    codeAny (model PP w) (ktrTop dp un gd cn cs L a ccd cl outer) (.call (.ref f) ⟨vs, []⟩) Q s
theorem CC.cl {k : Nat} {w : World} {f : Addr} {news : List (Addr × Obj)} {pre : Prop} {vs : List Value} {R : Value → List (Addr × Obj) → Prop} (h : CC k w f news pre vs R) : Cl k w f news pre vs R :=
  fun loose mean mg mb dp un gd cn cs a ccd cl outer A₀ base h₀ L m s Q E B F X N T hk hp hd hu hb hret =>
    wpAny_call (h loose mean mg mb dp un gd cn cs a ccd cl outer A₀ base h₀ L m s (fun r s' => match r with | .ok (.ret v) => Q v s' | .ok _ => False | .error e => E e s') B F X N T hk hp hd hu hb hret)

structure RepF (resp : Str) (n : Int) : Prop where
  lo : 11 ≤ resp.length
  hi : resp.length ≤ 14
  sl : (Txt.slice resp none (some 3) != Str.ofString "229") = false
  f1 : Txt.find resp (Str.ofString "(") = 4
  f3 : Txt.find3 resp (Str.ofString ")") (Txt.find resp (Str.ofString "(") + 1) = (resp.length : Int) - 1
  ne : (Txt.item resp (Txt.find resp (Str.ofString "(") + 1) != Txt.item resp (Txt.find3 resp (Str.ofString ")") (Txt.find resp (Str.ofString "(") + 1) - 1)) = false
  sp : ∃ d, Txt.split (Txt.slice resp (some (Txt.find resp (Str.ofString "(") + 1)) (some (Txt.find3 resp (Str.ofString ")") (Txt.find resp (Str.ofString "(") + 1))))
        (Txt.item resp (Txt.find resp (Str.ofString "(") + 1)) = [Str.empty, Str.empty, Str.empty, d, Str.empty] ∧ PySem.intText? d = some n ∧ d.length ≤ 10
theorem split_use {l : List (Str × Tok)} {x y : Str} {L : List Str} (h : Txt.split x y = L) (e : l.map (·.1) = Txt.split x y) : l.map (·.1) = L := e.trans h
end Mine
end
section
open PySem PySem.W PyProof.Rows PySem.Calls PySem.Spec
set_option maxRecDepth 100000
namespace Mine
inductive SV : List Value → List Nat → Prop
  | nil : SV [] []
  | cons {vs cs} (c : Nat) (t : Tok) : SV vs cs → SV (.str ⟨#[c]⟩ t :: vs) (c :: cs)
theorem SV.append {a b : List Value} {x y : List Nat} (h : SV a x) (g : SV b y) : SV (a ++ b) (x ++ y) := by
  induction h with
  | nil => exact g
  | cons c t _ ih => exact .cons c t ih
theorem SV.reverse {a : List Value} {x : List Nat} (h : SV a x) : SV a.reverse x.reverse := by
  induction h with
  | nil => exact .nil
  | cons c t _ ih => simp only [List.reverse_cons]; exact ih.append (.cons c t .nil)
theorem SV.length {a : List Value} {x : List Nat} (h : SV a x) : a.length = x.length := by
  induction h with
  | nil => rfl
  | cons c t _ ih => simp [ih]
theorem SV.of_carried {ys : List Value} : ∀ {cs : List Nat}, CarriedAll ys ((cs.map fun n => (⟨#[n]⟩ : Str)).map PyData.str) → SV ys cs := by
  intro cs
  induction cs generalizing ys with
  | nil => intro h; cases h; exact .nil
  | cons c r ih =>
    intro h
    simp only [List.map_cons] at h
    cases h with
    | cons h1 h2 => cases h1 with
      | str x t => exact .cons c t (ih h2)
theorem SV.last {us : List Value} {cs : List Nat} {c : Nat} (h : SV us (cs ++ [c])) : ∃ ws t, us = ws ++ [.str ⟨#[c]⟩ t] ∧ SV ws cs := by
  induction cs generalizing us with
  | nil => cases h with | cons _ t h => cases h; exact ⟨[], t, rfl, .nil⟩
  | cons d r ih =>
    cases h with
    | cons _ t h =>
      obtain ⟨ws, t', rfl, hw⟩ := ih h
      exact ⟨.str ⟨#[d]⟩ t :: ws, t', rfl, .cons d t hw⟩
theorem allne0 {x : Addr} {l : List (Addr × Obj)} (h : AllLt x l) : ∀ p ∈ l, p.1 ≠ x := by
  induction l with
  | nil => intro p hp; cases hp
  | cons a r ih => intro p hp; cases hp with
    | head => exact Nat.ne_of_lt h.1
    | tail _ hp => exact ih h.2 p hp
theorem allLt_mono {x y : Addr} {l : List (Addr × Obj)} (h : AllLt x l) (hxy : x ≤ y) : AllLt y l := by
  induction l with
  | nil => trivial
  | cons a r ih => exact ⟨Nat.lt_of_lt_of_le h.1 hxy, ih h.2⟩
theorem allne1 {x : Addr} {l : List (Addr × Obj)} (h : AllLt x l) : ∀ p ∈ l, p.1 ≠ x + 1 := allne0 (allLt_mono h (Nat.le_succ _))
theorem allne2 {x : Addr} {l : List (Addr × Obj)} (h : ∀ p ∈ l, p.1 < x) : ∀ p ∈ l, p.1 ≠ x := fun p hp => Nat.ne_of_lt (h p hp)
theorem allne3 {x : Addr} {l : List (Addr × Obj)} (h : ∀ p ∈ l, p.1 < x) : ∀ p ∈ l, p.1 ≠ x + 1 := fun p hp => Nat.ne_of_lt (Nat.lt_succ_of_lt (h p hp))
section
variable {prog : Program} {w : World} {A : Around} {E : Value → Shared → Prop} {s : Shared} {h₀ : Heap} {L : Addr} {m : Str → Option Value} {news : List (Addr × Obj)}
theorem list_str_K {x : Str} {t : Tok} {Q : Value → Shared → Prop} (hh : A.handled = none) (F : Fr h₀ L s.heap m) (N : News h₀ L s.heap news) (hsz : x.length ≤ sizeLine)
    (h : ∀ D ys c h' tk, Fr h₀ L h' m → News h₀ L h' ((D, listOf (List.toArray ys) c) :: news) → (∀ p ∈ news, p.1 < D) → SV ys x.cps.toList → Q (.ref D) { s with heap := h', toks := tk }) :
    wpAny (model prog w) A (call (.type "list") [.str x t]) Q E s := by
  refine list_strD hh F N (fun h' tk ys F' N' _ hn _ hP hc => ?_) hsz
  obtain ⟨c, N2⟩ := made_enters hP F' N' hn
  exact h _ ys c h' tk F' N2 (fun p hp => Heap.lt_size (N p hp).1) (SV.of_carried hc)
theorem rev_SV {value slice : PySem.Expr} {l : Addr} {ys : List Value} {c : Nat} {cs : List Nat} {vk : Value} {ops : List Value} {Q : Value → Shared → Prop} (F : Fr h₀ L s.heap m) (N : News h₀ L s.heap news) (hm : (l, listOf (List.toArray ys) c) ∈ news) (pk : IsPart vk (some (-1))) (sv : SV ys cs) (hz : cs.length ≤ sizeLine)
    (h : ∀ D us h', Fr h₀ L h' m → News h₀ L h' ((D, listOf (List.toArray us) 0) :: news) → (∀ p ∈ news, p.1 < D) → SV us cs.reverse → Q (.ref D) { s with heap := h' })
    (hs : subscripted slice false (.ref l) (.ref s.heap.objs.size) = operate ops (getItem (.ref l) (.ref s.heap.objs.size))) (ht : ∀ r, letTemporaryGo value (.ref l) r = pure ()) :
    wpAny (model prog w) A (subscriptTail value slice (.ref l) (.ref s.heap.objs.size)) Q E { s with heap := s.heap.push { cls := .type "slice", data := .fields #[.none, .none, vk] } } :=
  krv_lit F N (News.isList N hm) pk rfl (fun D h' F' N' l1 => h D _ h' F' N' l1 sv.reverse) hs ht (by rw [List.size_toArray, sv.length]; exact hz)
end
end Mine
end
section
def Mine.m9l1 : Lean.MacroM (Lean.TSyntax `tactic) := `(tactic| rename _ ∧ _ => hc)
def Mine.m9l2 : Lean.MacroM (Lean.TSyntax `tactic) := `(tactic| obtain ⟨_, _⟩ := hc)
def Mine.m9l3 : Lean.MacroM (Lean.TSyntax `tactic) := `(tactic| assumption)
def Mine.m9e9 : Lean.MacroM (Lean.TSyntax `tactic) := Mine.t9ex "allne0 %0" [(Mine.t9red (Mine.m9l3))]
def Mine.m9e10 : Lean.MacroM (Lean.TSyntax `tactic) := Mine.t9ex "allne2 %0" [(Mine.t9red (Mine.m9l3))]
def Mine.m9e11 : Lean.MacroM (Lean.TSyntax `tactic) := Mine.t9ex "allne3 %0" [(Mine.t9red (Mine.m9l3))]
def Mine.m9e12 : Lean.MacroM (Lean.TSyntax `tactic) := Mine.t9ex "allne1 %0" [(Mine.t9red (Mine.m9l3))]
def Mine.m9k3 : Lean.MacroM (Lean.TSyntax `tactic) := Mine.t9seq [Mine.t9fis (Mine.t9ref "List.forall_mem_cons.mpr" "_"), Mine.t9rep (Mine.t9seq [Mine.t9red (Mine.m9l1), Mine.m9l2]), Mine.t9first [Mine.t9red (Mine.m9l3), Mine.m9e9, Mine.m9e10, Mine.m9e11, Mine.m9e12]]
local macro_rules | `(tactic| k_all) => Mine.m9k3
section
open PySem PySem.W PyProof.Rows PySem.Calls PySem.Spec
set_option maxRecDepth 100000
namespace Mine
noncomputable def fdParams : Stmt → Arguments | .FunctionDef _ p _ _ _ _ _ _ _ _ => p | _ => { posonlyargs := [], args := [], vararg := none, kwonlyargs := [], kw_defaults := [], kwarg := none, defaults := [] }
noncomputable def fdBody : Stmt → List Stmt | .FunctionDef _ _ b _ _ _ _ _ _ _ => b | _ => []
noncomputable def fdScope : Stmt → Scope | .FunctionDef _ _ _ _ _ _ s _ _ _ => s | _ => default
noncomputable def sAt : List Stmt → Nat → Stmt | [], _ => .Pass default | x :: _, 0 => x | _ :: r, n + 1 => sAt r n
noncomputable def pieceStmt : Stmt := sAt (fdBody (sAt PP.main.body 12)) 2
noncomputable def pieceFn (cell : Addr) (doc pm : Value) (c' : Addr) (ct : Value) : Obj :=
  fnMade "_law_piece" "_law_lexer.<locals>._law_piece" (fdParams pieceStmt) (fdBody pieceStmt) (fdScope pieceStmt) [("signs", cell)] doc pm c' ct
noncomputable abbrev dEnt (w : World) (t1 t2 t3 t4 : Tok) (ln : Int) (tl : Tok) (ins : Value) (tw : Tok) (P : Addr) : List DictEntry :=
  [⟨PyData.keyHash w.params (Str.ofString "lineno"), .str (Str.ofString "lineno") t1, .int ln tl⟩,
   ⟨PyData.keyHash w.params (Str.ofString "instream"), .str (Str.ofString "instream") t2, ins⟩,
   ⟨PyData.keyHash w.params (Str.ofString "whitespace"), .str (Str.ofString "whitespace") t3, .str (Str.ofString "\n\t\x0d ") tw⟩,
   ⟨PyData.keyHash w.params (Str.ofString "pushback"), .str (Str.ofString "pushback") t4, .ref P⟩]
noncomputable abbrev sEnt (w : World) (t1 t2 t3 t4 t5 : Tok) (tl : Tok) (tw : Tok) (P2 f : Addr) : List DictEntry :=
  [⟨PyData.keyHash w.params (Str.ofString "lineno"), .str (Str.ofString "lineno") t1, .int 1 tl⟩,
   ⟨PyData.keyHash w.params (Str.ofString "instream"), .str (Str.ofString "instream") t2, .none⟩,
   ⟨PyData.keyHash w.params (Str.ofString "whitespace"), .str (Str.ofString "whitespace") t3, .str (Str.ofString "\n\t\x0d ") tw⟩,
   ⟨PyData.keyHash w.params (Str.ofString "pushback"), .str (Str.ofString "pushback") t4, .ref P2⟩,
   ⟨PyData.keyHash w.params (Str.ofString "read"), .str (Str.ofString "read") t5, .ref f⟩]
structure LxC where
  (P D dD f c' P2 S dS G C : Addr)
  (doc pm ct : Value) (oc oC : Obj)
  (t1 t2 t3 t4 tw u1 u2 u3 u4 u5 ul uw : Tok)
theorem neLxC : Nonempty LxC := ⟨⟨0, 0, 0, 0, 0, 0, 0, 0, 0, 0, default, default, default, default, default, default, default, default, default, default, default, default, default, default, default, default, default⟩⟩
theorem lxeta (x : LxC) {G : Prop} (k : x = ⟨x.P, x.D, x.dD, x.f, x.c', x.P2, x.S, x.dS, x.G, x.C, x.doc, x.pm, x.ct, x.oc, x.oC, x.t1, x.t2, x.t3, x.t4, x.tw, x.u1, x.u2, x.u3, x.u4, x.u5, x.ul, x.uw⟩ → G) : G := k rfl
structure LxC.Ok (x : LxC) (vs : Array Value) (tq : Tok) : Prop where
  o1 : @LT.lt Nat _ x.C x.G
  o2 : @LT.lt Nat _ x.G x.dS
  o3 : @LT.lt Nat _ x.dS x.S
  o4 : @LT.lt Nat _ x.S x.P2
  o5 : @LT.lt Nat _ x.P2 x.f
  o6 : @LT.lt Nat _ x.c' x.f
  o7 : @LT.lt Nat _ x.f x.dD
  o8 : @LT.lt Nat _ x.dD x.D
  o9 : @LT.lt Nat _ x.D x.P
  cg : @Ne Nat x.c' x.G
  cell : x.oC.data = .cell (some (.ref x.G))
  code : x.oc.data = .fields vs
  qual : vs[1]? = some (.str "_law_lexer.<locals>._law_piece" tq)
noncomputable abbrev LxC.news (w : World) (x : LxC) (pb : List Value) (np : Nat) (ln : Int) (tl : Tok) (us : List Value) (ng : Nat) : List (Addr × Obj) :=
  [(x.P, W.listOf pb.toArray np), (x.D, instObj 52 x.dD), (x.dD, dictOf (dEnt w x.t1 x.t2 x.t3 x.t4 ln tl (.ref x.S) x.tw x.P) 4), (x.f, pieceFn x.C x.doc x.pm x.c' x.ct), (x.c', x.oc), (x.P2, W.listOf #[] 0),
   (x.S, instObj 52 x.dS), (x.dS, dictOf (sEnt w x.u1 x.u2 x.u3 x.u4 x.u5 x.ul x.uw x.P2 x.f) 5), (x.G, W.listOf us.toArray ng), (x.C, x.oC)]
theorem one_beq (c d : Nat) : ((⟨#[c]⟩ : Str) == ⟨#[d]⟩) = (c == d) := by
  by_cases h : c = d
  · subst h; simp
  · have h2 : ¬ ((⟨#[c]⟩ : Str) = ⟨#[d]⟩) := fun e => h (by injection e with e; simpa using e)
    rw [beq_eq_false_iff_ne.mpr h2, beq_eq_false_iff_ne.mpr h]
theorem nl_is : Str.ofString "\n" = ⟨#[10]⟩ := by decide +kernel
theorem quote_is : Str.ofString "\"" = ⟨#[34]⟩ := by decide +kernel
theorem back_is : Str.ofString "\\" = ⟨#[92]⟩ := by decide +kernel
theorem open_is : Str.ofString "(" = ⟨#[40]⟩ := by decide +kernel
theorem shut_is : Str.ofString ")" = ⟨#[41]⟩ := by decide +kernel
theorem nl_yes {c : Nat} (h : ((⟨#[c]⟩ : Str) == Str.ofString "\n") = true) : c = 10 := by rw [nl_is, one_beq] at h; simpa using h
theorem nl_no {c : Nat} (h : ((⟨#[c]⟩ : Str) == Str.ofString "\n") = false) : c ≠ 10 := by rw [nl_is, one_beq] at h; simpa using h
theorem back_yes {c : Nat} (h : ((⟨#[c]⟩ : Str) == Str.ofString "\\") = true) : c = 92 := by rw [back_is, one_beq] at h; simpa using h
theorem back_no {c : Nat} (h : ((⟨#[c]⟩ : Str) == Str.ofString "\\") = false) : c ≠ 92 := by rw [back_is, one_beq] at h; simpa using h
theorem kl_last_app (ws : List Value) (v : Value) : kl_last (ws ++ [v]).toArray.toList = some (ws, v) := by
  show kl_last (ws ++ [v]) = _
  exact kpa_last v ws
section
variable {prog : Program} {w : World} {A : Around} {E : Value → Shared → Prop} {s : Shared} {h₀ : Heap} {L : Addr} {m : Str → Option Value} {news : List (Addr × Obj)}
theorem truthy_list_K {l : Addr} {vs : List Value} {n : Nat} {Q : Bool → Shared → Prop} (N : News h₀ L s.heap news) (hm : (l, W.listOf vs.toArray n) ∈ news) (hz : vs.length < 2 ^ 62)
    (h : Q (!vs.isEmpty) { s with toks := s.toks + 1 + 1 }) : wpAny (model prog w) A (truthy (.ref l)) Q E s :=
  wpAny_truthy_list (News.isList N hm) (by rw [List.size_toArray]; omega) (by simpa using h)
theorem truthy_app_K {l : Addr} {ws : List Value} {v : Value} {n : Nat} {Q : Bool → Shared → Prop} (N : News h₀ L s.heap news) (hm : (l, W.listOf (ws ++ [v]).toArray n) ∈ news) (hz : ws.length < 1000000)
    (h : Q true { s with toks := s.toks + 1 + 1 }) : wpAny (model prog w) A (truthy (.ref l)) Q E s :=
  truthy_list_K N hm (by simp only [List.length_append, List.length_cons, List.length_nil]; omega) (by
    have e : (!(ws ++ [v]).isEmpty) = true := by cases ws <;> rfl
    rw [e]; exact h)
end
end Mine
end
section
open PySem PySem.W PyProof.Rows PySem.Calls PySem.Spec
set_option maxRecDepth 100000
namespace Mine
theorem slot_ci_next : Slot "callable_iterator" "__next__" "callable_iterator.__next__" :=
  .of (owner := "callable_iterator") (n := "__next__") (by rw [typeLookup_type, builtinLookup_eq_fast]; kernel_rfl) (by decide +kernel) (by decide +kernel) (by decide +kernel)
    (by first | exact .inl (by decide +kernel) | exact .inr (by decide +kernel)) (by rw [isSubtype_type]; kernel_rfl)
theorem entry_ci_next : entryFor table "callable_iterator.__next__" = some Builtin.«callable_iterator.__next__» := entryFor_of_fast (by kernel_rfl)
theorem args_ci_next (a : Value) : argsOk "callable_iterator.__next__" ⟨[a], []⟩ := by unfold argsOk; kernel_rfl
noncomputable abbrev ciObj (q : Addr) (sen : Str) (ts : Tok) : Obj := { cls := .type "callable_iterator", data := .fields #[.ref q, .str sen ts, .bool false] }
section
variable {prog : Program} {w : World} {A : Around} {E : Value → Shared → Prop} {s : Shared}
theorem borrows_method {q f : Addr} {self : Value} {fo : Obj} {fd : FuncData} {Q : Bool → Shared → Prop}
    (hq : s.heap.get? q = some (methodObj (.ref f) self)) (hf : s.heap.get? f = some fo) (hfd : fo.data = .func fd) (h : Q true s) :
    wpAny (model prog w) A (borrowsExactly (.ref q)) Q E s := by
  unfold borrowsExactly
  refine wpAny_bind (wpAny_load hq ?_)
  show wpAny _ _ (load f >>= _) _ _ s
  refine wpAny_bind (wpAny_load hf ?_)
  rw [hfd]
  exact wpAny_pure h
theorem next_ci {it q f : Addr} {self : Value} {sen : Str} {ts : Tok} {fo : Obj} {fd : FuncData} {Q : Option Value → Shared → Prop} (hh : A.handled = none)
    (ho : s.heap.get? it = some (ciObj q sen ts)) (hq : s.heap.get? q = some (methodObj (.ref f) self)) (hf : s.heap.get? f = some fo) (hfd : fo.data = .func fd)
    (hc : codeAny (model prog w) A.in1 (.call (.ref f) ⟨[self], []⟩) (fun r s' => ∃ x t, r = .ok (.ret (.str x t)) ∧ s'.heap.get? it = some (ciObj q sen ts) ∧ s'.heap.get? q = some (methodObj (.ref f) self) ∧ s'.heap.get? f = some fo ∧
      (x ≠ sen → Q (some (.str x t)) s') ∧ (x = sen → ∀ h', (∀ b o, b ≠ it → s'.heap.get? b = some o → h'.get? b = some o) → Q none { s' with heap := h' })) s) :
    wpAny (model prog w) A (pyNext (.ref it)) Q E s := by
  have hT : s.TypeIs (.ref it) "callable_iterator" := ⟨_, ho, rfl⟩
  unfold pyNext
  refine wpAny_bind (wpAny_attempt (wpAny_callSpecial?_slot (name := Str.ofString "__next__") hT slot_ci_next
    (wpAny_call_entry slot_ci_next hT entry_ci_next ?_ (args_ci_next _))))
  show wpAny _ _ (field (.ref it) 2 >>= _) _ _ s
  refine wpAny_bind (wpAny_field ho rfl (x := .bool false) rfl ?_)
  show wpAny _ _ (field (.ref it) 0 >>= _) _ _ s
  refine wpAny_bind (wpAny_field ho rfl (x := .ref q) rfl ?_)
  show wpAny _ _ ((callOutOfASlot (.ref q)).attempt >>= _) _ _ s
  refine wpAny_bind (wpAny_attempt ?_)
  unfold callOutOfASlot
  refine wpAny_bind (borrows_method hq hf hfd ?_)
  show wpAny _ _ (callBorrowed (.ref q)) _ _ s
  unfold callBorrowed
  refine PySem.W.X.x_call (codeAny_mono (method_call hq hc) ?_) (by intro x; cases x)
  rintro r s' ⟨x, t, rfl, ho', hq', hf', h1, h2⟩
  refine wpAny_pure ?_
  show wpAny _ _ (field (.ref it) 2 >>= _) _ _ s'
  refine wpAny_bind (wpAny_field ho' rfl (x := .bool false) rfl ?_)
  show wpAny _ _ (field (.ref it) 1 >>= _) _ _ s'
  refine wpAny_bind (wpAny_field ho' rfl (x := .str sen ts) rfl ?_)
  refine wpAny_bind (wpAny_holding (wpAny_eqBool_str ?_))
  by_cases hx : sen = x
  · rw [decide_eq_true hx]
    show wpAny _ _ (rule _ >>= _) _ _ s'
    refine wpAny_bind (wpAny_rule (wpAny_bind ?_))
    show wpAny _ _ (field (.ref it) 0 >>= _) _ _ s'
    refine wpAny_bind (wpAny_field ho' rfl (x := .ref q) rfl ?_)
    show wpAny _ _ (slotLetsGo _ (.ref q) _ >>= _) _ _ s'
    refine wpAny_bind ?_
    unfold slotLetsGo
    refine wpAny_bind (borrows_method hq' hf' hfd ?_)
    refine wpAny_pure ?_
    refine wpAny_bind (wpAny_setField ho' rfl (by simp) ?_)
    have g1 : (s'.heap.update it (Obj.mapFields (·.setIfInBounds 0 .none))).get? it = some { cls := .type "callable_iterator", data := .fields #[.none, .str sen ts, .bool false] } := Heap.get?_update_self _ ho' rfl
    refine wpAny_bind (wpAny_setField g1 rfl (by simp) ?_)
    have g2 : ((s'.heap.update it (Obj.mapFields (·.setIfInBounds 0 .none))).update it (Obj.mapFields (·.setIfInBounds 1 .none))).get? it = some { cls := .type "callable_iterator", data := .fields #[.none, .none, .bool false] } := Heap.get?_update_self _ g1 rfl
    refine wpAny_setField g2 rfl (by simp) ?_
    show wpAny _ _ (newExc (.type "StopIteration") [] >>= _) _ _ _
    refine wpAny_bind ?_
    simp only [newExc, newTuple]
    refine wpAny_bind (wpAny_newObj_type ?_ (by size_fits))
    refine wpAny_bind (m := firstArgMember _ _) (wpAny_of_eq (a := Value.none) (by first | rfl | (simp only [firstArgMember]; rfl)) ?_)
    refine wpAny_newObj_type ?_ (by size_fits)
    simp only [raiseNew]
    refine wpAny_bind (wpAny_handled ?_)
    rw [show A.in1.handled = none from hh]
    refine wpAny_bind (wpAny_pure (wpAny_throw ?_))
    refine wpAny_bind (wpAny_isInstance (T := "StopIteration") (b := true) ⟨_, Heap.get?_push_size _ rfl, rfl⟩ isSubtype_stop ?_)
    refine wpAny_pure (h2 hx.symm _ fun b o hb e => ?_)
    refine Heap.get?_push_of_some _ (Heap.get?_push_of_some _ ?_)
    rw [Heap.get?_update_other _ _ (Ne.symm hb), Heap.get?_update_other _ _ (Ne.symm hb), Heap.get?_update_other _ _ (Ne.symm hb)]
    exact e
  · rw [decide_eq_false hx]
    exact wpAny_pure ⟨_, rfl, wpAny_pure (h1 (Ne.symm hx))⟩
theorem kind_iter : builtinKind "iter" = none := by decide +kernel
theorem plain_iter : plainId "iter" = true := by decide +kernel
theorem entry_iter : entryFor table "iter" = some Builtin.«iter» := entryFor_of_fast (by kernel_rfl)
theorem method_call_look : typeLookup (.type "method") "__call__" = pure (some (.builtin "method.__call__")) := (by rw [typeLookup_type, builtinLookup_eq_fast]; kernel_rfl)
theorem iter_ci_K {h₀ : Heap} {L : Addr} {m : Str → Option Value} {news : List (Addr × Obj)} {q f : Addr} {self : Value} {sen : Str} {ts : Tok} {Q : Value → Shared → Prop} (F : Fr h₀ L s.heap m) (N : News h₀ L s.heap news) (hq : (q, methodObj (.ref f) self) ∈ news)
    (h : ∀ I h', Fr h₀ L h' m → News h₀ L h' ((I, ciObj q sen ts) :: news) → (∀ p ∈ news, p.1 < I) → Q (.ref I) { s with heap := h' }) :
    wpAny (model prog w) A (call (.builtin "iter") [.ref q, .str sen ts]) Q E s := by
  refine Calls.call_function_entry kind_iter plain_iter entry_iter (by unfold argsOk; kernel_rfl) ?_
  have hv := method_call_look
  unfold Builtin.«iter»
  refine wpAny_bind (wpAny_pure ?_)
  refine wpAny_bind (wpAny_specialOf (T := "method") ⟨_, N.get hq, rfl⟩ hv ?_)
  show wpAny _ _ (rule _ >>= _) _ _ s
  refine wpAny_bind (wpAny_rule (wpAny_bind ?_))
  refine wpAny_newObj_type (wpAny_pure ?_) (by size_fits)
  exact ⟨_, rfl, h _ _ (F.push _) (N.push F _) fun p hp => Heap.lt_size (N p hp).1⟩
end
end Mine
end
section
open PySem PySem.W PyProof.Rows PySem.Calls PySem.Spec
set_option maxRecDepth 100000
namespace Mine
section
variable {prog : Program} {w : World} {A : Around} {R : Result → Shared → Prop} {s : Shared} {target : PySem.Expr} {it : Value} {body orelse : List Stmt} {env : Env}
theorem for_turn
    (h : wpAny (model prog w) A (pyNext it) (fun r s₁ => match r with
      | none => wpAny (model prog w) A (execs orelse env) (fun f s₃ => R (.ok f) s₃) (notedBy (model prog w) A env fun e s' => R (.error e) s') s₁
      | some v => wpAny (model prog w) A (assign target env v) (fun _ s₂ => wpAny (model prog w) A (execs body env) (fun f s₃ => match f with
          | .next | .cont => codeAny (model prog w) A (.forLoop target it body orelse env) R s₃
          | .brk => R (.ok .next) s₃
          | .ret v => R (.ok (.ret v)) s₃) (notedBy (model prog w) A env fun e s' => R (.error e) s') s₂) (notedBy (model prog w) A env fun e s' => R (.error e) s') s₁) (notedBy (model prog w) A env fun e s' => R (.error e) s') s)
    (ht : ∀ v, letOwnedTupleGo target it v = pure () := by intro _; rfl) : codeAny (model prog w) A (.forLoop target it body orelse env) R s := by
  refine codeAny_loop' rfl (fun _ s' => s' = s) (fun n s' e => ?_) 0 rfl
  subst e
  show wpAny _ _ ((forTurn target it body orelse env).onRaise (fun x => do noteFrame x env; theTreesLotGoes x)) _ _ s'
  refine wpAny_noted ?_
  simp only [forTurn]
  refine wpAny_bind (wpAny_standAt (wpAny_bind (wpAny_onRaise (wpAny_mono h (fun r s₁ h₁ => ?_) fun _ _ h' => wpAny_standAt h'))))
  cases r with
  | none => exact wpAny_pure (.inr ⟨rfl, codeAny_block h₁⟩)
  | some v =>
    refine wpAny_bind (wpAny_of_eq (ht v) ?_)
    refine wpAny_bind (wpAny_mono h₁ (fun _ s₂ h₂ => wpAny_bind (wpAny_mono h₂ (fun f s₃ h₃ => ?_) fun _ _ h' => h')) fun _ _ h' => h')
    cases f with
    | next => exact wpAny_pure (.inr ⟨rfl, h₃⟩)
    | cont => exact wpAny_pure (.inr ⟨rfl, h₃⟩)
    | brk => exact wpAny_pure h₃
    | ret v => exact wpAny_pure h₃
theorem slot_ci_iter : Slot "callable_iterator" "__iter__" "callable_iterator.__iter__" :=
  .of (owner := "callable_iterator") (n := "__iter__") (by rw [typeLookup_type, builtinLookup_eq_fast]; kernel_rfl) (by decide +kernel) (by decide +kernel) (by decide +kernel)
    (by first | exact .inl (by decide +kernel) | exact .inr (by decide +kernel)) (by rw [isSubtype_type]; kernel_rfl)
theorem entry_ci_iter : entryFor table "callable_iterator.__iter__" = some Builtin.«dict_keyiterator.__iter__» :=
  entryFor_alias (id' := "dict_keyiterator.__iter__") (by kernel_rfl) rfl (by decide +kernel) (by kernel_rfl)
theorem args_ci_iter (a : Value) : argsOk "callable_iterator.__iter__" ⟨[a], []⟩ := by unfold argsOk; kernel_rfl
theorem pyIter_ci {I q : Addr} {sen : Str} {ts : Tok} {Q : Value → Shared → Prop} {E : Value → Shared → Prop} (ho : s.heap.get? I = some (ciObj q sen ts)) (h : Q (.ref I) s) :
    wpAny (model prog w) A (pyIter (.ref I)) Q E s := by
  have hT : s.TypeIs (.ref I) "callable_iterator" := ⟨_, ho, rfl⟩
  refine wpAny_pyIter_slot hT slot_ci_iter (wpAny_call_entry slot_ci_iter hT entry_ci_iter ?_ (args_ci_iter _))
  show wpAny _ _ (ret (.ref I)) _ _ s
  exact wpAny_pure ⟨_, rfl, "callable_iterator", _, hT, slot_ci_next.lookup, h⟩
end
theorem ite_is {b : Bool} {P Q : Prop} (h : b = true) (p : P) : if b = true then P else Q := by rw [if_pos h]; exact p
theorem ite_not {b : Bool} {P Q : Prop} (h : b = false) (q : Q) : if b = true then P else Q := by rw [if_neg (by rw [h]; exact Bool.false_ne_true)]; exact q
theorem mem_swap2 {α : Type} {a b : α} {l rest : List α} : ∀ p ∈ l ++ a :: b :: rest, p ∈ a :: b :: (l ++ rest) := by
  intro p hp
  rcases List.mem_append.mp hp with h | h
  · exact .tail _ (.tail _ (List.mem_append_left _ h))
  · cases h with
    | head => exact .head _
    | tail _ h => cases h with
      | head => exact .tail _ (.head _)
      | tail _ h => exact .tail _ (.tail _ (List.mem_append_right _ h))
noncomputable def Halt (P : Prop) : Prop := P
theorem Halt.of {P : Prop} (h : Halt P) : P := h
theorem Halt.mk {P : Prop} (h : P) : Halt P := h
theorem cat_one (tok : List Nat) (c : Nat) : (⟨tok.toArray⟩ : Str) ++ ⟨#[c]⟩ = ⟨(tok ++ [c]).toArray⟩ := by
  show Str.append _ _ = _
  unfold Str.append
  simp
theorem iadd_one {prog : Program} {w : World} {A : Around} {E : Value → Shared → Prop} {s : Shared} {tok : List Nat} {c : Nat} {t u : Tok} {Q : Value → Shared → Prop} (hz : tok.length < 100000)
    (h : ∀ t' k, Q (.str ⟨(tok ++ [c]).toArray⟩ t') { s with toks := k }) : wpAny (model prog w) A (inplaceOp .Add (.str ⟨tok.toArray⟩ t) (.str ⟨#[c]⟩ u)) Q E s :=
  SB.iadd (by rw [cat_one]; exact h) (by rw [sizeLine_eq]; show (tok.toArray).size + (#[c]).size ≤ _; simp; omega)
theorem fr_cast {h₀ h : Heap} {L : Addr} {m m' : Str → Option Value} (F : Fr h₀ L h m) (e : ∀ y, m y = m' y) : Fr h₀ L h m' := by
  have : m = m' := funext e
  subst this; exact F
theorem fn_of {K : Frag} {a : Addr} {o : Obj} {fd : FuncData} (h1 : K.lookup a = some o) (h2 : o.data = .func fd) : ∃ o fd, K.lookup a = some o ∧ o.data = .func fd := ⟨o, fd, h1, h2⟩
noncomputable def clsBody : Stmt → List Stmt | .ClassDef _ _ _ b _ _ _ _ _ _ _ => b | _ => []
noncomputable def forBody : Stmt → List Stmt | .For _ _ b _ _ => b | _ => []
noncomputable def forTarget : Stmt → PySem.Expr | .For t _ _ _ _ => t | _ => default
noncomputable def ifThen : Stmt → List Stmt | .If _ b _ _ => b | _ => []
noncomputable def ifElse : Stmt → List Stmt | .If _ _ b _ => b | _ => []
noncomputable def gtStmt : Stmt := sAt (clsBody (sAt PP.main.body 1)) 2
noncomputable def gtFor : Stmt := sAt (fdBody gtStmt) 3
noncomputable def gtQ : Stmt := sAt (ifThen (sAt (forBody gtFor) 1)) 0
noncomputable def gtB : Stmt := sAt (ifElse (sAt (forBody gtFor) 1)) 2

noncomputable def isWs (c : Nat) : Bool := c == 10 || c == 9 || c == 13 || c == 32
theorem ws_is : Str.ofString "\n\t\x0d " = ⟨#[10, 9, 13, 32]⟩ := by decide +kernel
theorem ws_has (c : Nat) : (!(Builtin.Str.occurrences (Str.ofString "\n\t\x0d ") ⟨#[c]⟩ 0 (Str.ofString "\n\t\x0d ").length 1).isEmpty) = isWs c := by
  rw [StrLaws.found_one, ws_is]
  unfold isWs
  rw [Bool.eq_iff_iff]
  simp [or_assoc]
noncomputable def lexQ : List Nat → List Nat → Option (List Nat × List Nat)
  | _, [] => none
  | tok, c :: r => if c = 34 then some (tok, r) else if c = 92 then (match r with | [] => none | d :: r => lexQ (tok ++ [d]) r) else lexQ (tok ++ [c]) r
noncomputable def lexB : List Nat → List Nat → Option (List Nat × List Nat)
  | _, [] => none
  | tok, c :: r => if isWs c = true then some (tok, r) else if c = 92 then (match r with | [] => none | d :: r => lexB (tok ++ [d]) r) else lexB (tok ++ [c]) r
noncomputable def lexO : List Nat → Option (List Nat × List Nat)
  | [] => some ([], [])
  | c :: r => if isWs c = true then lexO r else if c = 34 then lexQ [] r else if c = 92 then (match r with | [] => none | d :: r => lexB [d] r) else lexB [c] r
noncomputable def nls (cs : List Nat) : Int := ((cs.filter (· == 10)).length : Nat)
theorem nls_nil : nls [] = 0 := rfl
theorem nls_cons (c : Nat) (r : List Nat) : nls (c :: r) = (if c = 10 then 1 else 0) + nls r := by
  unfold nls
  rw [List.filter_cons]
  by_cases h : c = 10
  · simp [h]; omega
  · simp [h]
end Mine
end
theorem Mine.calmCRead : True := by w_top off; first | walk1 | trivial
section
open PySem PySem.W PyProof.Rows PySem.Calls PySem.Spec
set_option maxRecDepth 100000
namespace Mine
def m9e13 : Lean.MacroM (Lean.TSyntax `tactic) := Mine.t9kw "PySem.W.tacticK_asm k_asm"
def m9e14 : Lean.MacroM (Lean.TSyntax `tactic) := Mine.t9kw "PySem.W.tacticK_mem k_mem"
def m9l4 : Lean.MacroM (Lean.TSyntax `tactic) := `(tactic| omega)
def m9e15 : Lean.MacroM (Lean.TSyntax `tactic) := Mine.t9kw "PySem.W.tacticK_whole k_whole"
def m9k4 : Lean.MacroM (Lean.TSyntax `tactic) := Mine.t9dflt (Mine.t9seq [Mine.t9ref "truthy_app_K" "N m z _", Mine.t9case "N" (Mine.m9e13), Mine.t9case "m" (Mine.m9e14), Mine.t9case "z" (Mine.m9l4), Mine.m9e15])
def m9e16 : Lean.MacroM (Lean.TSyntax `tactic) := Mine.t9kw "PySem.W.tacticK_upd k_upd"
def m9e17 : Lean.MacroM (Lean.TSyntax `tactic) := Mine.t9ex "kl_last_app _ _" []
def m9e18 : Lean.MacroM (Lean.TSyntax `tactic) := Mine.t9rw "sizeLine_eq"
def m9e19 : Lean.MacroM (Lean.TSyntax `tactic) := Mine.t9simp "List.toList_toArray List.length_append List.length_cons List.length_nil" ""
def m9e20 : Lean.MacroM (Lean.TSyntax `tactic) := Mine.t9dsimp "~N'"
def m9k5 : Lean.MacroM (Lean.TSyntax `tactic) := Mine.t9seq [Mine.t9dflt (Mine.t9seq [Mine.t9ref "kl_pop" "F N e U z _", Mine.t9case "F" (Mine.m9e13), Mine.t9case "N" (Mine.m9e13), Mine.t9case "U" (Mine.m9e16), Mine.t9case "e" (Mine.m9e17), Mine.t9case "z" (Mine.t9seq [Mine.m9e18, Mine.m9e19, Mine.m9l4]), Mine.m9e15]), Mine.t9intro "h' F' N'", Mine.t9try (Mine.m9e20)]
local macro_rules | `(tactic| walk_at $s) => Mine.mw s [("truthy ref", Mine.m9k4), ("call builtin:list.pop", Mine.m9k5)]
set_option maxHeartbeats 8000000 in
theorem c_read_cons (w : World) (x : LxC) (vs : Array Value) (tq : Tok) (pb : List Value) (np : Nat) (ln : Int) (tl : Tok) (us : List Value) (ng : Nat) (rest : List (Addr × Obj)) (cs : List Nat) (c : Nat) :
   CC 20 w 35 (x.news w pb np ln tl us ng ++ rest) (x.Ok vs tq ∧ SV us (cs ++ [c]) ∧ cs.length < 400 ∧ 0 ≤ ln ∧ ln < 1000 ∧ (∀ p ∈ rest, p.1 ≠ x.G) ∧ (∀ p ∈ rest, p.1 ≠ x.dD)) [.ref x.D]
     (fun v news' => ∃ t tl' us' , v = .str ⟨#[c]⟩ t ∧ SV us' cs ∧ news' = x.news w pb np (if c = 10 then ln + 1 else ln) tl' us' (ng + 1) ++ rest) := by
  have l9 : Mine.Lead9 := trivial
  have l0 : Mine.Lead0 := trivial
  revert w x vs tq pb np ln tl us ng rest cs c
  intro w x vs tq pb np ln tl us ng rest cs c
  rename Mine.Lead0 => l0; clear l0
  dsimp only [CC, PP, KK]
  k_fill
  intro loose mean mg mb dp un gd cn cs' a ccd cl outer A₀ base h₀ L m s Q B F X N T hk hp hd hu hb hret
  obtain ⟨⟨o1, o2, o3, o4, o5, o6, o7, o8, o9, cg, cell, code, qual⟩, sv, hlen, l0, l1, hG, hD⟩ := hp
  obtain ⟨ws, t, rfl, sw⟩ := sv.last
  have hwl : ws.length < 400 := by rw [sw.length]; exact hlen
  have C0 := codeHd_of_K (c := 127) (P := 123) X (by kernel_rfl)
  obtain ⟨P, D, dD, f, c', P2, S, dS, G, C, doc, pm, ct, oc, oC, t1, t2, t3, t4, tw, u1, u2, u3, u4, u5, ul, uw⟩ := x
  simp only [LxC.news, List.cons_append, List.nil_append, pieceFn] at *
  generalize hb1 : fdBody pieceStmt = body at N
  generalize hb2 : fdParams pieceStmt = params at N
  generalize hb3 : fdScope pieceStmt = scope at N
  conv at hb1 => { lhs; whnf }
  conv at hb2 => { lhs; whnf }
  conv at hb3 => { lhs; whnf }
  subst hb1 hb2 hb3
  have key : ∀ (ln' : Int) (tl' : Tok) (s' : Shared), ln' = (if c = 10 then ln + 1 else ln) → Fr h₀ L s'.heap m →
      News h₀ L s'.heap (LxC.news w ⟨P, D, dD, f, c', P2, S, dS, G, C, doc, pm, ct, oc, oC, t1, t2, t3, t4, tw, u1, u2, u3, u4, u5, ul, uw⟩ pb np ln' tl' ws (ng + 1) ++ rest) → s'.gens = s.gens → s'.os = s.os → Q (.ok (.ret (.str ⟨#[c]⟩ t))) s' := by
    intro ln' tl' s' e F' N' hg ho
    exact hret _ _ s' ⟨t, tl', ws, rfl, sw, by rw [← e]; rfl⟩ F' N' (hg ▸ hb) ho
  clear hret
  k_dflt cell_enter
  k_steps
  all_goals first
    | exact key _ _ _ (if_pos (nl_yes (by with_reducible assumption))).symm (by k_asm) (by k_asm) rfl rfl
    | exact key _ _ _ (if_neg (nl_no (by with_reducible assumption))).symm (by k_asm) (by k_asm) rfl rfl
end Mine
end
theorem Mine.calmCReadN : True := by w_top off; first | walk1 | trivial
section
open PySem PySem.W PyProof.Rows PySem.Calls PySem.Spec
set_option maxRecDepth 100000
namespace Mine
set_option maxHeartbeats 8000000 in
theorem c_read_nil (w : World) (x : LxC) (vs : Array Value) (tq : Tok) (pb : List Value) (np : Nat) (ln : Int) (tl : Tok) (ng : Nat) (rest : List (Addr × Obj)) :
   CC 20 w 35 (x.news w pb np ln tl [] ng ++ rest) (x.Ok vs tq ∧ 0 ≤ ln ∧ ln < 1000 ∧ (∀ p ∈ rest, p.1 ≠ x.G) ∧ (∀ p ∈ rest, p.1 ≠ x.dD)) [.ref x.D]
     (fun v news' => (∃ t, v = .str (Str.ofString "") t) ∧ news' = x.news w pb np ln tl [] ng ++ rest) := by
  have l9 : Mine.Lead9 := trivial
  have l0 : Mine.Lead0 := trivial
  revert w x vs tq pb np ln tl ng rest
  intro w x vs tq pb np ln tl ng rest
  rename Mine.Lead0 => l0; clear l0
  dsimp only [CC, PP, KK]
  k_fill
  intro loose mean mg mb dp un gd cn cs' a ccd cl outer A₀ base h₀ L m s Q B F X N T hk hp hd hu hb hret
  obtain ⟨⟨o1, o2, o3, o4, o5, o6, o7, o8, o9, cg, cell, code, qual⟩, l0, l1, hG, hD⟩ := hp
  have C0 := codeHd_of_K (c := 127) (P := 123) X (by kernel_rfl)
  obtain ⟨P, D, dD, f, c', P2, S, dS, G, C, doc, pm, ct, oc, oC, t1, t2, t3, t4, tw, u1, u2, u3, u4, u5, ul, uw⟩ := x
  simp only [LxC.news, List.cons_append, List.nil_append, pieceFn] at *
  generalize hb1 : fdBody pieceStmt = body at N
  generalize hb2 : fdParams pieceStmt = params at N
  generalize hb3 : fdScope pieceStmt = scope at N
  conv at hb1 => { lhs; whnf }
  conv at hb2 => { lhs; whnf }
  conv at hb3 => { lhs; whnf }
  subst hb1 hb2 hb3
  have key : ∀ (t : Tok) (s' : Shared), Fr h₀ L s'.heap m →
      News h₀ L s'.heap (LxC.news w ⟨P, D, dD, f, c', P2, S, dS, G, C, doc, pm, ct, oc, oC, t1, t2, t3, t4, tw, u1, u2, u3, u4, u5, ul, uw⟩ pb np ln tl [] ng ++ rest) → s'.gens = s.gens → s'.os = s.os → Q (.ok (.ret (.str (Str.ofString "") t))) s' := by
    intro t s' F' N' hg ho
    exact hret _ _ s' ⟨⟨t, rfl⟩, rfl⟩ F' N' (hg ▸ hb) ho
  clear hret
  k_dflt cell_enter
  k_steps
  all_goals (try w_report)
  all_goals exact key _ _ (by k_asm) (by k_asm) rfl rfl
end Mine
end
section
open PySem PySem.W PyProof.Rows PySem.Calls PySem.Spec
set_option maxRecDepth 100000
namespace Mine
section
variable {x : LxC} {vs : Array Value} {tq : Tok} (ok : x.Ok vs tq)
include ok
theorem LxC.Ok.lD : @LT.lt Nat _ x.D x.P := ok.o9
theorem LxC.Ok.ldD : @LT.lt Nat _ x.dD x.P := Nat.lt_trans ok.o8 ok.lD
theorem LxC.Ok.lf : @LT.lt Nat _ x.f x.P := Nat.lt_trans ok.o7 ok.ldD
theorem LxC.Ok.lc : @LT.lt Nat _ x.c' x.P := Nat.lt_trans ok.o6 ok.lf
theorem LxC.Ok.lP2 : @LT.lt Nat _ x.P2 x.P := Nat.lt_trans ok.o5 ok.lf
theorem LxC.Ok.lS : @LT.lt Nat _ x.S x.P := Nat.lt_trans ok.o4 ok.lP2
theorem LxC.Ok.ldS : @LT.lt Nat _ x.dS x.P := Nat.lt_trans ok.o3 ok.lS
theorem LxC.Ok.lG : @LT.lt Nat _ x.G x.P := Nat.lt_trans ok.o2 ok.ldS
theorem LxC.Ok.lC : @LT.lt Nat _ x.C x.P := Nat.lt_trans ok.o1 ok.lG
theorem news_below (w : World) (a : Addr) (h : @LT.lt Nat _ x.P a) (pb : List Value) (np : Nat) (ln : Int) (tl : Tok) (us : List Value) (ng : Nat) : ∀ p ∈ x.news w pb np ln tl us ng, p.1 ≠ a := by
  simp only [LxC.news]
  exact List.forall_mem_cons.mpr ⟨neN (Nat.ne_of_lt h), List.forall_mem_cons.mpr ⟨neN (Nat.ne_of_lt (Nat.lt_trans ok.lD h)), List.forall_mem_cons.mpr ⟨neN (Nat.ne_of_lt (Nat.lt_trans ok.ldD h)), List.forall_mem_cons.mpr ⟨neN (Nat.ne_of_lt (Nat.lt_trans ok.lf h)), List.forall_mem_cons.mpr ⟨neN (Nat.ne_of_lt (Nat.lt_trans ok.lc h)), List.forall_mem_cons.mpr ⟨neN (Nat.ne_of_lt (Nat.lt_trans ok.lP2 h)), List.forall_mem_cons.mpr ⟨neN (Nat.ne_of_lt (Nat.lt_trans ok.lS h)), List.forall_mem_cons.mpr ⟨neN (Nat.ne_of_lt (Nat.lt_trans ok.ldS h)), List.forall_mem_cons.mpr ⟨neN (Nat.ne_of_lt (Nat.lt_trans ok.lG h)), List.forall_mem_cons.mpr ⟨neN (Nat.ne_of_lt (Nat.lt_trans ok.lC h)), fun p hp => absurd hp List.not_mem_nil⟩⟩⟩⟩⟩⟩⟩⟩⟩⟩
theorem LxC.Ok.uG : @LT.lt Nat _ x.C x.G := ok.o1
theorem LxC.Ok.udS : @LT.lt Nat _ x.C x.dS := Nat.lt_trans ok.uG ok.o2
theorem LxC.Ok.uS : @LT.lt Nat _ x.C x.S := Nat.lt_trans ok.udS ok.o3
theorem LxC.Ok.uP2 : @LT.lt Nat _ x.C x.P2 := Nat.lt_trans ok.uS ok.o4
theorem LxC.Ok.uf : @LT.lt Nat _ x.C x.f := Nat.lt_trans ok.uP2 ok.o5
theorem LxC.Ok.udD : @LT.lt Nat _ x.C x.dD := Nat.lt_trans ok.uf ok.o7
theorem LxC.Ok.uD : @LT.lt Nat _ x.C x.D := Nat.lt_trans ok.udD ok.o8
theorem LxC.Ok.uP : @LT.lt Nat _ x.C x.P := Nat.lt_trans ok.uD ok.o9
theorem news_over (w : World) (a : Addr) (h : @LT.lt Nat _ a x.C) (hc : @Ne Nat x.c' a) (pb : List Value) (np : Nat) (ln : Int) (tl : Tok) (us : List Value) (ng : Nat) : ∀ p ∈ x.news w pb np ln tl us ng, p.1 ≠ a := by
  simp only [LxC.news]
  exact List.forall_mem_cons.mpr ⟨neN (Nat.ne_of_gt (Nat.lt_trans h ok.uP)), List.forall_mem_cons.mpr ⟨neN (Nat.ne_of_gt (Nat.lt_trans h ok.uD)), List.forall_mem_cons.mpr ⟨neN (Nat.ne_of_gt (Nat.lt_trans h ok.udD)), List.forall_mem_cons.mpr ⟨neN (Nat.ne_of_gt (Nat.lt_trans h ok.uf)), List.forall_mem_cons.mpr ⟨neN hc, List.forall_mem_cons.mpr ⟨neN (Nat.ne_of_gt (Nat.lt_trans h ok.uP2)), List.forall_mem_cons.mpr ⟨neN (Nat.ne_of_gt (Nat.lt_trans h ok.uS)), List.forall_mem_cons.mpr ⟨neN (Nat.ne_of_gt (Nat.lt_trans h ok.udS)), List.forall_mem_cons.mpr ⟨neN (Nat.ne_of_gt (Nat.lt_trans h ok.uG)), List.forall_mem_cons.mpr ⟨neN (Nat.ne_of_gt h), fun p hp => absurd hp List.not_mem_nil⟩⟩⟩⟩⟩⟩⟩⟩⟩⟩
end
end Mine
end
theorem Mine.calmLoopQ : True := by w_top off; first | walk1 | trivial
section
open PySem PySem.W PyProof.Rows PySem.Calls PySem.Spec
set_option maxRecDepth 100000
namespace Mine
def m9e21 : Lean.MacroM (Lean.TSyntax `tactic) := Mine.t9rf "ite_not %0 ?_" [(Mine.t9red (Mine.m9l3))]
def m9e22 : Lean.MacroM (Lean.TSyntax `tactic) := Mine.t9rf "ite_is %0 ?_" [(Mine.t9red (Mine.m9l3))]
def m9k6 : Lean.MacroM (Lean.TSyntax `tactic) := Mine.t9first [Mine.m9e21, Mine.m9e22]
def m9e23 : Lean.MacroM (Lean.TSyntax `tactic) := Mine.t9rf "Halt.of ?_" []
def m9k7 : Lean.MacroM (Lean.TSyntax `tactic) := Mine.t9seq [Mine.t9call "35", Mine.m9e23]
def m9k8 : Lean.MacroM (Lean.TSyntax `tactic) := do
  let t9 := Lean.mkIdent `t9
  `(tactic| (k_dflt (refine' iadd_one ?z ?_; (case z => omega)); intro $t9:ident k'))
local macro_rules | `(tactic| walk_at $s) => Mine.mw s [("ite", Mine.m9k6), ("call ref", Mine.m9k7), ("inplaceOp Add str str", Mine.m9k8)]
noncomputable abbrev gtName : Str := Str.ofString "_netrclex.get_token"
noncomputable abbrev gtEnv (L : Addr) : Env := envOf gtName (fdScope gtStmt) L 42 (.ref 41)
noncomputable abbrev gtMap (D I : Addr) (tok : List Nat) (t0 : Tok) (ch : Option Value) : Str → Option Value := fun y =>
  if y = Str.ofString "token" then some (.str ⟨tok.toArray⟩ t0) else if y = Str.ofString "ch" then ch else if y = Str.ofString "fiter" then some (.ref I) else if y = Str.ofString "self" then some (.ref D) else none
structure GtIn (w : World) (x : LxC) (rest : List (Addr × Obj)) (q I : Addr) (cs : List Nat) (us : List Value) (ln : Int) : Prop where
  sv : SV us cs.reverse
  len : cs.length < 400
  l0 : 0 ≤ ln
  l1 : ln + cs.length < 1000
  hG : ∀ p ∈ rest, p.1 ≠ x.G
  hD : ∀ p ∈ rest, p.1 ≠ x.dD
  q0 : @LT.lt Nat _ x.P q
  q1 : @LT.lt Nat _ q I
set_option maxHeartbeats 8000000 in
theorem loopQ (w : World) (x : LxC) (vs : Array Value) (tq : Tok) (ok : x.Ok vs tq) (pb : List Value) (np : Nat) (rest : List (Addr × Obj)) (q I : Addr) (ts : Tok)
    (loose : List Str) (mean : ExcName → Option Value) (mg mb : Str → Option Value) (dp un : Nat) (gd : Option (List Code)) (cn : Str) (cs0 : Scope) (Lc a : Addr) (ccd : Value) (cl : List (Str × Addr)) (outer : List Env) (base g : Heap) (L : Addr) (R : Result → Shared → Prop)
    (B : Below (ktrTop dp un gd cn cs0 Lc a ccd cl outer) base (envX cn cs0 Lc a ccd cl :: outer) g) (X : (KK w).In g) (T : Top VV loose mean mg mb g) (hd : dp + 30 < recursionLimit) (hu : un + 300 < cLine) (rst tok' : List Nat) (os : OsState) :
    ∀ (n : Nat) (cs tok : List Nat) (us : List Value) (ng : Nat) (ln : Int) (tl t0 : Tok) (ch : Option Value) (s : Shared), cs.length ≤ n → lexQ tok cs = some (tok', rst) → tok.length + cs.length < 1000 → GtIn w x rest q I cs us ln →
      Fr g L s.heap (gtMap x.D I tok t0 ch) → News g L s.heap (x.news w pb np ln tl us ng ++ (I, ciObj q (Str.ofString "") ts) :: (q, methodObj (.ref 35) (.ref x.D)) :: rest) → AllBare s.gens → s.os = os →
      (∀ (s' : Shared) (us' : List Value) (ng' : Nat) (tl' t : Tok) (m' : Str → Option Value), SV us' rst.reverse → Fr g L s'.heap m' → News g L s'.heap (x.news w pb np (ln + nls cs - nls rst) tl' us' ng' ++ (I, ciObj q (Str.ofString "") ts) :: (q, methodObj (.ref 35) (.ref x.D)) :: rest) → AllBare s'.gens → s'.os = os → R (.ok (.ret (.str ⟨tok'.toArray⟩ t))) s') →
      codeAny (model PP w) ((ktrTop dp un gd cn cs0 Lc a ccd cl outer).deeper (gtEnv L)) (.forLoop (forTarget gtQ) (.ref I) (forBody gtQ) [] (gtEnv L)) R s := by
  have l9 : Mine.Lead9 := trivial
  have l0 : Mine.Lead0 := trivial
  revert ok B X T hd hu
  revert w x vs tq pb np rest q I ts loose mean mg mb dp un gd cn cs0 Lc a ccd cl outer base g L R rst tok' os
  intro w x vs tq pb np rest q I ts loose mean mg mb dp un gd cn cs0 Lc a ccd cl outer base g L R rst tok' os
  intros ok B X T hd hu
  rename Mine.Lead0 => l0; clear l0
  dsimp only [PP, KK] at *
  revert X; k_fill; intro X
  obtain ⟨fo, fd, hf35, hfd⟩ : ∃ fo fd, (Mine.hd.heap_39 w.params).lookup 35 = some fo ∧ fo.data = .func fd := by
    refine' fn_of ?h1 ?h2
    case h1 => k_is
    case h2 => exact rfl
  intro n
  induction n with
  | zero =>
    intro cs tok us ng ln tl t0 ch s hn hlex
    have : cs = [] := List.length_eq_zero_iff.mp (Nat.le_zero.mp hn)
    subst this
    cases hlex
  | succ n ih =>
    revert ih; revert n; intro n ih
    intro cs tok us ng ln tl t0 ch s hn hlex htl hin F N hb hos hret
    rcases lcases cs with e9 | e9
    · subst e9; cases hlex
    obtain ⟨c, r, e8⟩ := e9
    subst e8
    obtain ⟨sv, hlen, l0, l1, hG, hD, q0, q1⟩ := hin
    rw [List.reverse_cons] at sv
    refine for_turn (next_ci (q := q) (self := .ref x.D) (sen := Str.ofString "") (ts := ts) rfl ?_ ?_ (X.keeps F.keep _ _ hf35) hfd ?_) (fun _ => rfl)
    · exact N.get (by first | exact List.mem_append_right _ (.head _) | exact List.mem_append_right _ (.tail _ (.head _)))
    · exact N.get (by first | exact List.mem_append_right _ (.head _) | exact List.mem_append_right _ (.tail _ (.head _)))
    · refine c_read_cons w x vs tq pb np ln tl us ng ((I, ciObj q (Str.ofString "") ts) :: (q, methodObj (.ref 35) (.ref x.D)) :: rest) r.reverse c loose mean mg mb (dp + 1) (un + 4) gd gtName (fdScope gtStmt) 42 (.ref 41) [] (envX cn cs0 Lc a ccd cl :: outer) (ktrTop dp un gd cn cs0 Lc a ccd cl outer) base g L _ s _ B F X N T rfl ?_ (by omega) (by omega) hb ?_
      · refine ⟨ok, sv, by rw [List.length_reverse]; simp only [List.length_cons] at hlen; omega, l0, by omega, ?_, ?_⟩
        · have h1 := ok.o2; have h2 := ok.o3; have h3 := ok.o4; have h4 := ok.o5; have h5 := ok.o6; have h6 := ok.o7; have h7 := ok.o8; have h8 := ok.o9
          exact List.forall_mem_cons.mpr ⟨neN (Nat.ne_of_gt (Nat.lt_trans ok.lG (Nat.lt_trans q0 q1))), List.forall_mem_cons.mpr ⟨neN (Nat.ne_of_gt (Nat.lt_trans ok.lG q0)), hG⟩⟩
        · have h7 := ok.o8; have h8 := ok.o9
          exact List.forall_mem_cons.mpr ⟨neN (Nat.ne_of_gt (Nat.lt_trans ok.ldD (Nat.lt_trans q0 q1))), List.forall_mem_cons.mpr ⟨neN (Nat.ne_of_gt (Nat.lt_trans ok.ldD q0)), hD⟩⟩
      · rintro v news' s' ⟨t, tl', us', rfl, sv', rfl⟩ F' N' hb' ho'
        refine ⟨_, t, rfl, N'.get (by first | exact List.mem_append_right _ (.head _) | exact List.mem_append_right _ (.tail _ (.head _))), N'.get (by first | exact List.mem_append_right _ (.head _) | exact List.mem_append_right _ (.tail _ (.head _))), (X.keeps F'.keep _ _ hf35), fun _ => ?_, fun e => ?_⟩
        · (try dsimp only)
          dsimp only [gtEnv] at *
          generalize hb1 : forBody gtQ = body at ih ⊢
          generalize hb2 : forTarget gtQ = target at ih ⊢
          generalize hb3 : fdScope gtStmt = scope at *
          conv at hb1 => { lhs; whnf }
          conv at hb2 => { lhs; whnf }
          conv at hb3 => { lhs; whnf }
          subst hb1 hb2 hb3
          simp only [LxC.news, List.cons_append, List.nil_append] at N'
          clear N F
          obtain ⟨ln2, hln2⟩ : ∃ z : Int, z = (if c = 10 then ln + 1 else ln) := ⟨_, rfl⟩
          have hln3 : ln2 = ln + nls (c :: r) - nls r := by rw [hln2, nls_cons]; split <;> omega
          have hln4 : ln2 ≤ ln + 1 ∧ ln ≤ ln2 := by rw [hln2]; split <;> omega
          rw [← hln2] at N'
          clear hln2
          obtain ⟨heap', gens', drawn', toks', os'⟩ := s'
          have hln : @LT.lt Nat _ tok.length 100000 := by omega
          (try simp only [List.length_cons] at *)
          unfold lexQ at hlex
          by_cases c1 : c = 34
          · subst c1
            k_steps
            all_goals (try dsimp only)
            rw [if_pos rfl] at hlex
            obtain ⟨rfl, rfl⟩ : tok = tok' ∧ r = rst := by simpa using hlex
            exact hret _ us' (ng + 1) tl' t0 _ (by simpa using sv') (by k_asm) (by rw [← hln3]; k_asm) hb' (ho'.trans hos)
          · by_cases c2 : c = 92
            · subst c2
              rcases lcases r with e9 | e9
              · subst e9; simp at hlex
              obtain ⟨d, r, e8⟩ := e9
              subst e8
              rw [List.reverse_cons] at sv'
              k_steps
              refine Halt.mk (CC.cl (c_read_cons w x vs tq pb np ln2 tl' us' (ng + 1) ((I, ciObj q (Str.ofString "") ts) :: (q, methodObj (.ref 35) (.ref x.D)) :: rest) r.reverse d) loose mean mg mb (dp + 1) (un + 3) gd gtName _ 42 (.ref 41) [] (envX cn cs0 Lc a ccd cl :: outer) (ktrTop dp un gd cn cs0 Lc a ccd cl outer) base g L _ _ _ _ B (by k_asm) X (by k_asm) T rfl ?_ (by omega) (by omega) hb' ?_)
              · refine ⟨ok, sv', by rw [List.length_reverse]; simp only [List.length_cons] at *; omega, by omega, by simp only [List.length_cons] at *; omega, ?_, ?_⟩
                · have h1 := ok.o2; have h2 := ok.o3; have h3 := ok.o4; have h4 := ok.o5; have h5 := ok.o6; have h6 := ok.o7; have h7 := ok.o8; have h8 := ok.o9
                  exact List.forall_mem_cons.mpr ⟨neN (Nat.ne_of_gt (Nat.lt_trans ok.lG (Nat.lt_trans q0 q1))), List.forall_mem_cons.mpr ⟨neN (Nat.ne_of_gt (Nat.lt_trans ok.lG q0)), hG⟩⟩
                · have h7 := ok.o8; have h8 := ok.o9
                  exact List.forall_mem_cons.mpr ⟨neN (Nat.ne_of_gt (Nat.lt_trans ok.ldD (Nat.lt_trans q0 q1))), List.forall_mem_cons.mpr ⟨neN (Nat.ne_of_gt (Nat.lt_trans ok.ldD q0)), hD⟩⟩
              · rintro v news' s2 ⟨t2, tl2, us2, rfl, sv2, rfl⟩ F2 N2 hb2 ho2
                (try dsimp only)
                obtain ⟨ln5, hln5⟩ : ∃ z : Int, z = (if d = 10 then ln2 + 1 else ln2) := ⟨_, rfl⟩
                have hln6 : ln5 = ln + nls (92 :: d :: r) - nls r := by rw [hln5, nls_cons, nls_cons] at *; rw [hln3]; split <;> omega
                have hln7 : ln5 ≤ ln2 + 1 ∧ ln2 ≤ ln5 := by rw [hln5]; split <;> omega
                rw [← hln5] at N2
                clear hln5
                simp only [LxC.news, List.cons_append, List.nil_append] at N2
                obtain ⟨heap', gens', drawn', toks', os'⟩ := s2
                k_steps
                all_goals (try dsimp only)
                rw [if_neg c1, if_pos rfl] at hlex
                (with_reducible rename Fr _ _ _ _ => F9)
                refine ih r (tok ++ [d]) us2 (ng + 1 + 1) ln5 tl2 t9 (some (.str ⟨#[d]⟩ t2)) _ (by simp only [List.length_cons] at *; omega) hlex (by simp only [List.length_append, List.length_cons, List.length_nil] at *; omega) ⟨sv2, by simp only [List.length_cons] at *; omega, by omega, by simp only [List.length_cons] at *; omega, hG, hD, q0, q1⟩ (fr_cast F9 ?_) (by k_asm) hb2 (ho2.trans (ho'.trans hos)) ?_
                · intro y; simp only [gtMap]; (repeat' split) <;> first | rfl | (exfalso; simp_all)
                · intro s2 us2 ng2 tl2 t2 m2 sv2 F2 N2 hb2 ho2
                  exact hret s2 us2 ng2 tl2 t2 m2 sv2 F2 (by rw [show ln + nls (92 :: d :: r) - nls rst = ln5 + nls r - nls rst by omega]; exact N2) hb2 ho2
            · have d1 : ((⟨#[c]⟩ : Str) == Str.ofString "\"") = false := by rw [quote_is, one_beq]; simpa using c1
              have d2 : ((⟨#[c]⟩ : Str) == Str.ofString "\\") = false := by rw [back_is, one_beq]; simpa using c2
              k_steps
              all_goals (try dsimp only)
              rw [if_neg c1, if_neg c2] at hlex
              (with_reducible rename Fr _ _ _ _ => F9)
              refine ih r (tok ++ [c]) us' (ng + 1) ln2 tl' t9 (some (.str ⟨#[c]⟩ t)) _ (by omega) hlex (by simp only [List.length_append, List.length_cons, List.length_nil]; omega) ⟨sv', by omega, by omega, by omega, hG, hD, q0, q1⟩ (fr_cast F9 ?_) (by k_asm) hb' (ho'.trans hos) ?_
              · intro y; simp only [gtMap]; (repeat' split) <;> first | rfl | (exfalso; simp_all)
              · intro s2 us2 ng2 tl2 t2 m2 sv2 F2 N2 hb2 ho2
                exact hret s2 us2 ng2 tl2 t2 m2 sv2 F2 (by rw [show ln + nls (c :: r) - nls rst = ln2 + nls r - nls rst by omega]; exact N2) hb2 ho2
        · exfalso
          rw [show Str.ofString "" = ⟨#[]⟩ from by decide +kernel] at e
          injection e with e
          simp at e
end Mine
end
theorem Mine.calmLoopB : True := by w_top off; first | walk1 | trivial
section
open PySem PySem.W PyProof.Rows PySem.Calls PySem.Spec
set_option maxRecDepth 100000
namespace Mine
local macro_rules | `(tactic| walk_at $s) => Mine.mw s [("ite", Mine.m9k6), ("call ref", Mine.m9k7), ("inplaceOp Add str str", Mine.m9k8)]
set_option maxHeartbeats 8000000 in
theorem loopB (w : World) (x : LxC) (vs : Array Value) (tq : Tok) (ok : x.Ok vs tq) (pb : List Value) (np : Nat) (rest : List (Addr × Obj)) (q I : Addr) (ts : Tok)
    (loose : List Str) (mean : ExcName → Option Value) (mg mb : Str → Option Value) (dp un : Nat) (gd : Option (List Code)) (cn : Str) (cs0 : Scope) (Lc a : Addr) (ccd : Value) (cl : List (Str × Addr)) (outer : List Env) (base g : Heap) (L : Addr) (R : Result → Shared → Prop)
    (B : Below (ktrTop dp un gd cn cs0 Lc a ccd cl outer) base (envX cn cs0 Lc a ccd cl :: outer) g) (X : (KK w).In g) (T : Top VV loose mean mg mb g) (hd : dp + 30 < recursionLimit) (hu : un + 300 < cLine) (rst tok' : List Nat) (os : OsState) :
    ∀ (n : Nat) (cs tok : List Nat) (us : List Value) (ng : Nat) (ln : Int) (tl t0 : Tok) (ch : Option Value) (s : Shared), cs.length ≤ n → lexB tok cs = some (tok', rst) → tok.length + cs.length < 1000 → GtIn w x rest q I cs us ln →
      Fr g L s.heap (gtMap x.D I tok t0 ch) → News g L s.heap (x.news w pb np ln tl us ng ++ (I, ciObj q (Str.ofString "") ts) :: (q, methodObj (.ref 35) (.ref x.D)) :: rest) → AllBare s.gens → s.os = os →
      (∀ (s' : Shared) (us' : List Value) (ng' : Nat) (tl' t : Tok) (m' : Str → Option Value), SV us' rst.reverse → Fr g L s'.heap m' → News g L s'.heap (x.news w pb np (ln + nls cs - nls rst) tl' us' ng' ++ (I, ciObj q (Str.ofString "") ts) :: (q, methodObj (.ref 35) (.ref x.D)) :: rest) → AllBare s'.gens → s'.os = os → R (.ok (.ret (.str ⟨tok'.toArray⟩ t))) s') →
      codeAny (model PP w) ((ktrTop dp un gd cn cs0 Lc a ccd cl outer).deeper (gtEnv L)) (.forLoop (forTarget gtB) (.ref I) (forBody gtB) [] (gtEnv L)) R s := by
  have l9 : Mine.Lead9 := trivial
  have l0 : Mine.Lead0 := trivial
  revert ok B X T hd hu
  revert w x vs tq pb np rest q I ts loose mean mg mb dp un gd cn cs0 Lc a ccd cl outer base g L R rst tok' os
  intro w x vs tq pb np rest q I ts loose mean mg mb dp un gd cn cs0 Lc a ccd cl outer base g L R rst tok' os
  intros ok B X T hd hu
  rename Mine.Lead0 => l0; clear l0
  dsimp only [PP, KK] at *
  revert X; k_fill; intro X
  obtain ⟨fo, fd, hf35, hfd⟩ : ∃ fo fd, (Mine.hd.heap_39 w.params).lookup 35 = some fo ∧ fo.data = .func fd := by
    refine' fn_of ?h1 ?h2
    case h1 => k_is
    case h2 => exact rfl
  intro n
  induction n with
  | zero =>
    intro cs tok us ng ln tl t0 ch s hn hlex
    have : cs = [] := List.length_eq_zero_iff.mp (Nat.le_zero.mp hn)
    subst this
    cases hlex
  | succ n ih =>
    revert ih; revert n; intro n ih
    intro cs tok us ng ln tl t0 ch s hn hlex htl hin F N hb hos hret
    rcases lcases cs with e9 | e9
    · subst e9; cases hlex
    obtain ⟨c, r, e8⟩ := e9
    subst e8
    obtain ⟨sv, hlen, l0, l1, hG, hD, q0, q1⟩ := hin
    rw [List.reverse_cons] at sv
    refine for_turn (next_ci (q := q) (self := .ref x.D) (sen := Str.ofString "") (ts := ts) rfl ?_ ?_ (X.keeps F.keep _ _ hf35) hfd ?_) (fun _ => rfl)
    · exact N.get (by first | exact List.mem_append_right _ (.head _) | exact List.mem_append_right _ (.tail _ (.head _)))
    · exact N.get (by first | exact List.mem_append_right _ (.head _) | exact List.mem_append_right _ (.tail _ (.head _)))
    · refine c_read_cons w x vs tq pb np ln tl us ng ((I, ciObj q (Str.ofString "") ts) :: (q, methodObj (.ref 35) (.ref x.D)) :: rest) r.reverse c loose mean mg mb (dp + 1) (un + 4) gd gtName (fdScope gtStmt) 42 (.ref 41) [] (envX cn cs0 Lc a ccd cl :: outer) (ktrTop dp un gd cn cs0 Lc a ccd cl outer) base g L _ s _ B F X N T rfl ?_ (by omega) (by omega) hb ?_
      · refine ⟨ok, sv, by rw [List.length_reverse]; simp only [List.length_cons] at hlen; omega, l0, by omega, ?_, ?_⟩
        · have h1 := ok.o2; have h2 := ok.o3; have h3 := ok.o4; have h4 := ok.o5; have h5 := ok.o6; have h6 := ok.o7; have h7 := ok.o8; have h8 := ok.o9
          exact List.forall_mem_cons.mpr ⟨neN (Nat.ne_of_gt (Nat.lt_trans ok.lG (Nat.lt_trans q0 q1))), List.forall_mem_cons.mpr ⟨neN (Nat.ne_of_gt (Nat.lt_trans ok.lG q0)), hG⟩⟩
        · have h7 := ok.o8; have h8 := ok.o9
          exact List.forall_mem_cons.mpr ⟨neN (Nat.ne_of_gt (Nat.lt_trans ok.ldD (Nat.lt_trans q0 q1))), List.forall_mem_cons.mpr ⟨neN (Nat.ne_of_gt (Nat.lt_trans ok.ldD q0)), hD⟩⟩
      · rintro v news' s' ⟨t, tl', us', rfl, sv', rfl⟩ F' N' hb' ho'
        refine ⟨_, t, rfl, N'.get (by first | exact List.mem_append_right _ (.head _) | exact List.mem_append_right _ (.tail _ (.head _))), N'.get (by first | exact List.mem_append_right _ (.head _) | exact List.mem_append_right _ (.tail _ (.head _))), (X.keeps F'.keep _ _ hf35), fun _ => ?_, fun e => ?_⟩
        · (try dsimp only)
          dsimp only [gtEnv] at *
          generalize hb1 : forBody gtB = body at ih ⊢
          generalize hb2 : forTarget gtB = target at ih ⊢
          generalize hb3 : fdScope gtStmt = scope at *
          conv at hb1 => { lhs; whnf }
          conv at hb2 => { lhs; whnf }
          conv at hb3 => { lhs; whnf }
          subst hb1 hb2 hb3
          simp only [LxC.news, List.cons_append, List.nil_append] at N'
          clear N F
          obtain ⟨ln2, hln2⟩ : ∃ z : Int, z = (if c = 10 then ln + 1 else ln) := ⟨_, rfl⟩
          have hln3 : ln2 = ln + nls (c :: r) - nls r := by rw [hln2, nls_cons]; split <;> omega
          have hln4 : ln2 ≤ ln + 1 ∧ ln ≤ ln2 := by rw [hln2]; split <;> omega
          rw [← hln2] at N'
          clear hln2
          obtain ⟨heap', gens', drawn', toks', os'⟩ := s'
          have hln : @LT.lt Nat _ tok.length 100000 := by omega
          (try simp only [List.length_cons] at *)
          unfold lexB at hlex
          by_cases c1 : isWs c = true
          · have d0 := (ws_has c).trans c1
            k_steps
            all_goals (try dsimp only)
            rw [if_pos c1] at hlex
            obtain ⟨rfl, rfl⟩ : tok = tok' ∧ r = rst := by simpa using hlex
            exact hret _ us' (ng + 1) tl' t0 _ (by simpa using sv') (by k_asm) (by rw [← hln3]; k_asm) hb' (ho'.trans hos)
          · by_cases c2 : c = 92
            · have d0 := (ws_has c).trans (show isWs c = false from by simpa using c1)
              have d1 : ((⟨#[c]⟩ : Str) == Str.ofString "\\") = true := by rw [back_is, one_beq]; simpa using c2
              rcases lcases r with e9 | e9
              · subst e9; rw [if_neg c1, if_pos c2] at hlex; cases hlex
              obtain ⟨d, r, e8⟩ := e9
              subst e8
              rw [List.reverse_cons] at sv'
              k_steps
              refine Halt.mk (CC.cl (c_read_cons w x vs tq pb np ln2 tl' us' (ng + 1) ((I, ciObj q (Str.ofString "") ts) :: (q, methodObj (.ref 35) (.ref x.D)) :: rest) r.reverse d) loose mean mg mb (dp + 1) (un + 3) gd gtName _ 42 (.ref 41) [] (envX cn cs0 Lc a ccd cl :: outer) (ktrTop dp un gd cn cs0 Lc a ccd cl outer) base g L _ _ _ _ B (by k_asm) X (by k_asm) T rfl ?_ (by omega) (by omega) hb' ?_)
              · refine ⟨ok, sv', by rw [List.length_reverse]; simp only [List.length_cons] at *; omega, by omega, by simp only [List.length_cons] at *; omega, ?_, ?_⟩
                · have h1 := ok.o2; have h2 := ok.o3; have h3 := ok.o4; have h4 := ok.o5; have h5 := ok.o6; have h6 := ok.o7; have h7 := ok.o8; have h8 := ok.o9
                  exact List.forall_mem_cons.mpr ⟨neN (Nat.ne_of_gt (Nat.lt_trans ok.lG (Nat.lt_trans q0 q1))), List.forall_mem_cons.mpr ⟨neN (Nat.ne_of_gt (Nat.lt_trans ok.lG q0)), hG⟩⟩
                · have h7 := ok.o8; have h8 := ok.o9
                  exact List.forall_mem_cons.mpr ⟨neN (Nat.ne_of_gt (Nat.lt_trans ok.ldD (Nat.lt_trans q0 q1))), List.forall_mem_cons.mpr ⟨neN (Nat.ne_of_gt (Nat.lt_trans ok.ldD q0)), hD⟩⟩
              · rintro v news' s2 ⟨t2, tl2, us2, rfl, sv2, rfl⟩ F2 N2 hb2 ho2
                (try dsimp only)
                obtain ⟨ln5, hln5⟩ : ∃ z : Int, z = (if d = 10 then ln2 + 1 else ln2) := ⟨_, rfl⟩
                have hln6 : ln5 = ln + nls (c :: d :: r) - nls r := by rw [hln5, nls_cons, nls_cons] at *; rw [hln3]; split <;> omega
                have hln7 : ln5 ≤ ln2 + 1 ∧ ln2 ≤ ln5 := by rw [hln5]; split <;> omega
                rw [← hln5] at N2
                clear hln5
                simp only [LxC.news, List.cons_append, List.nil_append] at N2
                obtain ⟨heap', gens', drawn', toks', os'⟩ := s2
                k_steps
                all_goals (try dsimp only)
                rw [if_neg c1, if_pos c2] at hlex
                (with_reducible rename Fr _ _ _ _ => F9)
                refine ih r (tok ++ [d]) us2 (ng + 1 + 1) ln5 tl2 t9 (some (.str ⟨#[d]⟩ t2)) _ (by simp only [List.length_cons] at *; omega) hlex (by simp only [List.length_append, List.length_cons, List.length_nil] at *; omega) ⟨sv2, by simp only [List.length_cons] at *; omega, by omega, by simp only [List.length_cons] at *; omega, hG, hD, q0, q1⟩ (fr_cast F9 ?_) (by k_asm) hb2 (ho2.trans (ho'.trans hos)) ?_
                · intro y; simp only [gtMap]; (repeat' split) <;> first | rfl | (exfalso; simp_all)
                · intro s2 us2 ng2 tl2 t2 m2 sv2 F2 N2 hb2 ho2
                  exact hret s2 us2 ng2 tl2 t2 m2 sv2 F2 (by rw [show ln + nls (c :: d :: r) - nls rst = ln5 + nls r - nls rst by omega]; exact N2) hb2 ho2
            · have d0 := (ws_has c).trans (show isWs c = false from by simpa using c1)
              have d2 : ((⟨#[c]⟩ : Str) == Str.ofString "\\") = false := by rw [back_is, one_beq]; simpa using c2
              k_steps
              all_goals (try dsimp only)
              rw [if_neg c1, if_neg c2] at hlex
              (with_reducible rename Fr _ _ _ _ => F9)
              refine ih r (tok ++ [c]) us' (ng + 1) ln2 tl' t9 (some (.str ⟨#[c]⟩ t)) _ (by omega) hlex (by simp only [List.length_append, List.length_cons, List.length_nil]; omega) ⟨sv', by omega, by omega, by omega, hG, hD, q0, q1⟩ (fr_cast F9 ?_) (by k_asm) hb' (ho'.trans hos) ?_
              · intro y; simp only [gtMap]; (repeat' split) <;> first | rfl | (exfalso; simp_all)
              · intro s2 us2 ng2 tl2 t2 m2 sv2 F2 N2 hb2 ho2
                exact hret s2 us2 ng2 tl2 t2 m2 sv2 F2 (by rw [show ln + nls (c :: r) - nls rst = ln2 + nls r - nls rst by omega]; exact N2) hb2 ho2
        · exfalso
          rw [show Str.ofString "" = ⟨#[]⟩ from by decide +kernel] at e
          injection e with e
          simp at e
end Mine
end
theorem Mine.calmLoopO : True := by w_top off; first | walk1 | trivial
section
open PySem PySem.W PyProof.Rows PySem.Calls PySem.Spec
set_option maxRecDepth 100000
namespace Mine
def m9e24 : Lean.MacroM (Lean.TSyntax `tactic) := Mine.t9rf "wpAny_For ?_" []
def m9e25 : Lean.MacroM (Lean.TSyntax `tactic) := Mine.t9rfp "pyIter_ci ( News.get %0 %1 ) ?_" [(Mine.m9e13), (Mine.m9e14)]
def m9k10 : Lean.MacroM (Lean.TSyntax `tactic) := Mine.t9dflt (Mine.m9e25)
local macro_rules | `(tactic| walk_at $s) => Mine.mw s [("ite", Mine.m9k6), ("call ref", Mine.m9k7), ("inplaceOp Add str str", Mine.m9k8), ("exec For Name Name cons nil", Mine.m9e24), ("pyIter ref", Mine.m9k10)]
theorem ch_ne : (Str.ofString "ch" = Str.ofString "token") = False := eq_false (by decide +kernel)
theorem tok_ne : (Str.ofString "token" = Str.ofString "ch") = False := eq_false (by decide +kernel)
theorem fr_but {h₀ h h' : Heap} {L I : Addr} {m : Str → Option Value} (F : Fr h₀ L h m) (hI : L ≠ I) (hg : h₀.get? I = none) (k : ∀ b o, b ≠ I → h.get? b = some o → h'.get? b = some o) : Fr h₀ L h' m :=
  ⟨F.ns.at' fun o e => k _ o hI e, fun b o e => k b o (fun q => by rw [q, hg] at e; cases e) (F.keep b o e), F.above⟩
theorem news_but {h₀ h h' : Heap} {L I : Addr} {l : List (Addr × Obj)} (N : News h₀ L h l) (hl : ∀ p ∈ l, p.1 ≠ I) (k : ∀ b o, b ≠ I → h.get? b = some o → h'.get? b = some o) : News h₀ L h' l :=
  fun p hp => ⟨k _ _ (hl p hp) (N p hp).1, (N p hp).2⟩
set_option maxHeartbeats 8000000 in
theorem loopO (w : World) (x : LxC) (vs : Array Value) (tq : Tok) (ok : x.Ok vs tq) (pb : List Value) (np : Nat) (rest : List (Addr × Obj)) (q I : Addr) (ts : Tok)
    (loose : List Str) (mean : ExcName → Option Value) (mg mb : Str → Option Value) (dp un : Nat) (gd : Option (List Code)) (cn : Str) (cs0 : Scope) (Lc a : Addr) (ccd : Value) (cl : List (Str × Addr)) (outer : List Env) (base g : Heap) (L : Addr) (R : Result → Shared → Prop)
    (B : Below (ktrTop dp un gd cn cs0 Lc a ccd cl outer) base (envX cn cs0 Lc a ccd cl :: outer) g) (X : (KK w).In g) (T : Top VV loose mean mg mb g) (hd : dp + 30 < recursionLimit) (hu : un + 300 < cLine) (rst tok' : List Nat) (os : OsState) (t0 : Tok) (hI : ∀ p ∈ rest, p.1 ≠ I) :
    ∀ (n : Nat) (cs : List Nat) (us : List Value) (ng : Nat) (ln : Int) (tl : Tok) (ch : Option Value) (s : Shared), cs.length ≤ n → lexO cs = some (tok', rst) → GtIn w x rest q I cs us ln →
      Fr g L s.heap (gtMap x.D I [] t0 ch) → News g L s.heap (x.news w pb np ln tl us ng ++ (I, ciObj q (Str.ofString "") ts) :: (q, methodObj (.ref 35) (.ref x.D)) :: rest) → AllBare s.gens → s.os = os →
      (∀ (s' : Shared) (us' : List Value) (ng' : Nat) (tl' t : Tok) (m' : Str → Option Value), SV us' rst.reverse → Fr g L s'.heap m' → News g L s'.heap (x.news w pb np (ln + nls cs - nls rst) tl' us' ng' ++ (q, methodObj (.ref 35) (.ref x.D)) :: rest) → AllBare s'.gens → s'.os = os → R (.ok (.ret (.str ⟨tok'.toArray⟩ t))) s') →
      (tok' = [] → ∀ (s' : Shared) (us' : List Value) (ng' : Nat) (tl' : Tok) (ch' : Option Value), SV us' rst.reverse → Fr g L s'.heap (gtMap x.D I [] t0 ch') → News g L s'.heap (x.news w pb np (ln + nls cs - nls rst) tl' us' ng' ++ (q, methodObj (.ref 35) (.ref x.D)) :: rest) → AllBare s'.gens → s'.os = os → R (.ok .next) s') →
      codeAny (model PP w) ((ktrTop dp un gd cn cs0 Lc a ccd cl outer).deeper (gtEnv L)) (.forLoop (forTarget gtFor) (.ref I) (forBody gtFor) [] (gtEnv L)) R s := by
  have l9 : Mine.Lead9 := trivial
  have l0 : Mine.Lead0 := trivial
  revert ok B X T hd hu hI
  revert w x vs tq pb np rest q I ts loose mean mg mb dp un gd cn cs0 Lc a ccd cl outer base g L R rst tok' os t0
  intro w x vs tq pb np rest q I ts loose mean mg mb dp un gd cn cs0 Lc a ccd cl outer base g L R rst tok' os t0
  intros ok B X T hd hu hI
  rename Mine.Lead0 => l0; clear l0
  dsimp only [PP, KK] at *
  revert X; k_fill; intro X
  obtain ⟨fo, fd, hf35, hfd⟩ : ∃ fo fd, (Mine.hd.heap_39 w.params).lookup 35 = some fo ∧ fo.data = .func fd := by
    refine' fn_of ?h1 ?h2
    case h1 => k_is
    case h2 => exact rfl
  have dropI : ∀ {s' : Shared} {l : List (Addr × Obj)} {us' : List Value} {ng' : Nat} {ln' : Int} {tl' : Tok}, News g L s'.heap (x.news w pb np ln' tl' us' ng' ++ (I, ciObj q (Str.ofString "") ts) :: (q, methodObj (.ref 35) (.ref x.D)) :: rest) → News g L s'.heap (x.news w pb np ln' tl' us' ng' ++ (q, methodObj (.ref 35) (.ref x.D)) :: rest) := by
    intro s' _ us' ng' ln' tl' N p hp
    refine N p ?_
    rcases List.mem_append.mp hp with h | h
    · exact List.mem_append_left _ h
    · exact List.mem_append_right _ (.tail _ h)
  have hnil : ∀ (us : List Value) (ng : Nat) (ln : Int) (tl : Tok) (ch : Option Value) (s : Shared), lexO [] = some (tok', rst) → GtIn w x rest q I [] us ln →
      Fr g L s.heap (gtMap x.D I [] t0 ch) → News g L s.heap (x.news w pb np ln tl us ng ++ (I, ciObj q (Str.ofString "") ts) :: (q, methodObj (.ref 35) (.ref x.D)) :: rest) → AllBare s.gens → s.os = os →
      (tok' = [] → ∀ (s' : Shared) (us' : List Value) (ng' : Nat) (tl' : Tok) (ch' : Option Value), SV us' rst.reverse → Fr g L s'.heap (gtMap x.D I [] t0 ch') → News g L s'.heap (x.news w pb np (ln + nls [] - nls rst) tl' us' ng' ++ (q, methodObj (.ref 35) (.ref x.D)) :: rest) → AllBare s'.gens → s'.os = os → R (.ok .next) s') →
      codeAny (model PySem.Challenge.rw_tl0005_01.prog w) ((ktrTop dp un gd cn cs0 Lc a ccd cl outer).deeper (gtEnv L)) (.forLoop (forTarget gtFor) (.ref I) (forBody gtFor) [] (gtEnv L)) R s := by
    intro us ng ln tl ch s hlex hin F N hb hos hend
    obtain ⟨sv, hlen, l0, l1, hG, hD, q0, q1⟩ := hin
    cases sv
    have hG' : ∀ p ∈ (I, ciObj q (Str.ofString "") ts) :: (q, methodObj (.ref 35) (.ref x.D)) :: rest, p.1 ≠ x.G := by
      have h1 := ok.o2; have h2 := ok.o3; have h3 := ok.o4; have h4 := ok.o5; have h5 := ok.o6; have h6 := ok.o7; have h7 := ok.o8; have h8 := ok.o9
      exact List.forall_mem_cons.mpr ⟨neN (Nat.ne_of_gt (Nat.lt_trans ok.lG (Nat.lt_trans q0 q1))), List.forall_mem_cons.mpr ⟨neN (Nat.ne_of_gt (Nat.lt_trans ok.lG q0)), hG⟩⟩
    have hD' : ∀ p ∈ (I, ciObj q (Str.ofString "") ts) :: (q, methodObj (.ref 35) (.ref x.D)) :: rest, p.1 ≠ x.dD := by
      have h7 := ok.o8; have h8 := ok.o9
      exact List.forall_mem_cons.mpr ⟨neN (Nat.ne_of_gt (Nat.lt_trans ok.ldD (Nat.lt_trans q0 q1))), List.forall_mem_cons.mpr ⟨neN (Nat.ne_of_gt (Nat.lt_trans ok.ldD q0)), hD⟩⟩
    have hIL : L ≠ I := fun e => (N (I, ciObj q (Str.ofString "") ts) (by first | exact List.mem_append_right _ (.head _) | exact List.mem_append_right _ (.tail _ (.head _)))).2.1 e.symm
    have hIg : g.get? I = none := (N (I, ciObj q (Str.ofString "") ts) (by first | exact List.mem_append_right _ (.head _) | exact List.mem_append_right _ (.tail _ (.head _)))).2.2
    have hnI : ∀ (us' : List Value) (ng' : Nat) (ln' : Int) (tl' : Tok), ∀ p ∈ x.news w pb np ln' tl' us' ng' ++ (q, methodObj (.ref 35) (.ref x.D)) :: rest, p.1 ≠ I := by
      intro us' ng' ln' tl'
      have h0 := ok.o1; have h1 := ok.o2; have h2 := ok.o3; have h3 := ok.o4; have h4 := ok.o5; have h5 := ok.o6; have h6 := ok.o7; have h7 := ok.o8; have h8 := ok.o9
      intro p hp
      rcases List.mem_append.mp hp with hp | hp
      · exact news_below ok w I (Nat.lt_trans q0 q1) _ _ _ _ _ _ p hp
      · exact (List.forall_mem_cons (p := fun p : Addr × Obj => p.1 ≠ I)).mpr ⟨neN (Nat.ne_of_lt q1), hI⟩ p hp
    obtain ⟨rfl, rfl⟩ : [] = tok' ∧ [] = rst := by simpa [lexO] using hlex
    refine for_turn (next_ci (q := q) (self := .ref x.D) (sen := Str.ofString "") (ts := ts) rfl ?_ ?_ (X.keeps F.keep _ _ hf35) hfd ?_) (fun _ => rfl)
    · exact N.get (by first | exact List.mem_append_right _ (.head _) | exact List.mem_append_right _ (.tail _ (.head _)))
    · exact N.get (by first | exact List.mem_append_right _ (.head _) | exact List.mem_append_right _ (.tail _ (.head _)))
    · refine c_read_nil w x vs tq pb np ln tl ng ((I, ciObj q (Str.ofString "") ts) :: (q, methodObj (.ref 35) (.ref x.D)) :: rest) loose mean mg mb (dp + 1) (un + 4) gd gtName (fdScope gtStmt) 42 (.ref 41) [] (envX cn cs0 Lc a ccd cl :: outer) (ktrTop dp un gd cn cs0 Lc a ccd cl outer) base g L _ s _ B F X N T rfl ?_ (by omega) (by omega) hb ?_
      · exact ⟨ok, l0, by simp at l1; omega, hG', hD'⟩
      · rintro v news' s' ⟨⟨t, rfl⟩, rfl⟩ F' N' hb' ho'
        refine ⟨_, t, rfl, N'.get (by first | exact List.mem_append_right _ (.head _) | exact List.mem_append_right _ (.tail _ (.head _))), N'.get (by first | exact List.mem_append_right _ (.head _) | exact List.mem_append_right _ (.tail _ (.head _))), (X.keeps F'.keep _ _ hf35), fun e => (e rfl).elim, fun _ h' k => ?_⟩
        (try dsimp only)
        refine wpAny_execs_nil ?_
        refine hend rfl _ [] ng tl ch .nil (fr_but F' hIL hIg k) ?_ hb' (ho'.trans hos)
        rw [show ln + nls [] - nls [] = ln by omega]
        exact news_but (dropI (l := []) N') (hnI _ _ _ _) k
  intro n
  induction n with
  | zero =>
    intro cs us ng ln tl ch s hn hlex hin F N hb hos hret hend
    obtain rfl : cs = [] := List.length_eq_zero_iff.mp (Nat.le_zero.mp hn)
    exact hnil us ng ln tl ch s hlex hin F N hb hos hend
  | succ n ih =>
    revert ih; revert n; intro n ih
    intro cs us ng ln tl ch s hn hlex hin F N hb hos hret hend
    rcases lcases cs with e9 | e9
    · subst e9; exact hnil us ng ln tl ch s hlex hin F N hb hos hend
    obtain ⟨c, r, e8⟩ := e9
    subst e8
    obtain ⟨sv, hlen, l0, l1, hG, hD, q0, q1⟩ := hin
    have hG' : ∀ p ∈ (I, ciObj q (Str.ofString "") ts) :: (q, methodObj (.ref 35) (.ref x.D)) :: rest, p.1 ≠ x.G := by
      have h1 := ok.o2; have h2 := ok.o3; have h3 := ok.o4; have h4 := ok.o5; have h5 := ok.o6; have h6 := ok.o7; have h7 := ok.o8; have h8 := ok.o9
      exact List.forall_mem_cons.mpr ⟨neN (Nat.ne_of_gt (Nat.lt_trans ok.lG (Nat.lt_trans q0 q1))), List.forall_mem_cons.mpr ⟨neN (Nat.ne_of_gt (Nat.lt_trans ok.lG q0)), hG⟩⟩
    have hD' : ∀ p ∈ (I, ciObj q (Str.ofString "") ts) :: (q, methodObj (.ref 35) (.ref x.D)) :: rest, p.1 ≠ x.dD := by
      have h7 := ok.o8; have h8 := ok.o9
      exact List.forall_mem_cons.mpr ⟨neN (Nat.ne_of_gt (Nat.lt_trans ok.ldD (Nat.lt_trans q0 q1))), List.forall_mem_cons.mpr ⟨neN (Nat.ne_of_gt (Nat.lt_trans ok.ldD q0)), hD⟩⟩
    rw [List.reverse_cons] at sv
    refine for_turn (next_ci (q := q) (self := .ref x.D) (sen := Str.ofString "") (ts := ts) rfl ?_ ?_ (X.keeps F.keep _ _ hf35) hfd ?_) (fun _ => rfl)
    · exact N.get (by first | exact List.mem_append_right _ (.head _) | exact List.mem_append_right _ (.tail _ (.head _)))
    · exact N.get (by first | exact List.mem_append_right _ (.head _) | exact List.mem_append_right _ (.tail _ (.head _)))
    · refine c_read_cons w x vs tq pb np ln tl us ng ((I, ciObj q (Str.ofString "") ts) :: (q, methodObj (.ref 35) (.ref x.D)) :: rest) r.reverse c loose mean mg mb (dp + 1) (un + 4) gd gtName (fdScope gtStmt) 42 (.ref 41) [] (envX cn cs0 Lc a ccd cl :: outer) (ktrTop dp un gd cn cs0 Lc a ccd cl outer) base g L _ s _ B F X N T rfl ?_ (by omega) (by omega) hb ?_
      · exact ⟨ok, sv, by rw [List.length_reverse]; simp only [List.length_cons] at hlen; omega, l0, by omega, hG', hD'⟩
      · rintro v news' s' ⟨t, tl', us', rfl, sv', rfl⟩ F' N' hb' ho'
        refine ⟨_, t, rfl, N'.get (by first | exact List.mem_append_right _ (.head _) | exact List.mem_append_right _ (.tail _ (.head _))), N'.get (by first | exact List.mem_append_right _ (.head _) | exact List.mem_append_right _ (.tail _ (.head _))), (X.keeps F'.keep _ _ hf35), fun _ => ?_, fun e => ?_⟩
        · (try dsimp only)
          dsimp only [gtEnv] at *
          generalize hb1 : forBody gtFor = body at ih ⊢
          generalize hb2 : forTarget gtFor = target at ih ⊢
          generalize hb3 : fdScope gtStmt = scope at *
          conv at hb1 => { lhs; whnf }
          conv at hb2 => { lhs; whnf }
          conv at hb3 => { lhs; whnf }
          subst hb1 hb2 hb3
          simp only [LxC.news, List.cons_append, List.nil_append] at N'
          clear N F
          obtain ⟨ln2, hln2⟩ : ∃ z : Int, z = (if c = 10 then ln + 1 else ln) := ⟨_, rfl⟩
          have hln3 : ln2 = ln + nls (c :: r) - nls r := by rw [hln2, nls_cons]; split <;> omega
          have hln4 : ln2 ≤ ln + 1 ∧ ln ≤ ln2 := by rw [hln2]; split <;> omega
          rw [← hln2] at N'
          clear hln2
          obtain ⟨heap', gens', drawn', toks', os'⟩ := s'
          have hln : @LT.lt Nat _ ([] : List Nat).length 100000 := by decide
          (try simp only [List.length_cons] at *)
          unfold lexO at hlex
          by_cases c1 : isWs c = true
          · have d0 := (ws_has c).trans c1
            k_steps
            all_goals (try dsimp only)
            rw [if_pos c1] at hlex
            (with_reducible rename Fr _ _ _ _ => F9)
            refine ih r us' (ng + 1) ln2 tl' (some (.str ⟨#[c]⟩ t)) _ (by omega) hlex ⟨sv', by omega, by omega, by omega, hG, hD, q0, q1⟩ (fr_cast F9 ?_) (by k_asm) hb' (ho'.trans hos) ?_ ?_
            · intro y; simp only [gtMap]; (repeat' split) <;> first | rfl | (exfalso; simp_all [ch_ne, tok_ne]; done)
            · intro s2 us2 ng2 tl2 t2 m2 sv2 F2 N2 hb2 ho2
              exact hret s2 us2 ng2 tl2 t2 m2 sv2 F2 (by rw [show ln + nls (c :: r) - nls rst = ln2 + nls r - nls rst by omega]; exact N2) hb2 ho2
            · intro e0 s2 us2 ng2 tl2 ch2 sv2 F2 N2 hb2 ho2
              exact hend e0 s2 us2 ng2 tl2 ch2 sv2 F2 (by rw [show ln + nls (c :: r) - nls rst = ln2 + nls r - nls rst by omega]; exact N2) hb2 ho2
          · have d0 := (ws_has c).trans (show isWs c = false from by simpa using c1)
            rw [if_neg c1] at hlex
            by_cases c2 : c = 34
            · have d1 : ((⟨#[c]⟩ : Str) == Str.ofString "\"") = true := by rw [quote_is, one_beq]; simpa using c2
              rw [if_pos c2] at hlex
              k_steps
              (with_reducible rename Fr _ _ _ _ => F9)
              refine loopQ w x vs tq ok pb np rest q I ts loose mean mg mb dp un gd cn cs0 Lc a ccd cl outer base g L _ B X T hd hu rst tok' os r.length r [] us' (ng + 1) ln2 tl' t0 (some (.str ⟨#[c]⟩ t)) _ (Nat.le_refl _) hlex (by simp only [List.length_nil]; omega) ⟨sv', by omega, by omega, by omega, hG, hD, q0, q1⟩ (fr_cast F9 (by intro y; simp only [gtMap]; (repeat' split) <;> first | rfl | (exfalso; simp_all [ch_ne, tok_ne]; done))) (by k_asm) hb' (ho'.trans hos) ?_
              intro s2 us2 ng2 tl2 t2 m2 sv2 F2 N2 hb2 ho2
              exact hret s2 us2 ng2 tl2 t2 m2 sv2 F2 (by rw [show ln + nls (c :: r) - nls rst = ln2 + nls r - nls rst by omega]; exact dropI (l := []) N2) hb2 ho2
            · have d1 : ((⟨#[c]⟩ : Str) == Str.ofString "\"") = false := by rw [quote_is, one_beq]; simpa using c2
              rw [if_neg c2] at hlex
              by_cases c3 : c = 92
              · have d2 : ((⟨#[c]⟩ : Str) == Str.ofString "\\") = true := by rw [back_is, one_beq]; simpa using c3
                rw [if_pos c3] at hlex
                rcases lcases r with e9 | e9
                · subst e9; cases hlex
                obtain ⟨d, r, e8⟩ := e9
                subst e8
                rw [List.reverse_cons] at sv'
                k_steps
                refine Halt.mk (CC.cl (c_read_cons w x vs tq pb np ln2 tl' us' (ng + 1) ((I, ciObj q (Str.ofString "") ts) :: (q, methodObj (.ref 35) (.ref x.D)) :: rest) r.reverse d) loose mean mg mb (dp + 1) (un + 3) gd gtName _ 42 (.ref 41) [] (envX cn cs0 Lc a ccd cl :: outer) (ktrTop dp un gd cn cs0 Lc a ccd cl outer) base g L _ _ _ _ B (by k_asm) X (by k_asm) T rfl ?_ (by omega) (by omega) hb' ?_)
                · exact ⟨ok, sv', by rw [List.length_reverse]; simp only [List.length_cons] at *; omega, by omega, by simp only [List.length_cons] at *; omega, hG', hD'⟩
                · rintro v news' s2 ⟨t2, tl2, us2, rfl, sv2, rfl⟩ F2 N2 hb2 ho2
                  (try dsimp only)
                  obtain ⟨ln5, hln5⟩ : ∃ z : Int, z = (if d = 10 then ln2 + 1 else ln2) := ⟨_, rfl⟩
                  have hln6 : ln5 = ln + nls (c :: d :: r) - nls r := by rw [hln5, nls_cons, nls_cons] at *; rw [hln3]; split <;> omega
                  have hln7 : ln5 ≤ ln2 + 1 ∧ ln2 ≤ ln5 := by rw [hln5]; split <;> omega
                  rw [← hln5] at N2
                  clear hln5
                  simp only [LxC.news, List.cons_append, List.nil_append] at N2
                  obtain ⟨heap', gens', drawn', toks', os'⟩ := s2
                  have tok0 : (⟨([] : List Nat).toArray⟩ : Str) = ⟨#[]⟩ := rfl
                  k_steps
                  (with_reducible rename Fr _ _ _ _ => F9)
                  refine loopB w x vs tq ok pb np rest q I ts loose mean mg mb dp un gd cn cs0 Lc a ccd cl outer base g L _ B X T hd hu rst tok' os r.length r [d] us2 (ng + 1 + 1) ln5 tl2 t9 (some (.str ⟨#[d]⟩ t2)) _ (Nat.le_refl _) hlex (by simp only [List.length_cons, List.length_nil] at *; omega) ⟨sv2, by simp only [List.length_cons] at *; omega, by omega, by simp only [List.length_cons] at *; omega, hG, hD, q0, q1⟩ (fr_cast F9 (by intro y; simp only [gtMap]; (repeat' split) <;> first | rfl | (exfalso; simp_all [ch_ne, tok_ne]; done))) (by k_asm) hb2 (ho2.trans (ho'.trans hos)) ?_
                  intro s2 us2 ng2 tl2 t2 m2 sv2 F2 N2 hb2 ho2
                  exact hret s2 us2 ng2 tl2 t2 m2 sv2 F2 (by rw [show ln + nls (c :: d :: r) - nls rst = ln5 + nls r - nls rst by omega]; exact dropI (l := []) N2) hb2 ho2
              · have d2 : ((⟨#[c]⟩ : Str) == Str.ofString "\\") = false := by rw [back_is, one_beq]; simpa using c3
                rw [if_neg c3] at hlex
                k_steps
                (with_reducible rename Fr _ _ _ _ => F9)
                refine loopB w x vs tq ok pb np rest q I ts loose mean mg mb dp un gd cn cs0 Lc a ccd cl outer base g L _ B X T hd hu rst tok' os r.length r [c] us' (ng + 1) ln2 tl' t9 (some (.str ⟨#[c]⟩ t)) _ (Nat.le_refl _) hlex (by simp only [List.length_cons, List.length_nil] at *; omega) ⟨sv', by omega, by omega, by omega, hG, hD, q0, q1⟩ (fr_cast F9 (by intro y; simp only [gtMap]; (repeat' split) <;> first | rfl | (exfalso; simp_all [ch_ne, tok_ne]; done))) (by k_asm) hb' (ho'.trans hos) ?_
                intro s2 us2 ng2 tl2 t2 m2 sv2 F2 N2 hb2 ho2
                exact hret s2 us2 ng2 tl2 t2 m2 sv2 F2 (by rw [show ln + nls (c :: r) - nls rst = ln2 + nls r - nls rst by omega]; exact dropI (l := []) N2) hb2 ho2
        · exfalso
          rw [show Str.ofString "" = ⟨#[]⟩ from by decide +kernel] at e
          injection e with e
          simp at e
end Mine
end
section
open PySem PySem.W PyProof.Rows PySem.Calls PySem.Spec
set_option maxRecDepth 100000
namespace Mine
local macro_rules | `(tactic| walk_at $s) => Mine.mw s [("ite", Mine.m9k6)]
noncomputable def escF (v y : Value) : Prop := ∃ (c : Nat) (u u' : Tok), v = Value.str ⟨#[c]⟩ u ∧ y = Value.str ⟨#[92, c]⟩ u'
theorem esc_vals : ∀ (cs : List Nat) (vs ys : List Value), vs.length = cs.length → (∀ (j : Nat) (v : Value), vs[j]? = some v → ∃ (c : Nat) (u : Tok), cs[j]? = some c ∧ v = Value.str ⟨#[c]⟩ u) → Paired escF vs ys →
    ∃ l : List (Str × Tok), ys = strValues l ∧ l.map (·.1) = cs.map (fun c => (⟨#[92, c]⟩ : Str)) := by
  intro cs
  induction cs with
  | nil =>
    intro vs ys hl _ hp
    obtain rfl : vs = [] := List.length_eq_zero_iff.mp (by simpa using hl)
    cases hp
    exact ⟨[], rfl, rfl⟩
  | cons c r ih =>
    intro vs ys hl hv hp
    cases hp with
    | nil => simp at hl
    | @cons v y vs ys h1 h2 =>
      obtain ⟨l, rfl, hm⟩ := ih vs ys (by simpa using hl) (fun j v h => by simpa using hv (j + 1) v (by simpa using h)) h2
      obtain ⟨c1, u, u', e1, rfl⟩ := h1
      obtain ⟨c2, u2, e2, e3⟩ := hv 0 v (by simp)
      rw [e1] at e3
      injection e3 with e3 _
      injection e3 with e3
      have ec : c1 = c2 := by simpa using e3
      have ec2 : c = c2 := by simpa using e2
      subst ec ec2
      exact ⟨(⟨#[92, c]⟩, u') :: l, rfl, by simp [hm]⟩
section
variable {prog : Program} {w : World} {A : Around} {E : Value → Shared → Prop} {s : Shared} {h₀ : Heap} {L : Addr} {m : Str → Option Value} {news : List (Addr × Obj)} {cn : Str} {cs : Scope} {a : Addr} {ccd : Value}
theorem esc_comp_K {x : Str} {t : Tok} {k : Nat} {p1 p2 p3 p4 px pos : Pos} {scope : Scope} {Q : Value → Shared → Prop} (hh : A.handled = none) (F : Fr h₀ L s.heap m) (N : News h₀ L s.heap news)
    (hr : m (Str.ofString "reply") = some (.str x t)) (hx : x.length ≤ 1000) (hck : cs.kind = .function) (hcl : (envOf cn cs L a ccd).kindOf (Str.ofString "reply") = some .local)
    (hfree : ∀ y ∈ scope.names, y.2 ≠ .free) (hcell : ∀ y ∈ scope.names, y.2 ≠ .cell) (hkind : scope.kind = .function)
    (hnames : ∀ y ∈ scope.names, y.2 = .local → scope.names.lookup y.1 = some .local) (hsx : scope.names.lookup (Str.ofString "sign") = some .local)
    (h : ∀ D l h' tk, l.map (·.1) = x.cps.toList.map (fun c => (⟨#[92, c]⟩ : Str)) → h'.IsList D (strValues l).toArray → Fr h₀ L h' m → News h₀ L h' news → Q (.ref D) { s with heap := h', toks := tk }) :
    wpAny (model prog w) A (eval (.ListComp (.BinOp (.Constant (.str (Str.ofString "\\")) k p1) .Add (.Name (Str.ofString "sign") p2) p3) [⟨.Name (Str.ofString "sign") px, .Name (Str.ofString "reply") p4, [], 0⟩] scope pos) (envOf cn cs L a ccd)) Q E s := by
  refine wpAny_ListComp_walk (fun _ => true) escF hfree hcell hkind hnames hsx (ld F hr ?_ hck hcl) (by intro _; rfl)
  refine wpAny_pyIter_str (fun o St hW hst => ?_)
  refine ⟨_, _, _, _, SignAt x, _, rfl, hW A hh, ?_, hst, ?_, ⟨?_, ?_⟩, ?_⟩
  · exact Nat.le_trans hx (by rw [sizeLine_eq]; omega)
  · intro b hb
    rw [List.mem_singleton.mp hb]
    simp [Heap.push]
  · intro C i v s₃ m₃ E' _ _ _ _ _
    exact wpAny_pure ⟨rfl, s₃.heap, s₃.toks, rfl, fun _ _ e => e⟩
  · intro C i v s₃ m₃ E' hP _ hn hm hk _
    obtain ⟨c, u, hc, rfl⟩ := hP
    refine wpAny_BinOp (wpAny_Constant_str (wpAny_Name (wpAny_loadName_local hkind ?_ hn hm ?_)))
    · show (scope.names.lookup _) = _
      exact hsx
    · refine SB.add (fun t' k' => ⟨⟨c, u, t', rfl, ?_⟩, s₃.heap, k', rfl, fun _ _ e => e⟩) ?_
      · rw [back_is]; rfl
      · rw [sizeLine_eq, back_is]; show (#[92] : Array Nat).size + (#[c] : Array Nat).size ≤ _; simp
  · intro D h' tk ys vs hD hl hpl hlen hP hF hk
    have hv : vs.filter (fun _ => true) = vs := List.filter_eq_self.mpr (fun _ _ => rfl)
    rw [hv] at hF
    obtain ⟨l, e1, e2⟩ := esc_vals x.cps.toList vs ys.toList (by simpa using hlen) (fun j v hj => by
      obtain ⟨c, u, hc, e⟩ := hP j v hj
      exact ⟨c, u, by simpa using hc, e⟩) hF
    have hyl : ys = (strValues l).toArray := by rw [← e1]
    rw [hyl] at hl
    refine h D l h' tk e2 hl ?_ ?_
    · refine fr_but (F.push o) (I := s.heap.objs.size) (fun e => ?_) ?_ (fun b ob hb e => hk b ob (by simpa using hb) e)
      · exact absurd F.ns.lt (by rw [e]; exact Nat.lt_irrefl _)
      · cases e : h₀.get? s.heap.objs.size with
        | none => rfl
        | some o => exact absurd (Heap.lt_size (F.keep _ _ e)) (Nat.lt_irrefl _)
    · refine news_but (I := s.heap.objs.size) (h := s.heap.push o) (fun p hp => ⟨Heap.get?_push_of_some _ (N p hp).1, (N p hp).2⟩) (fun p hp e => ?_) (fun b ob hb e => hk b ob (by simpa using hb) e)
      exact absurd (Heap.lt_size (N p hp).1) (by rw [e]; exact Nat.lt_irrefl _)
end
end Mine
end
section
open PySem PySem.W PyProof.Rows PySem.Calls PySem.Spec
set_option maxRecDepth 100000
namespace Mine
section
variable {prog : Program} {w : World} {A : Around} {R : Result → Shared → Prop} {s : Shared} {target : PySem.Expr} {it : Value} {body orelse : List Stmt} {env : Env}
theorem for_turn2
    (h : wpAny (model prog w) A (pyNext it) (fun r s₁ => match r with
      | none => wpAny (model prog w) A (execs orelse env) (fun f s₃ => R (.ok f) s₃) (notedBy (model prog w) A env fun e s' => R (.error e) s') s₁
      | some v => wpAny (model prog w) A (letOwnedTupleGo target it v) (fun _ s₁' => wpAny (model prog w) A (assign target env v) (fun _ s₂ => wpAny (model prog w) A (execs body env) (fun f s₃ => match f with
          | .next | .cont => codeAny (model prog w) A (.forLoop target it body orelse env) R s₃
          | .brk => R (.ok .next) s₃
          | .ret v => R (.ok (.ret v)) s₃) (notedBy (model prog w) A env fun e s' => R (.error e) s') s₂) (notedBy (model prog w) A env fun e s' => R (.error e) s') s₁') (notedBy (model prog w) A env fun e s' => R (.error e) s') s₁) (notedBy (model prog w) A env fun e s' => R (.error e) s') s)
    : codeAny (model prog w) A (.forLoop target it body orelse env) R s := by
  refine codeAny_loop' rfl (fun _ s' => s' = s) (fun n s' e => ?_) 0 rfl
  subst e
  show wpAny _ _ ((forTurn target it body orelse env).onRaise (fun x => do noteFrame x env; theTreesLotGoes x)) _ _ s'
  refine wpAny_noted ?_
  simp only [forTurn]
  refine wpAny_bind (wpAny_standAt (wpAny_bind (wpAny_onRaise (wpAny_mono h (fun r s₁ h₁ => ?_) fun _ _ h' => wpAny_standAt h'))))
  cases r with
  | none => exact wpAny_pure (.inr ⟨rfl, codeAny_block h₁⟩)
  | some v =>
    refine wpAny_bind (wpAny_mono h₁ (fun _ s₁' h₁' => ?_) fun _ _ h' => h')
    refine wpAny_bind (wpAny_mono h₁' (fun _ s₂ h₂ => wpAny_bind (wpAny_mono h₂ (fun f s₃ h₃ => ?_) fun _ _ h' => h')) fun _ _ h' => h')
    cases f with
    | next => exact wpAny_pure (.inr ⟨rfl, h₃⟩)
    | cont => exact wpAny_pure (.inr ⟨rfl, h₃⟩)
    | brk => exact wpAny_pure h₃
    | ret v => exact wpAny_pure h₃
end
noncomputable def LIter (o : Obj) (l : Addr) (i : Nat) : Prop := o.cls = .type "list_iterator" ∧ o.data = .fields #[.ref l, .int i 0]
section
variable {prog : Program} {w : World} {A : Around} {E : Value → Shared → Prop} {s : Shared} {g : Heap} {L : Addr} {m : Str → Option Value} {news : List (Addr × Obj)} {I l : Addr} {o : Obj} {i c : Nat} {items : List Value}
theorem liter_at {h : Heap} (N : News g L h ((I, o) :: news)) (ho : LIter o l i) : h.IsListIter I l i := ⟨o, (N _ (.head _)).1, ho.1, ho.2⟩
theorem next_list_K {x : Value} {Q : Option Value → Shared → Prop} (F : Fr g L s.heap m) (N : News g L s.heap ((I, o) :: news)) (ho : LIter o l i) (hl : (l, W.listOf items.toArray c) ∈ news) (hx : items[i]? = some x) (hne : ∀ p ∈ news, p.1 ≠ I)
    (h : ∀ h' o', LIter o' l (i + 1) → Fr g L h' m → News g L h' ((I, o') :: news) → Q (some x) { s with heap := h' }) : wpAny (model prog w) A (pyNext (.ref I)) Q E s := by
  have hI := N (I, o) (.head _)
  have N' : News g L s.heap news := fun p hp => N p (.tail _ hp)
  refine wpAny_pyNext_list_item (items := items.toArray) (liter_at N ho) (N'.isList hl) (by simpa using hx) fun h' hit hs => ?_
  obtain ⟨o', e1, e2, e3⟩ := hit
  have k : ∀ b ob, b ≠ I → s.heap.get? b = some ob → h'.get? b = some ob := fun b ob hb e => (hs.2 b (by first | exact hb | exact Ne.symm hb)).trans e
  refine h h' o' ⟨e2, e3⟩ (fr_but F (Ne.symm hI.2.1) hI.2.2 k) ?_
  intro p hp
  cases hp with
  | head => exact ⟨e1, hI.2⟩
  | tail _ hp => exact ⟨k _ _ (hne p hp) (N' p hp).1, (N' p hp).2⟩
theorem end_list_K {Q : Option Value → Shared → Prop} (hh : A.handled = none) (F : Fr g L s.heap m) (N : News g L s.heap ((I, o) :: news)) (ho : LIter o l i) (hl : (l, W.listOf items.toArray c) ∈ news) (hx : items[i]? = none) (hne : ∀ p ∈ news, p.1 ≠ I)
    (h : ∀ h', Fr g L h' m → News g L h' news → Q none { s with heap := h' }) : wpAny (model prog w) A (pyNext (.ref I)) Q E s := by
  have hI := N (I, o) (.head _)
  have N' : News g L s.heap news := fun p hp => N p (.tail _ hp)
  refine wpAny_pyNext_list_end (items := items.toArray) hh (liter_at N ho) (N'.isList hl) (by simpa using hx) fun h' hs => ?_
  have k : ∀ b ob, b ≠ I → s.heap.get? b = some ob → h'.get? b = some ob := fun b ob hb e => hs b ob (by first | exact hb | exact Ne.symm hb) e
  exact h h' (fr_but F (Ne.symm hI.2.1) hI.2.2 k) (news_but N' hne k)
theorem iter_list_K {Q : Value → Shared → Prop} (F : Fr g L s.heap m) (N : News g L s.heap news) (hl : (l, W.listOf items.toArray c) ∈ news)
    (h : ∀ I h' o', LIter o' l 0 → Fr g L h' m → News g L h' ((I, o') :: news) → (∀ p ∈ news, p.1 < I) → Q (.ref I) { s with heap := h' }) : wpAny (model prog w) A (pyIter (.ref l)) Q E s :=
  wpAny_pyIter_list (N.isList hl) (h _ _ _ ⟨rfl, rfl⟩ (F.push _) (N.push F _) fun p hp => Heap.lt_size (N p hp).1)
end
section
variable {prog : Program} {w : World} {A : Around} {R : Result → Shared → Prop} {s : Shared} {target : PySem.Expr} {body : List Stmt} {env : Env} {g : Heap} {L : Addr} {os : OsState} {I l : Addr}
theorem for_list {items : List Value} {c : Nat} (hh : A.handled = none) (J : Nat → (Str → Option Value) → List (Addr × Obj) → Prop)
    (hJ : ∀ i m news, J i m news → (l, W.listOf items.toArray c) ∈ news ∧ ∀ p ∈ news, p.1 ≠ I)
    (hlet : ∀ (i : Nat) (v : Value) (s : Shared) (Q : Unit → Shared → Prop) (E : Value → Shared → Prop), v ∈ items → s.heap.IsListIter I l i → Q () s → wpAny (model prog w) A (letOwnedTupleGo target (.ref I) v) Q E s)
    (turn : ∀ (i : Nat) (v : Value) (o' : Obj) (m : Str → Option Value) (news : List (Addr × Obj)) (s : Shared), items[i]? = some v → J i m news → Fr g L s.heap m → News g L s.heap ((I, o') :: news) → AllBare s.gens → s.os = os →
      wpAny (model prog w) A (assign target env v) (fun _ s₂ => wpAny (model prog w) A (execs body env) (fun f s₃ => match f with
          | .next | .cont => ∃ m₃ news₃, J (i + 1) m₃ news₃ ∧ Fr g L s₃.heap m₃ ∧ News g L s₃.heap ((I, o') :: news₃) ∧ AllBare s₃.gens ∧ s₃.os = os
          | .brk => R (.ok .next) s₃
          | .ret v => R (.ok (.ret v)) s₃) (notedBy (model prog w) A env fun e s' => R (.error e) s') s₂) (notedBy (model prog w) A env fun e s' => R (.error e) s') s)
    (done : ∀ (m : Str → Option Value) (news : List (Addr × Obj)) (s : Shared), J items.length m news → Fr g L s.heap m → News g L s.heap news → AllBare s.gens → s.os = os → R (.ok .next) s) :
    ∀ (k i : Nat) (m : Str → Option Value) (news : List (Addr × Obj)) (o' : Obj) (s : Shared), i + k = items.length → LIter o' l i → J i m news → Fr g L s.heap m → News g L s.heap ((I, o') :: news) → AllBare s.gens → s.os = os →
      codeAny (model prog w) A (.forLoop target (.ref I) body [] env) R s := by
  intro k
  induction k with
  | zero =>
    intro i m news o' s hk ho hj F N hb hos
    obtain ⟨hl, hne⟩ := hJ i m news hj
    refine for_turn2 (end_list_K hh F N ho hl (by simp; omega) hne fun h' F' N' => ?_)
    refine wpAny_execs_nil ?_
    rw [show i = items.length by omega] at hj
    exact done m news _ hj F' N' hb hos
  | succ k ih =>
    intro i m news o' s hk ho hj F N hb hos
    obtain ⟨hl, hne⟩ := hJ i m news hj
    have hi : items[i]? = some items[i] := by simp
    refine for_turn2 (next_list_K F N ho hl hi hne fun h' o2 ho2 F2 N2 => ?_)
    refine hlet (i + 1) _ _ _ _ (List.mem_of_getElem? hi) (liter_at N2 ho2) ?_
    refine wpAny_mono (turn i _ o2 m news _ hi hj F2 N2 hb hos) (fun _ s₂ h₂ => wpAny_mono h₂ (fun f s₃ h₃ => ?_) fun _ _ e => e) fun _ _ e => e
    have nx : (∃ m₃ news₃, J (i + 1) m₃ news₃ ∧ Fr g L s₃.heap m₃ ∧ News g L s₃.heap ((I, o2) :: news₃) ∧ AllBare s₃.gens ∧ s₃.os = os) → codeAny (model prog w) A (.forLoop target (.ref I) body [] env) R s₃ := by
      rintro ⟨m₃, news₃, hj3, F3, N3, hb3, ho3⟩
      exact ih (i + 1) m₃ news₃ o2 s₃ (by omega) ho2 hj3 F3 N3 hb3 ho3
    cases f with
    | next => exact nx h₃
    | cont => exact nx h₃
    | brk => exact h₃
    | ret v => exact h₃
end
end Mine
end
section
open PySem PySem.W PyProof.Rows PySem.Calls PySem.Spec
set_option maxRecDepth 100000
namespace Mine
inductive Book : List Nat → List Str → Prop
  | nil {bk} : lexO bk = some ([], []) → Book bk []
  | cons {bk bk' r rs} : lexO bk = some (r.cps.toList, bk') → bk'.length ≤ bk.length → nls bk' ≤ nls bk → Book bk' rs → Book bk (r :: rs)
theorem Book.nilInv {bk : List Nat} (h : Book bk []) : lexO bk = some ([], []) := by
  cases h with
  | nil a => exact a
theorem Book.inv {bk : List Nat} {r : Str} {rs : List Str} (h : Book bk (r :: rs)) : ∃ bk', lexO bk = some (r.cps.toList, bk') ∧ bk'.length ≤ bk.length ∧ nls bk' ≤ nls bk ∧ Book bk' rs := by
  cases h with
  | cons a b c d => exact ⟨_, a, b, c, d⟩
noncomputable def fifo : List (Bool × Int) → List (Str × Int) → List (Str × Int) → Option (List Int)
  | [], [], [] => some []
  | (true, _) :: t, r :: up, q => fifo t up (q ++ [r])
  | (false, n) :: t, up, r :: q => (fifo t up q).map ((n - r.2) :: ·)
  | _, _, _ => none
inductive QV : List Value → List (Str × Int) → Prop
  | nil : QV [] []
  | cons {r n vs rs} (t : Tok) : RepF r n → 0 ≤ n → n ≤ 400 → QV vs rs → QV (.str r t :: vs) ((r, n) :: rs)
theorem QV.nilInv {pb : List Value} (h : QV pb []) : pb = [] := by
  cases h; rfl
theorem QV.inv {pb : List Value} {r : Str × Int} {q : List (Str × Int)} (h : QV pb (r :: q)) : ∃ rs rn pb' t, pb = .str rs t :: pb' ∧ r = (rs, rn) ∧ RepF rs rn ∧ 0 ≤ rn ∧ rn ≤ 400 ∧ QV pb' q := by
  cases h with
  | cons t a b c d => exact ⟨_, _, _, t, rfl, rfl, a, b, c, d⟩
theorem QV.append {a b : List Value} {x y : List (Str × Int)} (h : QV a x) (k : QV b y) : QV (a ++ b) (x ++ y) := by
  induction h with
  | nil => exact k
  | cons t h1 h2 h3 _ ih => exact .cons t h1 h2 h3 ih
inductive StrV : List Value → List Str → Prop
  | nil : StrV [] []
  | cons {r vs rs} (t : Tok) : StrV vs rs → StrV (.str r t :: vs) (r :: rs)
theorem StrV.append {a b : List Value} {x y : List Str} (h : StrV a x) (k : StrV b y) : StrV (a ++ b) (x ++ y) := by
  induction h with
  | nil => exact k
  | cons t _ ih => exact .cons t ih
theorem StrV.length {a : List Value} {x : List Str} (h : StrV a x) : a.length = x.length := by
  induction h with
  | nil => rfl
  | cons _ _ ih => simp [ih]
inductive HrAt (news : List (Addr × Obj)) : List Value → List (Bool × Int) → Prop
  | nil : HrAt news [] []
  | cons {a b n vs hs} (t : Tok) (c : Nat) : (a, ({ cls := .type "tuple", data := .seq #[.bool b, .int n t] c } : Obj)) ∈ news → 0 ≤ n → n ≤ 400 → HrAt news vs hs → HrAt news (.ref a :: vs) ((b, n) :: hs)
theorem HrAt.mono {news news' : List (Addr × Obj)} {vs : List Value} {hs : List (Bool × Int)} (h : HrAt news vs hs) (k : ∀ p ∈ news, p ∈ news') : HrAt news' vs hs := by
  induction h with
  | nil => exact .nil
  | cons t c hm h1 h2 _ ih => exact .cons t c (k _ hm) h1 h2 ih
theorem HrAt.get {news : List (Addr × Obj)} {vs : List Value} {hs : List (Bool × Int)} (h : HrAt news vs hs) : ∀ {i : Nat} {v : Value}, vs[i]? = some v →
    ∃ a b n t c, v = .ref a ∧ hs[i]? = some (b, n) ∧ (a, ({ cls := .type "tuple", data := .seq #[.bool b, .int n t] c } : Obj)) ∈ news ∧ 0 ≤ n ∧ n ≤ 400 := by
  induction h with
  | nil => intro i v hv; simp at hv
  | cons t c hm h1 h2 _ ih =>
    intro i v hv
    cases i with
    | zero => simp at hv; exact ⟨_, _, _, t, c, hv.symm, by simp, hm, h1, h2⟩
    | succ i => exact ih (by simpa using hv)
theorem HrAt.length {news : List (Addr × Obj)} {vs : List Value} {hs : List (Bool × Int)} (h : HrAt news vs hs) : vs.length = hs.length := by
  induction h with
  | nil => rfl
  | cons _ _ _ _ _ _ ih => simp [ih]
theorem news_ne (w : World) (x : LxC) {vs : Array Value} {tq : Tok} (ok : x.Ok vs tq) (a : Addr) (h : @LT.lt Nat _ a x.C ∨ @LT.lt Nat _ x.P a) (hc : @Ne Nat x.c' a) (pb : List Value) (np : Nat) (ln : Int) (tl : Tok) (us : List Value) (ng : Nat) : ∀ p ∈ x.news w pb np ln tl us ng, p.1 ≠ a := by
  exact h.elim (fun h => news_over ok w a h hc _ _ _ _ _ _) (fun h => news_below ok w a h _ _ _ _ _ _)
theorem all_app {α : Type} {P : α → Prop} {a b : List α} (h : ∀ p ∈ a, P p) (k : ∀ p ∈ b, P p) : ∀ p ∈ a ++ b, P p := fun p hp => (List.mem_append.mp hp).elim (h p) (k p)
theorem mem_r1 {α : Type} {x : α} {a b : List α} : ∀ p ∈ a ++ x :: b, p ∈ x :: (a ++ b) := by
  intro p hp
  rcases List.mem_append.mp hp with h | h
  · exact .tail _ (List.mem_append_left _ h)
  · cases h with
    | head => exact .head _
    | tail _ h => exact .tail _ (List.mem_append_right _ h)
theorem mem_r2 {α : Type} {x : α} {a b c : List α} : ∀ p ∈ b ++ x :: (a ++ c), p ∈ x :: (a ++ (b ++ c)) := by
  intro p hp
  rcases List.mem_append.mp hp with h | h
  · exact .tail _ (List.mem_append_right _ (List.mem_append_left _ h))
  · cases h with
    | head => exact .head _
    | tail _ h => rcases List.mem_append.mp h with h | h
                  · exact .tail _ (List.mem_append_left _ h)
                  · exact .tail _ (List.mem_append_right _ (List.mem_append_right _ h))
theorem mem_r1' {α : Type} {x : α} {a b : List α} : ∀ p ∈ x :: (a ++ b), p ∈ a ++ x :: b := by
  intro p hp
  cases hp with
  | head => exact List.mem_append_right _ (.head _)
  | tail _ h => rcases List.mem_append.mp h with h | h
                · exact List.mem_append_left _ h
                · exact List.mem_append_right _ (.tail _ h)
theorem mem_r2' {α : Type} {x : α} {a b c : List α} : ∀ p ∈ x :: (a ++ (b ++ c)), p ∈ b ++ x :: (a ++ c) := by
  intro p hp
  cases hp with
  | head => exact List.mem_append_right _ (.head _)
  | tail _ h => rcases List.mem_append.mp h with h | h
                · exact List.mem_append_right _ (.tail _ (List.mem_append_left _ h))
                · rcases List.mem_append.mp h with h | h
                  · exact List.mem_append_left _ h
                  · exact List.mem_append_right _ (.tail _ (List.mem_append_right _ h))
theorem nls_lo (cs : List Nat) : 0 ≤ nls cs := by unfold nls; omega
theorem nls_hi (cs : List Nat) : nls cs ≤ cs.length := by unfold nls; have := List.length_filter_le (· == 10) cs; omega
theorem str_back (r : Str) : (⟨r.cps.toList.toArray⟩ : Str) = r := by cases r; simp
noncomputable def EndAt (J : (Str → Option Value) → List (Addr × Obj) → Prop) (g : Heap) (L I : Addr) (o' : Obj) (os : OsState) (s : Shared) : Prop :=
  ∃ m news, J m news ∧ Fr g L s.heap m ∧ News g L s.heap ((I, o') :: news) ∧ AllBare s.gens ∧ s.os = os
noncomputable def blStmt : Stmt := sAt PP.main.body 17
noncomputable def blFor : Stmt := sAt (fdBody blStmt) 1
noncomputable abbrev blName : Str := Str.ofString "_law_by_line"
noncomputable abbrev blEnv (L : Addr) : Env := envOf blName (fdScope blStmt) L 161 (.ref 160)
noncomputable abbrev blMap (lh : Addr) (book : Value) (D1 D2 rl wl : Addr) (cv nv : Option Value) : Str → Option Value := fun y =>
  if y = Str.ofString "comes" then cv else if y = Str.ofString "now" then nv else if y = Str.ofString "desk" then some (.ref D1) else if y = Str.ofString "line" then some (.ref D2)
  else if y = Str.ofString "replies" then some (.ref rl) else if y = Str.ofString "waits" then some (.ref wl) else if y = Str.ofString "hours" then some (.ref lh) else if y = Str.ofString "book" then some book else none
noncomputable abbrev blNews (w : World) (xd xl : LxC) (rl wl : Addr) (tl : List (Addr × Obj)) (npd : Nat) (lnd : Int) (tld : Tok) (usd : List Value) (ngd : Nat) (pb : List Value) (npl : Nat) (tll : Tok) (ngl : Nat) (rv : List Value) (n1 : Nat) (wv : List Value) (n2 : Nat) : List (Addr × Obj) :=
  xd.news w [] npd lnd tld usd ngd ++ (xl.news w pb npl 1 tll [] ngl ++ ((rl, W.listOf rv.toArray n1) :: (wl, W.listOf wv.toArray n2) :: tl))
structure BlInv (w : World) (xd xl : LxC) (rl wl lh : Addr) (book : Value) (tl : List (Addr × Obj)) (hs : List (Bool × Int)) (bk0 : List Nat) (all : List Str) (ws : List Int) (i : Nat) (m : Str → Option Value) (news : List (Addr × Obj)) : Prop where
  out : ∃ (npd : Nat) (lnd : Int) (tld : Tok) (usd : List Value) (ngd : Nat) (pb : List Value) (npl : Nat) (tll : Tok) (ngl : Nat) (rv : List Value) (n1 : Nat) (wv : List Value) (n2 : Nat) (bk : List Nat) (up q : List (Str × Int)) (wsd wsr : List Int) (rd : List Str) (cv nv : Option Value),
    news = blNews w xd xl rl wl tl npd lnd tld usd ngd pb npl tll ngl rv n1 wv n2 ∧ (∀ y, m y = blMap lh book xd.D xl.D rl wl cv nv y) ∧ Book bk (up.map (·.1)) ∧ SV usd bk.reverse ∧ bk.length < 400 ∧ 1 ≤ lnd ∧ lnd + nls bk = 1 + nls bk0 ∧
    QV pb q ∧ (∀ r ∈ up, RepF r.1 r.2 ∧ 0 ≤ r.2 ∧ r.2 ≤ 400) ∧ fifo (hs.drop i) up q = some wsr ∧ IntsAre wv wsd ∧ wsd ++ wsr = ws ∧ StrV rv rd ∧ rd ++ up.map (·.1) = all ∧ pb.length ≤ i ∧ rv.length ≤ i ∧ wv.length ≤ i
end Mine
end
section
open PySem PySem.W PyProof.Rows PySem.Calls PySem.Spec PyProof.Rows.LCg
set_option maxRecDepth 100000
namespace Mine
noncomputable abbrev testsOf (ifs : List PySem.Expr) (env : Env) : Sem Bool := forIn ifs true fun c r => if r = true then do let ok ← isTrue c env (eval c env); pure (ForInStep.yield ok) else pure (ForInStep.yield r)
section
variable {prog : Program} {w : World} {A : Around} {R : Result → Shared → Prop} {s : Shared} {elt target iter t2 i2 : PySem.Expr} {ifs : List PySem.Expr} {scope : Scope} {pos : Pos} {it acc : Value} {env : Env}
noncomputable abbrev EE (prog : Program) (w : World) (A : Around) (env : Env) (R : Result → Shared → Prop) : Value → Shared → Prop := notedBy (model prog w) A env fun e s' => R (.error e) s'
theorem comp_turn1
    (h : wpAny (model prog w) A (pyNext it) (fun r s₁ => match r with
      | none => R (.ok .next) s₁
      | some v => wpAny (model prog w) A (letOwnedTupleGo target it v) (fun _ s₁' => wpAny (model prog w) A (assign target env v) (fun _ s₂ => wpAny (model prog w) A (testsOf ifs env) (fun ok s₃ => if ok = true then
            wpAny (model prog w) A (eval elt env) (fun x s₄ => wpAny (model prog w) A (call (.builtin "list.append") [acc, x]) (fun _ s₅ => codeAny (model prog w) A (.compLoop (.ListComp elt [⟨target, iter, ifs, 0⟩] scope pos) 0 it acc env) R s₅) (EE prog w A env R) s₄) (EE prog w A env R) s₃
            else codeAny (model prog w) A (.compLoop (.ListComp elt [⟨target, iter, ifs, 0⟩] scope pos) 0 it acc env) R s₃) (EE prog w A env R) s₂) (EE prog w A env R) s₁') (EE prog w A env R) s₁) (EE prog w A env R) s)
    : codeAny (model prog w) A (.compLoop (.ListComp elt [⟨target, iter, ifs, 0⟩] scope pos) 0 it acc env) R s := by
  refine codeAny_loop' rfl (fun _ s' => s' = s) (fun n s' e => ?_) 0 rfl
  subst e
  show wpAny _ _ ((compTurn (.ListComp elt [⟨target, iter, ifs, 0⟩] scope pos) 0 it acc env).onRaise (fun x => do noteFrame x env; theTreesLotGoes x)) _ _ s'
  refine wpAny_noted ?_
  rw [compTurn_list]
  refine wpAny_bind (wpAny_standAt (wpAny_bind (wpAny_mono h (fun r s₁ h₁ => ?_) fun _ _ h' => h')))
  cases r with
  | none => exact wpAny_pure h₁
  | some v =>
    refine wpAny_bind (wpAny_mono h₁ (fun _ s₁' h₁' => ?_) fun _ _ h' => h')
    refine wpAny_bind (wpAny_mono h₁' (fun _ s₂ h₂ => wpAny_bind (wpAny_mono h₂ (fun ok s₃ h₃ => ?_) fun _ _ h' => h')) fun _ _ h' => h')
    cases ok with
    | true =>
      simp only [if_true] at h₃ ⊢
      exact wpAny_bind (wpAny_bind (wpAny_mono h₃ (fun x s₄ h₄ => wpAny_bind (wpAny_mono h₄ (fun _ s₅ h₅ => wpAny_pure (wpAny_pure (.inr ⟨rfl, h₅⟩))) fun _ _ h' => h')) fun _ _ h' => h'))
    | false => exact wpAny_pure (.inr ⟨rfl, h₃⟩)
theorem comp_turn2i
    (h : wpAny (model prog w) A (pyNext it) (fun r s₁ => match r with
      | none => R (.ok .next) s₁
      | some v => wpAny (model prog w) A (letOwnedTupleGo t2 it v) (fun _ s₁' => wpAny (model prog w) A (assign t2 env v) (fun _ s₂ => 
            wpAny (model prog w) A (eval elt env) (fun x s₄ => wpAny (model prog w) A (call (.builtin "list.append") [acc, x]) (fun _ s₅ => codeAny (model prog w) A (.compLoop (.ListComp elt [⟨target, iter, [], 0⟩, ⟨t2, i2, [], 0⟩] scope pos) 1 it acc env) R s₅) (EE prog w A env R) s₄) (EE prog w A env R) s₂
            ) (EE prog w A env R) s₁') (EE prog w A env R) s₁) (EE prog w A env R) s)
    : codeAny (model prog w) A (.compLoop (.ListComp elt [⟨target, iter, [], 0⟩, ⟨t2, i2, [], 0⟩] scope pos) 1 it acc env) R s := by
  refine codeAny_loop' rfl (fun _ s' => s' = s) (fun n s' e => ?_) 0 rfl
  subst e
  show wpAny _ _ ((compTurn (.ListComp elt [⟨target, iter, [], 0⟩, ⟨t2, i2, [], 0⟩] scope pos) 1 it acc env).onRaise (fun x => do noteFrame x env; theTreesLotGoes x)) _ _ s'
  refine wpAny_noted ?_
  show wpAny _ _ (standAt i2.pos >>= fun _ => pyNext it >>= fun r => match r with
      | none => pure (.done .next)
      | some v => letOwnedTupleGo t2 it v >>= fun _ => assign t2 env v >>= fun _ =>
        (eval elt env >>= fun x => call (.builtin "list.append") [acc, x] >>= fun _ => pure ()) >>= fun _ =>
          again (.compLoop (.ListComp elt [⟨target, iter, [], 0⟩, ⟨t2, i2, [], 0⟩] scope pos) 1 it acc env)) _ _ s'
  refine wpAny_bind (wpAny_standAt (wpAny_bind (wpAny_mono h (fun r s₁ h₁ => ?_) fun _ _ h' => h')))
  cases r with
  | none => exact wpAny_pure h₁
  | some v =>
    refine wpAny_bind (wpAny_mono h₁ (fun _ s₁' h₁' => ?_) fun _ _ h' => h')
    refine wpAny_bind (wpAny_mono h₁' (fun _ s₂ h₂ => ?_) fun _ _ h' => h')
    exact wpAny_bind (wpAny_bind (wpAny_mono h₂ (fun x s₄ h₄ => wpAny_bind (wpAny_mono h₄ (fun _ s₅ h₅ => wpAny_pure (wpAny_pure (.inr ⟨rfl, h₅⟩))) fun _ _ h' => h')) fun _ _ h' => h'))
theorem comp_turn2o (hfold : ∀ x, foldedSetIterable i2 env x = pure x)
    (h : wpAny (model prog w) A (pyNext it) (fun r s₁ => match r with
      | none => R (.ok .next) s₁
      | some v => wpAny (model prog w) A (letOwnedTupleGo target it v) (fun _ s₁' => wpAny (model prog w) A (assign target env v) (fun _ s₂ => 
            wpAny (model prog w) A (eval i2 env) (fun x s₄ => wpAny (model prog w) A (pyIter x) (fun it2 s₅ => codeAny (model prog w) A (.compStart (.ListComp elt [⟨target, iter, [], 0⟩, ⟨t2, i2, [], 0⟩] scope pos) 1 it2 acc env)
                (fun r s' => match r with | .ok _ => codeAny (model prog w) A (.compLoop (.ListComp elt [⟨target, iter, [], 0⟩, ⟨t2, i2, [], 0⟩] scope pos) 0 it acc env) R s' | .error e => cameBackBy (model prog w) A env (EE prog w A env R) e s') s₅) (EE prog w A env R) s₄) (EE prog w A env R) s₂
            ) (EE prog w A env R) s₁') (EE prog w A env R) s₁) (EE prog w A env R) s)
    : codeAny (model prog w) A (.compLoop (.ListComp elt [⟨target, iter, [], 0⟩, ⟨t2, i2, [], 0⟩] scope pos) 0 it acc env) R s := by
  refine codeAny_loop' rfl (fun _ s' => s' = s) (fun n s' e => ?_) 0 rfl
  subst e
  show wpAny _ _ ((compTurn (.ListComp elt [⟨target, iter, [], 0⟩, ⟨t2, i2, [], 0⟩] scope pos) 0 it acc env).onRaise (fun x => do noteFrame x env; theTreesLotGoes x)) _ _ s'
  refine wpAny_noted ?_
  show wpAny _ _ (standAt iter.pos >>= fun _ => pyNext it >>= fun r => match r with
      | none => pure (.done .next)
      | some v => letOwnedTupleGo target it v >>= fun _ => assign target env v >>= fun _ =>
        (eval i2 env >>= fun x => standAt i2.pos >>= fun _ => foldedSetIterable i2 env x >>= fun x => holding [x] (pyIter x) >>= fun it2 => runOwn (.compStart (.ListComp elt [⟨target, iter, [], 0⟩, ⟨t2, i2, [], 0⟩] scope pos) 1 it2 acc env) env >>= fun _ =>
          again (.compLoop (.ListComp elt [⟨target, iter, [], 0⟩, ⟨t2, i2, [], 0⟩] scope pos) 0 it acc env))) _ _ s'
  refine wpAny_bind (wpAny_standAt (wpAny_bind (wpAny_mono h (fun r s₁ h₁ => ?_) fun _ _ h' => h')))
  cases r with
  | none => exact wpAny_pure h₁
  | some v =>
    refine wpAny_bind (wpAny_mono h₁ (fun _ s₁' h₁' => ?_) fun _ _ h' => h')
    refine wpAny_bind (wpAny_mono h₁' (fun _ s₂ h₂ => ?_) fun _ _ h' => h')
    refine wpAny_bind (wpAny_mono h₂ (fun x s₄ h₄ => ?_) fun _ _ h' => h')
    refine wpAny_bind (wpAny_standAt (wpAny_bind (wpAny_of_eq (hfold x) (wpAny_bind (wpAny_holding (wpAny_mono h₄ (fun it2 s₅ h₅ => ?_) fun _ _ h' => h'))))))
    refine wpAny_bind (wpAny_runOwn (codeAny_mono h₅ fun r s' hr => ?_))
    cases r with
    | ok f => exact wpAny_pure (.inr ⟨rfl, hr⟩)
    | error e => exact hr
theorem compStart_at1
    (h0 : codeAny (model prog w) A (.compLoop (.ListComp elt [⟨target, iter, [], 0⟩, ⟨t2, i2, [], 0⟩] scope pos) 1 it acc env) R s)
    (h : wpAny (model prog w) A (pyIter it) (fun it' s' => codeAny (model prog w) A (.compLoop (.ListComp elt [⟨target, iter, [], 0⟩, ⟨t2, i2, [], 0⟩] scope pos) 1 it' acc env) R s')
      (notedBy (model prog w) A env fun x s' => R (.error x) s') s) :
    codeAny (model prog w) A (.compStart (.ListComp elt [⟨target, iter, [], 0⟩, ⟨t2, i2, [], 0⟩] scope pos) 1 it acc env) R s := by
  refine codeAny_of_tree ?_
  show wpAny _ _ ((compStart (.ListComp elt [⟨target, iter, [], 0⟩, ⟨t2, i2, [], 0⟩] scope pos) 1 it acc env).onRaise (fun x => do noteFrame x env; standAt theWindowsPlace)) _ _ s
  refine wpAny_notedAt ?_
  unfold compStart
  show wpAny _ _ (ask >>= _) _ _ s
  refine wpAny_bind (wpAny_askSetting (wpAny_ite ?_))
  split
  · first
      | exact wpAny_bind (wpAny_pure (wpAny_pure (And.intro rfl h0)))
      | exact wpAny_pure (And.intro rfl h0)
  · first
      | exact wpAny_bind (wpAny_rule (wpAny_bind (wpAny_standAt (wpAny_bind (wpAny_mono h (fun it' s' h' => wpAny_pure (And.intro rfl h')) fun _ _ x => x)))))
      | (refine wpAny_bind (wpAny_rule ?_); show wpAny _ _ (standAt i2.pos >>= _) _ _ s; exact wpAny_bind (wpAny_standAt (wpAny_bind (wpAny_mono h (fun it' s' h' => wpAny_pure (And.intro rfl h')) fun _ _ x => x))))
end
theorem fr_swap {g h : Heap} {L C : Addr} {m mC : Str → Option Value} {oC : Obj} {news : List (Addr × Obj)} (F : Fr g L h m) (N : News g L h ((C, oC) :: news)) (hC : NsObj oC mC) (hL : ∀ p ∈ news, p.1 ≠ C) (hgC : g.objs.size ≤ C) :
    ∃ oL, NsObj oL m ∧ Fr g C h mC ∧ News g C h ((L, oL) :: news) := by
  obtain ⟨oL, e, hoL⟩ := ns_obj F.ns
  have hc := N _ (.head _)
  refine ⟨oL, hoL, ⟨hC.ns hc.1, F.keep, hgC⟩, ?_⟩
  intro p hp
  cases hp with
  | head => exact ⟨e, Ne.symm hc.2.1, Heap.get?_none_of_le F.above⟩
  | tail _ hp => exact ⟨(N p (.tail _ hp)).1, hL p hp, (N p (.tail _ hp)).2.2⟩
end Mine
end
section
open PySem PySem.W PyProof.Rows PySem.Calls PySem.Spec PyProof.Rows.LCg
set_option maxRecDepth 100000
namespace Mine
noncomputable def CDone (g : Heap) (L C D : Addr) (oL : Obj) (os : OsState) (news0 : List (Addr × Obj)) (P : List Value → List (Addr × Obj) → Prop) (r : Result) (s' : Shared) : Prop :=
  r = .ok .next ∧ ∃ (mC : Str → Option Value) (ys : List Value) (tus : List (Addr × Obj)), P ys tus ∧ (∀ p ∈ tus, @LT.lt Nat _ D p.1) ∧ Fr g C s'.heap mC ∧ News g C s'.heap ((L, oL) :: (D, lst ys) :: (tus ++ news0)) ∧ AllBare s'.gens ∧ s'.os = os
section
variable {prog : Program} {w : World} {A : Around} {E : Value → Shared → Prop} {s : Shared} {elt target iter : PySem.Expr} {ifs : List PySem.Expr} {rest : List Comprehension} {scope : Scope} {pos : Pos} {env : Env} {cl : List (Str × Addr)} {g : Heap} {L : Addr} {m : Str → Option Value}
theorem comp_begin {e : PySem.Expr} {it : Value} {news0 : List (Addr × Obj)} {s₂ : Shared} {RR : Value → Addr → Result → Shared → Prop}
    (hcell : ∀ y ∈ scope.names, y.2 ≠ .cell) (hkind : scope.kind = .function) (F : Fr g L s₂.heap m) (N : News g L s₂.heap news0)
    (h : ∀ (D C : Addr) (oL : Obj) (h' : Heap) (tk : Nat) (mC : Str → Option Value), @LT.lt Nat _ L D → @LT.lt Nat _ D C → (∀ p ∈ news0, @LT.lt Nat _ p.1 D) → NsObj oL m → Fr g C h' mC → News g C h' ((L, oL) :: (D, lst []) :: news0) →
      codeAny (model prog w) A (.compStart e 0 it (.ref D) (compEnvC scope cl C env)) (RR (.ref D) C) { s₂ with heap := h', toks := tk }) :
    wpAny (model prog w) A (newList []) (fun acc s₃ => wpAny (model prog w) A (newFunctionEnv scope env.globals cl [] env.qual none .none (some env)) (fun cenv s₄ =>
      codeAny (model prog w) A (.compStart e 0 it acc { cenv with scope := relabel scope env }) (RR acc cenv.locals) s₄) E s₃) E s₂ := by
  refine wpAny_newObj_type (wpAny_newFunctionEnv hcell (by intro y hy; simp at hy) (fun h₁ hns₁ hsb₁ => ?_) hkind)
  dsimp only at hns₁ hsb₁ ⊢
  generalize hH2 : s₂.heap.push { cls := .type "list", dict := none, data := .seq ([] : List Value).toArray } = H2 at hns₁ hsb₁ ⊢
  have hC : H2.objs.size = s₂.heap.objs.size + 1 := by rw [← hH2, Heap.size_push]
  have hDC : s₂.heap.objs.size ≠ H2.objs.size := by rw [hC]; exact Nat.ne_of_lt (Nat.lt_succ_self _)
  have below : ∀ b, b < s₂.heap.objs.size → b ≠ H2.objs.size ∧ b ≠ s₂.heap.objs.size := fun b hb => ⟨by rw [hC]; exact Nat.ne_of_lt (Nat.lt_succ_of_lt hb), Nat.ne_of_lt hb⟩
  have old : ∀ b o, s₂.heap.get? b = some o → h₁.get? b = some o := fun b o e => hsb₁.extBut b o (below b (Heap.lt_size e)).1 (Heap.get?_push_of_some _ (hH2 ▸ Heap.get?_push_of_some _ e))
  have hacc : h₁.get? s₂.heap.objs.size = some (lst []) := hsb₁.extBut _ _ hDC (Heap.get?_push_of_some _ (hH2 ▸ Heap.get?_push_size _ rfl))
  have fresh₀ : ∀ a, s₂.heap.objs.size ≤ a → g.get? a = none := fun a ha => by
    cases e : g.get? a with
    | none => rfl
    | some o' => exact absurd (Heap.lt_size (F.keep a o' e)) (Nat.not_lt.mpr ha)
  have hD₀ : g.get? s₂.heap.objs.size = none := fresh₀ _ (Nat.le_refl _)
  have hC₀ : g.get? H2.objs.size = none := fresh₀ _ (by rw [hC]; exact Nat.le_succ _)
  have hLlt : L < s₂.heap.objs.size := F.ns.lt
  have hN : ∀ p ∈ news0, p.1 < s₂.heap.objs.size := fun p hp => Heap.lt_size (N p hp).1
  obtain ⟨oL, e, hoL⟩ := ns_obj F.ns
  have hgC : g.objs.size ≤ H2.objs.size := Nat.le_trans F.above (Nat.le_of_lt (Nat.lt_of_lt_of_le hLlt (by rw [hC]; exact Nat.le_succ _)))
  refine h _ _ oL h₁ _ _ hLlt (show _ < _ by rw [hC]; exact Nat.lt_succ_self _) hN hoL ⟨hns₁, fun b o e => old b o (F.keep b o e), hgC⟩ ?_
  intro p hp
  cases hp with
  | head => exact ⟨old _ _ e, (below _ hLlt).1, Heap.get?_none_of_le F.above⟩
  | tail _ hp =>
    cases hp with
    | head => exact ⟨hacc, hDC, hD₀⟩
    | tail _ hp => exact ⟨old _ _ (N p hp).1, (below _ (hN p hp)).1, (N p hp).2.2⟩

theorem comp_back {C D : Addr} {oL : Obj} {news0 tus : List (Addr × Obj)} {ys : List Value} {mC : Str → Option Value} {h : Heap} (hLD : @LT.lt Nat _ L D) (hgL : g.objs.size ≤ L) (hL0 : ∀ p ∈ news0, p.1 ≠ L) (ht : ∀ p ∈ tus, @LT.lt Nat _ D p.1) (hoL : NsObj oL m) (F : Fr g C h mC)
    (N : News g C h ((L, oL) :: (D, lst ys) :: (tus ++ news0))) (h' : Heap) (hs : Heap.SameBut C h h') : Fr g L h' m ∧ News g L h' ((D, lst ys) :: (tus ++ news0)) := by
  have eC : g.get? C = none := Heap.get?_none_of_le F.above
  have hL := N _ (.head _)
  refine ⟨⟨hoL.ns (hs.extBut _ _ hL.2.1 hL.1), fun b o e => hs.extBut b o (fun q => by rw [q, eC] at e; cases e) (F.keep b o e), hgL⟩, ?_⟩
  intro p hp
  have hpC := N p (.tail _ hp)
  refine ⟨hs.extBut _ _ hpC.2.1 hpC.1, ?_, hpC.2.2⟩
  cases hp with
  | head => exact neN (Nat.ne_of_gt hLD)
  | tail _ hp =>
    rcases List.mem_append.mp hp with hp | hp
    · exact neN (Nat.ne_of_gt (Nat.lt_trans hLD (ht p hp)))
    · exact hL0 p hp

theorem comp_eval {Q : Value → Shared → Prop} (os : OsState) (news0 : List (Addr × Obj)) (P : List Value → List (Addr × Obj) → Prop) 
    (hclos : closureFor scope env = pure cl) (hcell : ∀ y ∈ scope.names, y.2 ≠ .cell) (hkind : scope.kind = .function)
    (hnames : ∀ y ∈ scope.names, y.2 = .local → scope.names.lookup y.1 = some .local) (hs : ∀ x, foldedSetIterable iter env x = pure x)
    (h : wpAny (model prog w) A (eval iter env) (fun xv s₁ => wpAny (model prog w) A (pyIter xv) (fun it s₂ => ∃ newsI, Fr g L s₂.heap m ∧ News g L s₂.heap newsI ∧ (∀ p ∈ news0, p ∈ newsI) ∧
      (∀ (D C : Addr) (oL : Obj) (h' : Heap) (tk : Nat) (mC : Str → Option Value), @LT.lt Nat _ L D → @LT.lt Nat _ D C → (∀ p ∈ newsI, @LT.lt Nat _ p.1 D) → NsObj oL m → Fr g C h' mC → News g C h' ((L, oL) :: (D, lst []) :: newsI) →
        codeAny (model prog w) A (.compStart (.ListComp elt (⟨target, iter, ifs, 0⟩ :: rest) scope pos) 0 it (.ref D) (compEnvC scope cl C env)) (CDone g L C D oL os news0 P) { s₂ with heap := h', toks := tk }) ∧
      (∀ (D C : Addr) (ys : List Value) (tus : List (Addr × Obj)) (s' : Shared), P ys tus → @LT.lt Nat _ L D → (∀ p ∈ news0, @LT.lt Nat _ p.1 D) → (∀ p ∈ tus, @LT.lt Nat _ D p.1) → Fr g L s'.heap m → News g L s'.heap ((D, lst ys) :: (tus ++ news0)) → AllBare s'.gens → s'.os = os → Q (.ref D) s')) E s₁) E s) :
    wpAny (model prog w) A (eval (.ListComp elt (⟨target, iter, ifs, 0⟩ :: rest) scope pos) env) Q E s := by
  rw [eval_ListComp]
  refine wpAny_comprehension_free (use := none) rfl hs hclos hkind hnames (wpAny_mono h (fun xv s₁ h₁ => wpAny_mono h₁ (fun it s₂ h₂ => ?_) fun _ _ e => e) fun _ _ e => e)
  obtain ⟨newsI, F, NI, hsub, hl, hq⟩ := h₂
  have N : News g _ s₂.heap news0 := fun p hp => NI p (hsub p hp)
  refine comp_begin hcell hkind F NI fun D C oL h' tk mC hLD hDC h0 hoL FC NC => ?_
  refine codeAny_mono (hl D C oL h' tk mC hLD hDC h0 hoL FC NC) fun r s' hr => ?_
  obtain ⟨rfl, mC', ys, tus, hP, ht, F', N', hb, ho⟩ := hr
  refine ⟨mC', F'.ns, fun h'' hs'' => ?_⟩
  obtain ⟨F2, N2⟩ := comp_back hLD F.above (fun p hp => (N p hp).2.1) ht hoL F' N' h'' hs''
  exact hq D C ys tus _ hP hLD (fun p hp => h0 p (hsub p hp)) ht F2 N2 hb ho

theorem comp_assign {y : Str} {py spos : Pos} {Q : Flow → Shared → Prop} (os : OsState) (news0 : List (Addr × Obj)) (P : List Value → List (Addr × Obj) → Prop) (hLe : env.locals = L)
    (hsw : swapsWith (.ListComp elt (⟨target, iter, ifs, 0⟩ :: rest) scope pos) (some (.Name y py)) spos.line env = pure true)
    (hclos : closureFor scope env = pure cl) (hcell : ∀ y ∈ scope.names, y.2 ≠ .cell) (hkind : scope.kind = .function)
    (hnames : ∀ y ∈ scope.names, y.2 = .local → scope.names.lookup y.1 = some .local) 
    (hy : env.kindOf y = some .local) (hp : (env.scope.kind == .class || (env.scope.kind == .module && env.locals != env.globals)) = false) (hs : ∀ x, foldedSetIterable iter env x = pure x)
    (h : wpAny (model prog w) A (eval iter env) (fun xv s₁ => wpAny (model prog w) A (pyIter xv) (fun it s₂ => ∃ newsI, Fr g L s₂.heap m ∧ News g L s₂.heap newsI ∧ (∀ p ∈ news0, p ∈ newsI) ∧
      (∀ (D C : Addr) (oL : Obj) (h' : Heap) (tk : Nat) (mC : Str → Option Value), @LT.lt Nat _ L D → @LT.lt Nat _ D C → (∀ p ∈ newsI, @LT.lt Nat _ p.1 D) → NsObj oL m → Fr g C h' mC → News g C h' ((L, oL) :: (D, lst []) :: newsI) →
        codeAny (model prog w) A (.compStart (.ListComp elt (⟨target, iter, ifs, 0⟩ :: rest) scope pos) 0 it (.ref D) (compEnvC scope cl C env)) (CDone g L C D oL os news0 P) { s₂ with heap := h', toks := tk }) ∧
      (∀ (D C : Addr) (ys : List Value) (tus : List (Addr × Obj)) (s' : Shared), P ys tus → @LT.lt Nat _ L D → (∀ p ∈ news0, @LT.lt Nat _ p.1 D) → (∀ p ∈ tus, @LT.lt Nat _ D p.1) → Fr g L s'.heap (fun z => if z = y then some (.ref D) else m z) → News g L s'.heap ((D, lst ys) :: (tus ++ news0)) → AllBare s'.gens → s'.os = os → Q .next s')) E s₁) E s) :
    wpAny (model prog w) A (exec (.Assign [.Name y py] (.ListComp elt (⟨target, iter, ifs, 0⟩ :: rest) scope pos) spos) env) Q E s := by
  subst hLe
  rw [exec_Assign_Name_used _ _ _ _ hsw]
  refine wpAny_bind (wpAny_standAt (wpAny_bind ?_))
  show wpAny _ A (do let _ ← comprehension (.ListComp elt (⟨target, iter, ifs, 0⟩ :: rest) scope pos) scope env _ (newList []) false (eval iter env) (some (assign (.Name y py) env))) _ _ s
  refine wpAny_bind (wpAny_mono (wpAny_comprehension_free (use := some (assign (.Name y py) env)) (Q := fun _ s' => Q .next s') rfl hs hclos hkind hnames
    (wpAny_mono h (fun xv s₁ h₁ => wpAny_mono h₁ (fun it s₂ h₂ => ?_) fun _ _ e => e) fun _ _ e => e)) (fun _ s' hq => wpAny_pure (wpAny_pure hq)) fun _ _ e => e)
  obtain ⟨newsI, F, NI, hsub, hl, hq⟩ := h₂
  have N : News g _ s₂.heap news0 := fun p hp => NI p (hsub p hp)
  refine comp_begin hcell hkind F NI fun D C oL h' tk mC hLD hDC h0 hoL FC NC => ?_
  refine codeAny_mono (hl D C oL h' tk mC hLD hDC h0 hoL FC NC) fun r s' hr => ?_
  obtain ⟨rfl, mC', ys, tus, hP, ht, F', N', hb, ho⟩ := hr
  show wpAny _ A (assign (.Name y py) env (.ref D)) _ _ _
  have hL := N' _ (.head _)
  refine wpAny_assign_Name (wpAny_storeName_local hy (hoL.ns hL.1) (fun h₂ hn₂ hs₂ => ?_) hp)
  have hLC : env.locals ≠ C := hL.2.1
  obtain ⟨oL2, e2, hoL2⟩ := ns_obj hn₂
  have eL : g.get? env.locals = none := hL.2.2
  have F3 : Fr g C h₂ mC' := F'.change hs₂ (Ne.symm hLC |> Ne.symm) eL
  have N3 : News g C h₂ ((env.locals, oL2) :: (D, lst ys) :: (tus ++ news0)) := by
    intro p hp
    cases hp with
    | head => exact ⟨e2, hL.2⟩
    | tail _ hp =>
      have z := N' p (.tail _ hp)
      refine ⟨hs₂.extBut _ _ ?_ z.1, z.2⟩
      cases hp with
      | head => exact neN (Nat.ne_of_gt hLD)
      | tail _ hp =>
        rcases List.mem_append.mp hp with hp | hp
        · exact neN (Nat.ne_of_gt (Nat.lt_trans hLD (ht p hp)))
        · exact (N p hp).2.1
  refine ⟨mC', F3.ns, fun h'' hs'' => ?_⟩
  obtain ⟨F2, N2⟩ := comp_back hLD F.above (fun p hp => (N p hp).2.1) ht hoL2 F3 N3 h'' hs''
  exact hq D C ys tus _ hP hLD (fun p hp => h0 p (hsub p hp)) ht F2 N2 hb ho
end
end Mine
end
section
open PySem PySem.W PyProof.Rows PySem.Calls PySem.Spec PyProof.Rows.LCg
set_option maxRecDepth 100000
namespace Mine
section
variable {prog : Program} {w : World} {A : Around} {s : Shared} {elt target iter : PySem.Expr} {ifs : List PySem.Expr} {scope : Scope} {pos : Pos} {env : Env} {g : Heap} {C : Addr}
structure CSrc (prog : Program) (w : World) (A : Around) (target : PySem.Expr) (g : Heap) (C : Addr) (it : Value) (n : Nat) (keepL : List (Addr × Obj)) (S : Nat → List (Addr × Obj) → Prop) (V : Nat → Value → List (Addr × Obj) → Prop) : Prop where
  step : ∀ (i : Nat) (its : List (Addr × Obj)) (s : Shared) (m : Str → Option Value) (rest : List (Addr × Obj)) (Q : Value → Shared → Prop) (E : Value → Shared → Prop), i < n → S i its → (∀ p ∈ keepL, p ∈ rest) → (∀ p ∈ rest, ∀ q ∈ its, p.1 ≠ q.1) → Fr g C s.heap m → News g C s.heap (its ++ rest) →
    (∀ (v : Value) (its' new : List (Addr × Obj)) (h' : Heap) (tk : Nat), V i v new → S (i + 1) its' → (∀ p ∈ new, @LT.lt Nat _ C p.1 ∧ (∀ q ∈ its', q.1 ≠ p.1) ∧ (∀ q ∈ rest, @LT.lt Nat _ q.1 p.1)) → Fr g C h' m → News g C h' (its' ++ (new ++ rest)) → Q v { s with heap := h', toks := tk }) →
    wpAny (model prog w) A (pyNext it) (fun r s₁ => match r with | none => False | some v => wpAny (model prog w) A (letOwnedTupleGo target it v) (fun _ s₁' => Q v s₁') E s₁) E s
  fin : ∀ (its : List (Addr × Obj)) (s : Shared) (m : Str → Option Value) (rest : List (Addr × Obj)) (Q : Shared → Prop) (E : Value → Shared → Prop), S n its → (∀ p ∈ keepL, p ∈ rest) → (∀ p ∈ rest, ∀ q ∈ its, p.1 ≠ q.1) → Fr g C s.heap m → News g C s.heap (its ++ rest) →
    (∀ (h' : Heap) (tk : Nat), Fr g C h' m → News g C h' rest → Q { s with heap := h', toks := tk }) →
    wpAny (model prog w) A (pyNext it) (fun r s₁ => match r with | none => Q s₁ | some _ => False) E s
noncomputable def TE (g : Heap) (C L D : Addr) (oL oD : Obj) (os : OsState) (news0 its : List (Addr × Obj)) (K : List (Addr × Obj) → Prop) (s : Shared) : Prop :=
  ∃ (mC : Str → Option Value) (tus : List (Addr × Obj)), K tus ∧ (∀ p ∈ tus, @LT.lt Nat _ D p.1) ∧ Fr g C s.heap mC ∧ News g C s.heap (its ++ ((L, oL) :: (D, oD) :: (tus ++ news0))) ∧ AllBare s.gens ∧ s.os = os
theorem comp_loop {it : Value} {n : Nat} {keepL news0 : List (Addr × Obj)} {S : Nat → List (Addr × Obj) → Prop} {V : Nat → Value → List (Addr × Obj) → Prop} (src : CSrc prog w A target g C it n keepL S V) {L D : Addr} {oL : Obj} {os : OsState} (hn : n < 100000)
    (K : Nat → List Value → List (Addr × Obj) → Prop) (hkeep : ∀ p ∈ keepL, p ∈ news0) (hDC : @LT.lt Nat _ D C) (hLD : @LT.lt Nat _ L D) (hn0 : ∀ p ∈ news0, @LT.lt Nat _ p.1 D) (hL0 : ∀ p ∈ news0, p.1 ≠ L)
    (hits : ∀ i its, S i its → ∀ q ∈ its, @LT.lt Nat _ q.1 D ∧ q.1 ≠ L ∧ ∀ p ∈ news0, p.1 ≠ q.1)
    (turn : ∀ (i : Nat) (v : Value) (its new tus : List (Addr × Obj)) (mC : Str → Option Value) (ys : List Value) (s : Shared) (E : Value → Shared → Prop), i < n → V i v new → S (i + 1) its → K i ys tus → (∀ p ∈ tus, @LT.lt Nat _ D p.1) →
      (∀ p ∈ new, @LT.lt Nat _ C p.1 ∧ (∀ q ∈ its, q.1 ≠ p.1) ∧ (∀ q ∈ (L, oL) :: (D, lst ys) :: (tus ++ news0), @LT.lt Nat _ q.1 p.1)) → (∀ p ∈ (L, oL) :: (D, lst ys) :: (tus ++ news0), ∀ q ∈ its, p.1 ≠ q.1) → Fr g C s.heap mC → News g C s.heap (its ++ (new ++ ((L, oL) :: (D, lst ys) :: (tus ++ news0)))) → AllBare s.gens → s.os = os →
      wpAny (model prog w) A (assign target env v) (fun _ s₂ => wpAny (model prog w) A (testsOf ifs env) (fun ok s₃ => if ok = true then wpAny (model prog w) A (eval elt env) (fun x s₄ => TE g C L D oL (lst ys) os news0 its (K (i + 1) (ys ++ [x])) s₄) E s₃ else TE g C L D oL (lst ys) os news0 its (K (i + 1) ys) s₃) E s₂) E s) :
    ∀ (k i : Nat) (its tus : List (Addr × Obj)) (mC : Str → Option Value) (ys : List Value) (s : Shared), i + k = n → ys.length ≤ i → S i its → K i ys tus → (∀ p ∈ tus, @LT.lt Nat _ D p.1) → Fr g C s.heap mC → News g C s.heap (its ++ ((L, oL) :: (D, lst ys) :: (tus ++ news0))) → AllBare s.gens → s.os = os →
      codeAny (model prog w) A (.compLoop (.ListComp elt [⟨target, iter, ifs, 0⟩] scope pos) 0 it (.ref D) env) (CDone g L C D oL os news0 (K n)) s := by
  have hoff : ∀ (i : Nat) (its tus : List (Addr × Obj)) (ys : List Value), S i its → (∀ p ∈ tus, @LT.lt Nat _ D p.1) → ∀ p ∈ (L, oL) :: (D, lst ys) :: (tus ++ news0), ∀ q ∈ its, p.1 ≠ q.1 := by
    intro i its tus ys hS ht p hp q hq
    obtain ⟨q1, q2, q3⟩ := hits i its hS q hq
    rcases List.mem_cons.mp hp with rfl | hp
    · exact Ne.symm q2
    rcases List.mem_cons.mp hp with rfl | hp
    · exact neN (Nat.ne_of_gt q1)
    rcases List.mem_append.mp hp with hp | hp
    · exact neN (Nat.ne_of_gt (Nat.lt_trans q1 (ht p hp)))
    · exact q3 p hp
  have hkp : ∀ (tus : List (Addr × Obj)) (ys : List Value), ∀ p ∈ keepL, p ∈ (L, oL) :: (D, lst ys) :: (tus ++ news0) := fun tus ys p hp => .tail _ (.tail _ (List.mem_append_right _ (hkeep p hp)))
  intro k
  induction k with
  | zero =>
    intro i its tus mC ys s hk hy hS hK ht F N hb ho
    obtain rfl : i = n := by omega
    refine comp_turn1 (wpAny_mono (src.fin its s mC _ (CDone g L C D oL os news0 (K i) (.ok .next)) _ hS (hkp tus ys) (hoff i its tus ys hS ht) F N fun h' tk F' N' => ?_) (fun r s₁ h₁ => ?_) fun _ _ e => e)
    · exact ⟨rfl, mC, ys, tus, hK, ht, F', N', hb, ho⟩
    · cases r with
      | none => exact h₁
      | some v => exact h₁.elim
  | succ k ih =>
    intro i its tus mC ys s hk hy hS hK ht F N hb ho
    refine comp_turn1 (wpAny_mono (src.step i its s mC _ (fun v s₁' => wpAny (model prog w) A (assign target env v) (fun _ s₂ => wpAny (model prog w) A (testsOf ifs env) (fun ok s₃ => if ok = true then wpAny (model prog w) A (eval elt env) (fun x s₄ => wpAny (model prog w) A (call (.builtin "list.append") [.ref D, x]) (fun _ s₅ => codeAny (model prog w) A (.compLoop (.ListComp elt [⟨target, iter, ifs, 0⟩] scope pos) 0 it (.ref D) env) (CDone g L C D oL os news0 (K n)) s₅) (EE prog w A env (CDone g L C D oL os news0 (K n))) s₄) (EE prog w A env (CDone g L C D oL os news0 (K n))) s₃ else codeAny (model prog w) A (.compLoop (.ListComp elt [⟨target, iter, ifs, 0⟩] scope pos) 0 it (.ref D) env) (CDone g L C D oL os news0 (K n)) s₃) (EE prog w A env (CDone g L C D oL os news0 (K n))) s₂) (EE prog w A env (CDone g L C D oL os news0 (K n))) s₁') _ (by omega) hS (hkp tus ys) (hoff i its tus ys hS ht) F N fun v its' new h' tk hV hS' hnew F' N' => ?_) (fun r s₁ h₁ => ?_) fun _ _ e => e)
    · refine wpAny_mono (turn i v its' new tus mC ys _ _ (by omega) hV hS' hK ht hnew (hoff _ its' tus ys hS' ht) F' N' hb ho) (fun _ s₂ h₂ => wpAny_mono h₂ (fun ok s₃ h₃ => ?_) fun _ _ e => e) fun _ _ e => e
      cases ok with
      | false =>
        obtain ⟨mC3, tus3, hK3, ht3, F3, N3, hb3, ho3⟩ := h₃
        exact ih (i + 1) its' tus3 mC3 ys s₃ (by omega) (by omega) hS' hK3 ht3 F3 N3 hb3 ho3
      | true =>
        simp only [if_true] at h₃ ⊢
        refine wpAny_mono h₃ (fun x s₄ h₄ => ?_) fun _ _ e => e
        obtain ⟨mC3, tus3, hK3, ht3, F3, N3, hb3, ho3⟩ := h₄
        have hi := hoff _ its' tus3 ys hS' ht3
        have zD := (N3 (D, lst ys) (List.mem_append_right _ (.tail _ (.head _)))).1
        have zC := (N3 (D, lst ys) (List.mem_append_right _ (.tail _ (.head _)))).2
        refine append_at (hsz := by show ys.toArray.size ≤ sizeLine; rw [List.size_toArray]; exact Nat.le_trans (show ys.length ≤ 100000 by omega) (by decide)) zD fun h₅ hs₅ hD₅ => ?_
        refine ih (i + 1) its' tus3 mC3 (ys ++ [x]) _ (by omega) (by simp; omega) hS' hK3 ht3 (F3.change hs₅ zC.1 zC.2) ?_ hb3 ho3
        intro p hp
        by_cases hpD : p.1 = D
        · rcases List.mem_append.mp hp with hp | hp
          · exact absurd hpD (neN (Nat.ne_of_lt (hits _ _ hS' p hp).1))
          rcases List.mem_cons.mp hp with rfl | hp
          · exact absurd hpD (neN (Nat.ne_of_lt hLD))
          rcases List.mem_cons.mp hp with rfl | hp
          · exact ⟨hD₅.trans (congrArg some (lst_snoc ys x)), zC⟩
          rcases List.mem_append.mp hp with hp | hp
          · exact absurd hpD (neN (Nat.ne_of_gt (ht3 p hp)))
          · exact absurd hpD (neN (Nat.ne_of_lt (hn0 p hp)))
        · have hp' : p ∈ its' ++ ((L, oL) :: (D, lst ys) :: (tus3 ++ news0)) := by
            rcases List.mem_append.mp hp with hp | hp
            · exact List.mem_append_left _ hp
            refine List.mem_append_right _ ?_
            rcases List.mem_cons.mp hp with rfl | hp
            · exact .head _
            rcases List.mem_cons.mp hp with rfl | hp
            · exact absurd rfl hpD
            · exact .tail _ (.tail _ hp)
          have z := N3 p hp'
          exact ⟨hs₅.extBut _ _ hpD z.1, z.2⟩
    · cases r with
      | none => exact h₁.elim
      | some v => exact h₁
end
end Mine
end
section
open PySem PySem.W PyProof.Rows PySem.Calls PySem.Spec PyProof.Rows.LCg
set_option maxRecDepth 100000
namespace Mine
section
variable {prog : Program} {w : World} {A : Around} {target : PySem.Expr} {g : Heap} {C : Addr}
noncomputable def SL (I l : Addr) (i : Nat) (its : List (Addr × Obj)) : Prop := ∃ o, its = [(I, o)] ∧ LIter o l i
noncomputable def VL (items : List Value) (i : Nat) (v : Value) (new : List (Addr × Obj)) : Prop := items[i]? = some v ∧ new = []
theorem src_list {items : List Value} {c : Nat} {I l : Addr} (hh : A.handled = none)
    (hlet : ∀ (i : Nat) (v : Value) (s : Shared) (Q : Unit → Shared → Prop) (E : Value → Shared → Prop), v ∈ items → s.heap.IsListIter I l i → Q () s → wpAny (model prog w) A (letOwnedTupleGo target (.ref I) v) Q E s) :
    CSrc prog w A target g C (.ref I) items.length [(l, W.listOf items.toArray c)] (SL I l) (VL items) where
  step := by
    rintro i its s m rest Q E hi ⟨o, rfl, ho⟩ hk hoff F N h
    have hx : items[i]? = some items[i] := by simp [hi]
    have hne : ∀ p ∈ rest, p.1 ≠ I := fun p hp => hoff p hp _ (.head _)
    refine next_list_K F N ho (hk _ (.head _)) hx hne fun h' o' ho' F' N' => ?_
    exact hlet (i + 1) _ _ _ _ (List.mem_of_getElem? hx) (liter_at N' ho') (h _ [(I, o')] [] h' _ ⟨hx, rfl⟩ ⟨o', rfl, ho'⟩ (fun _ h => absurd h List.not_mem_nil) F' N')
  fin := by
    rintro its s m rest Q E ⟨o, rfl, ho⟩ hk hoff F N h
    have hne : ∀ p ∈ rest, p.1 ≠ I := fun p hp => hoff p hp _ (.head _)
    exact end_list_K hh F N ho (hk _ (.head _)) (by simp) hne fun h' F' N' => h h' _ F' N'
noncomputable def SR (I : Addr) (a n : Int) (i : Nat) (its : List (Addr × Obj)) : Prop := its = [(I, { cls := .type "range_iterator", dict := none, data := .fields #[rawInt (a + i), rawInt (n - i), rawInt 1], slots := #[] })]
noncomputable def VR (a : Int) (i : Nat) (v : Value) (new : List (Addr × Obj)) : Prop := (∃ t, v = .int (a + i) t) ∧ new = []
theorem src_range {I : Addr} {a : Int} {n : Nat} (hh : A.handled = none) (hlet : ∀ (i : Nat) (t : Tok), letOwnedTupleGo target (.ref I) (.int i t) = pure ()) (hlet' : ∀ (i : Int) (t : Tok), letOwnedTupleGo target (.ref I) (.int i t) = pure ()) :
    CSrc prog w A target g C (.ref I) n [] (SR I a n) (VR a) where
  step := by
    rintro i its s m rest Q E hi rfl hk hoff F N h
    have hI := N _ (.head _)
    have N' : News g C s.heap rest := fun p hp => N p (.tail _ hp)
    refine wpAny_pyNext_range_item hI.1 (by omega) fun h' hit hs => ?_
    have F' := F.change hs hI.2.1 hI.2.2
    refine wpAny_of_eq (hlet' _ _) (h _ [(I, _)] [] h' _ ⟨⟨_, rfl⟩, rfl⟩ rfl (fun _ h => absurd h List.not_mem_nil) F' ?_)
    intro p hp
    cases hp with
    | head => exact ⟨by rw [show (a + ((i + 1 : Nat) : Int)) = a + i + 1 by omega, show ((n : Int) - ((i + 1 : Nat) : Int)) = n - i - 1 by omega]; exact hit, hI.2⟩
    | tail _ hp => exact ⟨hs.extBut _ _ (hoff p hp _ (.head _)) (N' p hp).1, (N' p hp).2⟩
  fin := by
    rintro its s m rest Q E rfl hk hoff F N h
    have hI := N _ (.head _)
    have N' : News g C s.heap rest := fun p hp => N p (.tail _ hp)
    refine wpAny_pyNext_range_end hh hI.1 (by omega) fun h' hs => ?_
    exact h h' _ (Mine.fr_but F (Ne.symm hI.2.1) hI.2.2 hs) (Mine.news_but N' (fun p hp => hoff p hp _ (.head _)) hs)
noncomputable def SZ (z TI TO i1 i2 l1 l2 : Addr) (i : Nat) (its : List (Addr × Obj)) : Prop := ∃ (a b : Value) (o1 o2 : Obj), LIter o1 l1 i ∧ LIter o2 l2 i ∧
  its = [(z, { cls := .type "zip", dict := none, data := .fields #[.none, .bool false, .bool false, .ref TI, .ref TO], slots := #[] }), (TI, { cls := .type "tuple", data := .seq #[.ref i1, .ref i2] }), (TO, { cls := .type "tuple", data := .seq #[a, b] }), (i1, o1), (i2, o2)]
noncomputable def VZ (xs ys : List Value) (i : Nat) (v : Value) (new : List (Addr × Obj)) : Prop := ∃ (x y : Value) (T : Addr), xs[i]? = some x ∧ ys[i]? = some y ∧ v = .ref T ∧ new = [(T, { cls := .type "tuple", data := .seq #[x, y] })]
theorem src_zip {elts : List PySem.Expr} {x1} {tp : Pos} {z TI TO i1 i2 l1 l2 : Addr} {xs ys : List Value} {c1 c2 n : Nat} (hh : A.handled = none) (D : ZipApart z TI TO i1 i2 l1 l2) (h1 : xs.length = n) (h2 : ys.length = n) :
    CSrc prog w A (.Tuple elts x1 tp) g C (.ref z) n [(l1, W.listOf xs.toArray c1), (l2, W.listOf ys.toArray c2)] (SZ z TI TO i1 i2 l1 l2) (VZ xs ys) where
  step := by
    rintro i its s m rest Q E hi ⟨a, b, o1, o2, ho1, ho2, rfl⟩ hk hoff F N h
    have Nz := N _ (.head _)
    have NTI := N _ (.tail _ (.head _))
    have NTO := N _ (.tail _ (.tail _ (.head _)))
    have N1 := N _ (.tail _ (.tail _ (.tail _ (.head _))))
    have N2 := N _ (.tail _ (.tail _ (.tail _ (.tail _ (.head _)))))
    have Nr : News g C s.heap rest := fun p hp => N p (.tail _ (.tail _ (.tail _ (.tail _ (.tail _ hp)))))
    have hx : xs[i]? = some (xs[i]'(by omega)) := by simp
    have hy : ys[i]? = some (ys[i]'(by omega)) := by simp
    refine wpAny_pyNext_zip_item D Nz.1 NTI.1 NTO.1 ⟨o1, N1.1, ho1.1, ho1.2⟩ ⟨o2, N2.1, ho2.1, ho2.2⟩ (Nr.isList (hk _ (.head _))) (Nr.isList (hk _ (.tail _ (.head _)))) (by rw [List.getElem?_toArray]; exact hx) (by rw [List.getElem?_toArray]; exact hy) fun h' e1 e2 e3 e4 e5 e6 e7 => ?_
    refine wpAny_letOwnedTupleGo_zip e1 fun h2' e8 e9 => ?_
    obtain ⟨p1, e3, q1, r1⟩ := e3
    obtain ⟨p2, e4, q2, r2⟩ := e4
    have hs : ∀ (b : Addr) (o : Obj), s.heap.get? b = some o → b ≠ s.heap.objs.size := fun b o e => Nat.ne_of_lt (Heap.lt_size e)
    have old : ∀ c o, c ≠ z → c ≠ TO → c ≠ i1 → c ≠ i2 → s.heap.get? c = some o → h2'.get? c = some o := fun c o a b d e f => e9.extBut c o a (e7 c o a b d e f)
    have hTz : s.heap.objs.size ≠ z := Ne.symm (hs _ _ Nz.1)
    have gN : ∀ c, s.heap.objs.size ≤ c → g.get? c = none := fun c hc => by
      cases e : g.get? c with
      | none => rfl
      | some o => exact absurd (Heap.lt_size (F.keep c o e)) (Nat.not_lt.mpr hc)
    have hC : C ≠ s.heap.objs.size := Nat.ne_of_lt F.ns.lt
    have Cz := Nz.2.1
    have CTO := NTO.2.1
    have C1 := N1.2.1
    have C2 := N2.2.1
    have gn : ∀ (b : Addr) (o : Obj), g.get? b = some o → b ≠ z ∧ b ≠ TO ∧ b ≠ i1 ∧ b ≠ i2 := fun b o e => ⟨fun q => (by rw [q, Nz.2.2] at e; cases e), fun q => (by rw [q, NTO.2.2] at e; cases e), fun q => (by rw [q, N1.2.2] at e; cases e), fun q => (by rw [q, N2.2.2] at e; cases e)⟩
    have F' : Fr g C h2' m := ⟨F.ns.at' fun o e => old _ _ (Ne.symm Cz) (Ne.symm CTO) (Ne.symm C1) (Ne.symm C2) e, fun b o e => old _ _ (gn b o e).1 (gn b o e).2.1 (gn b o e).2.2.1 (gn b o e).2.2.2 (F.keep b o e), F.above⟩
    refine h _ [(z, _), (TI, _), (TO, { cls := .type "tuple", data := .seq #[xs[i]'(by omega), ys[i]'(by omega)] }), (i1, p1), (i2, p2)] [(s.heap.objs.size, _)] h2' _ ⟨_, _, _, hx, hy, rfl, rfl⟩ ⟨_, _, p1, p2, ⟨q1, r1⟩, ⟨q2, r2⟩, rfl⟩ ?_ F' ?_
    · intro p hp
      obtain rfl := List.mem_singleton.mp hp
      refine ⟨F.ns.lt, ?_, fun q hq => Heap.lt_size (Nr q hq).1⟩
      intro q hq
      have : ∀ (a : Addr) (o : Obj), s.heap.get? a = some o → a ≠ s.heap.objs.size := hs
      rcases List.mem_cons.mp hq with rfl | hq
      · exact this _ _ Nz.1
      rcases List.mem_cons.mp hq with rfl | hq
      · exact this _ _ NTI.1
      rcases List.mem_cons.mp hq with rfl | hq
      · exact this _ _ NTO.1
      rcases List.mem_cons.mp hq with rfl | hq
      · exact this _ _ N1.1
      rcases List.mem_cons.mp hq with rfl | hq
      · exact this _ _ N2.1
      · cases hq
    · intro p hp
      rcases List.mem_cons.mp hp with rfl | hp
      · exact ⟨e8, Nz.2⟩
      rcases List.mem_cons.mp hp with rfl | hp
      · exact ⟨old _ _ D.TIz D.TITO D.TIi1 D.TIi2 NTI.1, NTI.2⟩
      rcases List.mem_cons.mp hp with rfl | hp
      · exact ⟨e9.extBut _ _ D.TOz e2, NTO.2⟩
      rcases List.mem_cons.mp hp with rfl | hp
      · exact ⟨e9.extBut _ _ D.i1z e3, N1.2⟩
      rcases List.mem_cons.mp hp with rfl | hp
      · exact ⟨e9.extBut _ _ D.i2z e4, N2.2⟩
      rcases List.mem_cons.mp hp with rfl | hp
      · exact ⟨e9.extBut _ _ hTz e5, Ne.symm hC, gN _ (Nat.le_refl _)⟩
      have z := Nr p hp
      have o := hoff p hp
      exact ⟨old _ _ (o _ (.head _)) (o _ (.tail _ (.tail _ (.head _)))) (o _ (.tail _ (.tail _ (.tail _ (.head _))))) (o _ (.tail _ (.tail _ (.tail _ (.tail _ (.head _)))))) z.1, z.2⟩
  fin := by
    rintro its s m rest Q E ⟨a, b, o1, o2, ho1, ho2, rfl⟩ hk hoff F N h
    have Nz := N _ (.head _)
    have NTI := N _ (.tail _ (.head _))
    have NTO := N _ (.tail _ (.tail _ (.head _)))
    have N1 := N _ (.tail _ (.tail _ (.tail _ (.head _))))
    have N2 := N _ (.tail _ (.tail _ (.tail _ (.tail _ (.head _)))))
    have Nr : News g C s.heap rest := fun p hp => N p (.tail _ (.tail _ (.tail _ (.tail _ (.tail _ hp)))))
    refine wpAny_pyNext_zip_end hh D Nz.1 NTI.1 NTO.1 ⟨o1, N1.1, ho1.1, ho1.2⟩ ⟨o2, N2.1, ho2.1, ho2.2⟩ (Nr.isList (hk _ (.head _))) (Nr.isList (hk _ (.tail _ (.head _)))) (.inl (by simp [h1])) fun h' old => ?_
    have gn : ∀ (b : Addr) (o : Obj), g.get? b = some o → b ≠ z ∧ b ≠ TO ∧ b ≠ i1 ∧ b ≠ i2 := fun b o e => ⟨fun q => (by rw [q, Nz.2.2] at e; cases e), fun q => (by rw [q, NTO.2.2] at e; cases e), fun q => (by rw [q, N1.2.2] at e; cases e), fun q => (by rw [q, N2.2.2] at e; cases e)⟩
    refine h h' _ ⟨F.ns.at' fun o e => old _ _ (Ne.symm Nz.2.1) (Ne.symm NTO.2.1) (Ne.symm N1.2.1) (Ne.symm N2.2.1) e, fun b o e => old _ _ (gn b o e).1 (gn b o e).2.1 (gn b o e).2.2.1 (gn b o e).2.2.2 (F.keep b o e), F.above⟩ ?_
    intro p hp
    have z := Nr p hp
    have o := hoff p hp
    exact ⟨old _ _ (o _ (.head _)) (o _ (.tail _ (.tail _ (.head _)))) (o _ (.tail _ (.tail _ (.tail _ (.head _))))) (o _ (.tail _ (.tail _ (.tail _ (.tail _ (.head _)))))) z.1, z.2⟩
end
end Mine
end
section
open PySem PySem.W PyProof.Rows PySem.Calls PySem.Spec PyProof.Rows.LCg
set_option maxRecDepth 100000
namespace Mine
section
variable {prog : Program} {w : World} {A : Around} {g : Heap} {C : Addr}
noncomputable abbrev enumObj (it : Addr) (i : Int) (old : Value) : Obj := { cls := .type "enumerate", dict := none, data := .fields #[.none, .bool false, .ref it, rawInt i, .none, old], slots := #[] }
noncomputable def SE (e it l : Addr) (i : Nat) (its : List (Addr × Obj)) : Prop := ∃ (old : Value) (o : Obj), its = [(e, enumObj it i old), (it, o)] ∧ LIter o l i
noncomputable def VE (items : List Value) (i : Nat) (v : Value) (new : List (Addr × Obj)) : Prop := ∃ (x : Value) (T : Addr) (t : Tok), items[i]? = some x ∧ v = .ref T ∧ new = [(T, { cls := .type "tuple", data := .seq #[.int i t, x] })]
theorem src_enum {elts : List PySem.Expr} {x1} {tp : Pos} {e it l : Addr} {items : List Value} {c : Nat} (hh : A.handled = none) (hne : e ≠ it) :
    CSrc prog w A (.Tuple elts x1 tp) g C (.ref e) items.length [(l, W.listOf items.toArray c)] (SE e it l) (VE items) where
  step := by
    rintro i its s m rest Q E hi ⟨old, o, rfl, ho⟩ hk hoff F N h
    have Ne := N _ (.head _)
    have Ni := N _ (.tail _ (.head _))
    have Nr : News g C s.heap rest := fun p hp => N p (.tail _ (.tail _ hp))
    have hx : items[i]? = some (items[i]'hi) := by simp
    refine wpAny_pyNext_enum_item Ne.1 ⟨o, Ni.1, ho.1, ho.2⟩ (Nr.isList (hk _ (.head _))) (by rw [List.getElem?_toArray]; exact hx) hne fun h' e1 e2 e3 e4 e5 => ?_
    refine wpAny_letOwnedTupleGo_enum e1 fun h2 e6 e7 => ?_
    obtain ⟨o2, e2, q2, r2⟩ := e2
    have hs : ∀ (b : Addr) (o : Obj), s.heap.get? b = some o → b ≠ s.heap.objs.size := fun b o e => Nat.ne_of_lt (Heap.lt_size e)
    have old2 : ∀ c o, c ≠ e → c ≠ it → s.heap.get? c = some o → h2.get? c = some o := fun c o a b d => e7.extBut c o a (e5 c o a b d)
    have gn : ∀ (b : Addr) (o : Obj), g.get? b = some o → b ≠ e ∧ b ≠ it := fun b o e => ⟨fun q => (by rw [q, Ne.2.2] at e; cases e), fun q => (by rw [q, Ni.2.2] at e; cases e)⟩
    have gN : ∀ c, s.heap.objs.size ≤ c → g.get? c = none := fun c hc => by
      cases e : g.get? c with
      | none => rfl
      | some o => exact absurd (Heap.lt_size (F.keep c o e)) (Nat.not_lt.mpr hc)
    have hC : C ≠ s.heap.objs.size := Nat.ne_of_lt F.ns.lt
    have F' : Fr g C h2 m := ⟨F.ns.at' fun o e => old2 _ _ (fun q => Ne.2.1 q.symm) (fun q => Ni.2.1 q.symm) e, fun b o e => old2 _ _ (gn b o e).1 (gn b o e).2 (F.keep b o e), F.above⟩
    refine h (.ref s.heap.objs.size) [(e, enumObj it ((i : Int) + 1) (items[i]'hi)), (it, o2)] [(s.heap.objs.size, { cls := .type "tuple", data := .seq #[.int i s.toks, items[i]'hi] })] h2 _ ⟨_, _, _, hx, rfl, rfl⟩ ⟨_, o2, rfl, q2, r2⟩ ?_ F' ?_
    · intro p hp
      rw [List.mem_singleton.mp hp]
      refine ⟨F.ns.lt, ?_, fun q hq => Heap.lt_size (Nr q hq).1⟩
      intro q hq
      rcases List.mem_cons.mp hq with rfl | hq
      · exact hs _ _ Ne.1
      · rw [List.mem_singleton.mp hq]; exact hs _ _ Ni.1
    · intro p hp
      rcases List.mem_cons.mp hp with rfl | hp
      · exact ⟨e6, Ne.2⟩
      rcases List.mem_cons.mp hp with rfl | hp
      · exact ⟨e7.extBut _ _ hne.symm e2, Ni.2⟩
      rcases List.mem_cons.mp hp with rfl | hp
      · exact ⟨e7.extBut _ _ (hs _ _ Ne.1).symm e3, hC.symm, gN _ (Nat.le_refl _)⟩
      have z := Nr p hp
      have o := hoff p hp
      exact ⟨old2 _ _ (o _ (.head _)) (o _ (.tail _ (.head _))) z.1, z.2⟩
  fin := by
    rintro its s m rest Q E ⟨old, o, rfl, ho⟩ hk hoff F N h
    have Ne := N _ (.head _)
    have Ni := N _ (.tail _ (.head _))
    have Nr : News g C s.heap rest := fun p hp => N p (.tail _ (.tail _ hp))
    refine wpAny_pyNext_enum_end hh Ne.1 ⟨o, Ni.1, ho.1, ho.2⟩ (Nr.isList (hk _ (.head _))) (by simp) fun h' hs => ?_
    exact h h' _ (Mine.fr_but F (fun q => Ni.2.1 q.symm) Ni.2.2 hs) (Mine.news_but Nr (fun p hp => hoff p hp _ (.tail _ (.head _))) hs)
theorem enum_list_K {m : Str → Option Value} {E : Value → Shared → Prop} {s : Shared} {l : Addr} {items : List Value} {c : Nat} {news : List (Addr × Obj)} {Q : Value → Shared → Prop} (F : Fr g C s.heap m) (N : News g C s.heap news) (hl : (l, W.listOf items.toArray c) ∈ news)
    (h : ∀ e it h' o', LIter o' l 0 → Fr g C h' m → News g C h' ((e, enumObj it 0 .none) :: (it, o') :: news) → (∀ p ∈ news, @LT.lt Nat _ p.1 it) → @LT.lt Nat _ it e → Q (.ref e) { s with heap := h' }) : wpAny (model prog w) A (call (.type "enumerate") [.ref l]) Q E s := by
  refine call_enumerate_list (N.isList hl) fun h' e1 e2 e3 e4 => ?_
  obtain ⟨o', e2, q, r⟩ := e2
  have gN : ∀ c, s.heap.objs.size ≤ c → g.get? c = none := fun c hc => by
    cases e : g.get? c with
    | none => rfl
    | some o => exact absurd (Heap.lt_size (F.keep c o e)) (Nat.not_lt.mpr hc)
  have hC : C < s.heap.objs.size := F.ns.lt
  refine h _ _ h' o' ⟨q, r⟩ (F.keeps e4) ?_ (fun p hp => Heap.lt_size (N p hp).1) (Nat.lt_succ_self _)
  intro p hp
  rcases List.mem_cons.mp hp with rfl | hp
  · exact ⟨e1, neN (Nat.ne_of_gt (Nat.lt_succ_of_lt hC)), gN _ (Nat.le_succ _)⟩
  rcases List.mem_cons.mp hp with rfl | hp
  · exact ⟨e2, neN (Nat.ne_of_gt hC), gN _ (Nat.le_refl _)⟩
  · exact ⟨e4 _ _ (N p hp).1, (N p hp).2⟩
end
section
variable {prog : Program} {w : World} {A : Around} {R : Result → Shared → Prop} {target : PySem.Expr} {body : List Stmt} {env : Env} {g : Heap} {L : Addr} {os : OsState}
theorem for_src {it : Value} {n : Nat} {keepL : List (Addr × Obj)} {S : Nat → List (Addr × Obj) → Prop} {V : Nat → Value → List (Addr × Obj) → Prop} (src : CSrc prog w A target g L it n keepL S V)
    (J : Nat → (Str → Option Value) → List (Addr × Obj) → Prop) 
    (hJ : ∀ i m news, J i m news → (∀ p ∈ keepL, p ∈ news) ∧ ∀ i' its, S i' its → ∀ p ∈ news, ∀ q ∈ its, p.1 ≠ q.1)
    (turn : ∀ (i : Nat) (v : Value) (its new : List (Addr × Obj)) (m : Str → Option Value) (news : List (Addr × Obj)) (s : Shared), i < n → V i v new → S (i + 1) its → J i m news →
      (∀ p ∈ new, @LT.lt Nat _ L p.1 ∧ (∀ q ∈ its, q.1 ≠ p.1) ∧ (∀ q ∈ news, @LT.lt Nat _ q.1 p.1)) → Fr g L s.heap m → News g L s.heap (its ++ (new ++ news)) → AllBare s.gens → s.os = os →
      wpAny (model prog w) A (assign target env v) (fun _ s₂ => wpAny (model prog w) A (execs body env) (fun f s₃ => match f with
          | .next | .cont => ∃ m₃ news₃, J (i + 1) m₃ news₃ ∧ Fr g L s₃.heap m₃ ∧ News g L s₃.heap (its ++ news₃) ∧ AllBare s₃.gens ∧ s₃.os = os
          | .brk => R (.ok .next) s₃
          | .ret v => R (.ok (.ret v)) s₃) (notedBy (model prog w) A env fun e s' => R (.error e) s') s₂) (notedBy (model prog w) A env fun e s' => R (.error e) s') s)
    (done : ∀ (m : Str → Option Value) (news : List (Addr × Obj)) (s : Shared), J n m news → Fr g L s.heap m → News g L s.heap news → AllBare s.gens → s.os = os → R (.ok .next) s) :
    ∀ (k i : Nat) (its : List (Addr × Obj)) (m : Str → Option Value) (news : List (Addr × Obj)) (s : Shared), i + k = n → S i its → J i m news → Fr g L s.heap m → News g L s.heap (its ++ news) → AllBare s.gens → s.os = os →
      codeAny (model prog w) A (.forLoop target it body [] env) R s := by
  intro k
  induction k with
  | zero =>
    intro i its m news s hk hS hj F N hb ho
    obtain rfl : i = n := by omega
    obtain ⟨h1, h2⟩ := hJ i m news hj
    refine for_turn2 (wpAny_mono (src.fin its s m _ (R (.ok .next)) _ hS h1 (h2 _ its hS) F N fun h' tk F' N' => done m news _ hj F' N' hb ho) (fun r s₁ h => ?_) fun _ _ e => e)
    cases r with
    | none => exact wpAny_execs_nil h
    | some v => exact h.elim
  | succ k ih =>
    intro i its m news s hk hS hj F N hb ho
    obtain ⟨h1, h2⟩ := hJ i m news hj
    refine for_turn2 (wpAny_mono (src.step i its s m _ (fun v s₁' => wpAny (model prog w) A (assign target env v) (fun _ s₂ => wpAny (model prog w) A (execs body env) (fun f s₃ => match f with
          | .next | .cont => codeAny (model prog w) A (.forLoop target it body [] env) R s₃
          | .brk => R (.ok .next) s₃
          | .ret v => R (.ok (.ret v)) s₃) (notedBy (model prog w) A env fun e s' => R (.error e) s') s₂) (notedBy (model prog w) A env fun e s' => R (.error e) s') s₁') _ (by omega) hS h1 (h2 _ its hS) F N fun v its' new h' tk hV hS' hnew F' N' => ?_) (fun r s₁ h => ?_) fun _ _ e => e)
    · refine wpAny_mono (turn i v its' new m news _ (by omega) hV hS' hj hnew F' N' hb ho) (fun _ s₂ h₂ => wpAny_mono h₂ (fun f s₃ h₃ => ?_) fun _ _ e => e) fun _ _ e => e
      have nx : (∃ m₃ news₃, J (i + 1) m₃ news₃ ∧ Fr g L s₃.heap m₃ ∧ News g L s₃.heap (its' ++ news₃) ∧ AllBare s₃.gens ∧ s₃.os = os) → codeAny (model prog w) A (.forLoop target it body [] env) R s₃ := by
        rintro ⟨m₃, news₃, hj3, F3, N3, hb3, ho3⟩
        exact ih (i + 1) its' m₃ news₃ s₃ (by omega) hS' hj3 F3 N3 hb3 ho3
      cases f with
      | next => exact nx h₃
      | cont => exact nx h₃
      | brk => exact h₃
      | ret v => exact h₃
    · cases r with
      | none => exact h.elim
      | some v => exact h
end
end Mine
end
section
open PySem PySem.W PyProof.Rows PySem.Calls PySem.Spec PyProof.Rows.LCg
set_option maxRecDepth 100000
namespace Mine
noncomputable def CDoneX (g : Heap) (L C D : Addr) (m : Str → Option Value) (os : OsState) (news0 : List (Addr × Obj)) (P : List Value → List (Addr × Obj) → Prop) (r : Result) (s' : Shared) : Prop :=
  r = .ok .next ∧ ∃ (oL : Obj) (mC : Str → Option Value) (ys : List Value) (tus : List (Addr × Obj)), NsObj oL m ∧ P ys tus ∧ (∀ p ∈ tus, @LT.lt Nat _ D p.1) ∧ Fr g C s'.heap mC ∧ News g C s'.heap ((L, oL) :: (D, lst ys) :: (tus ++ news0)) ∧ AllBare s'.gens ∧ s'.os = os
section
variable {prog : Program} {w : World} {A : Around} {E : Value → Shared → Prop} {s : Shared} {elt target iter : PySem.Expr} {ifs : List PySem.Expr} {rest : List Comprehension} {scope : Scope} {pos : Pos} {env : Env} {cl : List (Str × Addr)} {g : Heap} {L : Addr} {m : Str → Option Value}
noncomputable def CompH (prog : Program) (w : World) (A : Around) (elt target iter : PySem.Expr) (ifs : List PySem.Expr) (scope : Scope) (pos : Pos) (env : Env) (cl : List (Str × Addr)) (g : Heap) (L : Addr) (m : Str → Option Value) (os : OsState) (news0 : List (Addr × Obj)) (P : List Value → List (Addr × Obj) → Prop) (it : Value) (s₂ : Shared) : Prop :=
  ∃ newsI, Fr g L s₂.heap m ∧ News g L s₂.heap newsI ∧ (∀ p ∈ news0, p ∈ newsI) ∧
      (∀ (D C : Addr) (oL : Obj) (h' : Heap) (tk : Nat) (mC : Str → Option Value), @LT.lt Nat _ L D → @LT.lt Nat _ D C → (∀ p ∈ newsI, @LT.lt Nat _ p.1 D) → NsObj oL m → Fr g C h' mC → News g C h' ((L, oL) :: (D, lst []) :: newsI) →
        codeAny (model prog w) A (.compStart (.ListComp elt [⟨target, iter, ifs, 0⟩] scope pos) 0 it (.ref D) (compEnvC scope cl C env)) (CDoneX g L C D m os news0 P) { s₂ with heap := h', toks := tk })
noncomputable def CompGo (prog : Program) (w : World) (A : Around) (elt target iter : PySem.Expr) (ifs : List PySem.Expr) (scope : Scope) (pos : Pos) (env : Env) (cl : List (Str × Addr)) (g : Heap) (L : Addr) (m m' : Str → Option Value) (os : OsState) (Q : Value → Shared → Prop) (E : Value → Shared → Prop) (upd : Addr → Str → Option Value) (xv : Value) (s₁ : Shared) : Prop :=
  ∃ (news0 : List (Addr × Obj)) (P : List Value → List (Addr × Obj) → Prop), wpAny (model prog w) A (pyIter xv) (CompH prog w A elt target iter ifs scope pos env cl g L m os news0 P) E s₁ ∧
    ∀ (D : Addr) (ys : List Value) (tus : List (Addr × Obj)) (s' : Shared), P ys tus → @LT.lt Nat _ L D → (∀ p ∈ news0, @LT.lt Nat _ p.1 D) → (∀ p ∈ tus, @LT.lt Nat _ D p.1) → Fr g L s'.heap (upd D) → News g L s'.heap ((D, lst ys) :: (tus ++ news0)) → AllBare s'.gens → s'.os = os → Q (.ref D) s'
theorem compX_eval {Q : Value → Shared → Prop} (os : OsState)
    (hclos : closureFor scope env = pure cl) (hcell : ∀ y ∈ scope.names, y.2 ≠ .cell) (hkind : scope.kind = .function)
    (hnames : ∀ y ∈ scope.names, y.2 = .local → scope.names.lookup y.1 = some .local) (hs : ∀ x, foldedSetIterable iter env x = pure x)
    (h : wpAny (model prog w) A (eval iter env) (CompGo prog w A elt target iter ifs scope pos env cl g L m m os Q E (fun _ => m)) E s) :
    wpAny (model prog w) A (eval (.ListComp elt [⟨target, iter, ifs, 0⟩] scope pos) env) Q E s := by
  rw [eval_ListComp]
  refine wpAny_comprehension_free (use := none) rfl hs hclos hkind hnames (wpAny_mono h (fun xv s₁ h₁ => ?_) fun _ _ e => e)
  obtain ⟨news0, P, h₁, hq⟩ := h₁
  refine wpAny_mono h₁ (fun it s₂ h₂ => ?_) fun _ _ e => e
  obtain ⟨newsI, F, NI, hsub, hl⟩ := h₂
  have N : News g _ s₂.heap news0 := fun p hp => NI p (hsub p hp)
  refine comp_begin hcell hkind F NI fun D C oL h' tk mC hLD hDC h0 hoL FC NC => ?_
  refine codeAny_mono (hl D C oL h' tk mC hLD hDC h0 hoL FC NC) fun r s' hr => ?_
  obtain ⟨rfl, oL', mC', ys, tus, hoL', hP, ht, F', N', hb, ho⟩ := hr
  refine ⟨mC', F'.ns, fun h'' hs'' => ?_⟩
  obtain ⟨F2, N2⟩ := comp_back hLD F.above (fun p hp => (N p hp).2.1) ht hoL' F' N' h'' hs''
  exact hq D ys tus _ hP hLD (fun p hp => h0 p (hsub p hp)) ht F2 N2 hb ho
theorem compX_assign {y : Str} {py spos : Pos} {Q : Flow → Shared → Prop} (os : OsState) (hLe : env.locals = L)
    (hsw : swapsWith (.ListComp elt [⟨target, iter, ifs, 0⟩] scope pos) (some (.Name y py)) spos.line env = pure true)
    (hclos : closureFor scope env = pure cl) (hcell : ∀ y ∈ scope.names, y.2 ≠ .cell) (hkind : scope.kind = .function)
    (hnames : ∀ y ∈ scope.names, y.2 = .local → scope.names.lookup y.1 = some .local) 
    (hy : env.kindOf y = some .local) (hp : (env.scope.kind == .class || (env.scope.kind == .module && env.locals != env.globals)) = false) (hs : ∀ x, foldedSetIterable iter env x = pure x)
    (h : wpAny (model prog w) A (eval iter env) (CompGo prog w A elt target iter ifs scope pos env cl g L m m os (fun _ s' => Q .next s') E (fun D z => if z = y then some (.ref D) else m z)) E s) :
    wpAny (model prog w) A (exec (.Assign [.Name y py] (.ListComp elt [⟨target, iter, ifs, 0⟩] scope pos) spos) env) Q E s := by
  subst hLe
  rw [exec_Assign_Name_used _ _ _ _ hsw]
  refine wpAny_bind (wpAny_standAt (wpAny_bind ?_))
  show wpAny _ A (do let _ ← comprehension (.ListComp elt [⟨target, iter, ifs, 0⟩] scope pos) scope env _ (newList []) false (eval iter env) (some (assign (.Name y py) env))) _ _ s
  refine wpAny_bind (wpAny_mono (wpAny_comprehension_free (use := some (assign (.Name y py) env)) (Q := fun _ s' => Q .next s') rfl hs hclos hkind hnames
    (wpAny_mono h (fun xv s₁ h₁ => ?_) fun _ _ e => e)) (fun _ s' hq => wpAny_pure (wpAny_pure hq)) fun _ _ e => e)
  obtain ⟨news0, P, h₁, hq⟩ := h₁
  refine wpAny_mono h₁ (fun it s₂ h₂ => ?_) fun _ _ e => e
  obtain ⟨newsI, F, NI, hsub, hl⟩ := h₂
  have N : News g _ s₂.heap news0 := fun p hp => NI p (hsub p hp)
  refine comp_begin hcell hkind F NI fun D C oL h' tk mC hLD hDC h0 hoL FC NC => ?_
  refine codeAny_mono (hl D C oL h' tk mC hLD hDC h0 hoL FC NC) fun r s' hr => ?_
  obtain ⟨rfl, oL', mC', ys, tus, hoL', hP, ht, F', N', hb, ho⟩ := hr
  show wpAny _ A (assign (.Name y py) env (.ref D)) _ _ _
  have hL := N' _ (.head _)
  refine wpAny_assign_Name (wpAny_storeName_local hy (hoL'.ns hL.1) (fun h₂ hn₂ hs₂ => ?_) hp)
  have hLC : env.locals ≠ C := hL.2.1
  obtain ⟨oL2, e2, hoL2⟩ := ns_obj hn₂
  have eL : g.get? env.locals = none := hL.2.2
  have F3 : Fr g C h₂ mC' := F'.change hs₂ (Ne.symm hLC |> Ne.symm) eL
  have N3 : News g C h₂ ((env.locals, oL2) :: (D, lst ys) :: (tus ++ news0)) := by
    intro p hp
    cases hp with
    | head => exact ⟨e2, hL.2⟩
    | tail _ hp =>
      have z := N' p (.tail _ hp)
      refine ⟨hs₂.extBut _ _ ?_ z.1, z.2⟩
      cases hp with
      | head => exact neN (Nat.ne_of_gt hLD)
      | tail _ hp =>
        rcases List.mem_append.mp hp with hp | hp
        · exact neN (Nat.ne_of_gt (Nat.lt_trans hLD (ht p hp)))
        · exact (N p hp).2.1
  refine ⟨mC', F3.ns, fun h'' hs'' => ?_⟩
  obtain ⟨F2, N2⟩ := comp_back hLD F.above (fun p hp => (N p hp).2.1) ht hoL2 F3 N3 h'' hs''
  exact hq D ys tus _ hP hLD (fun p hp => h0 p (hsub p hp)) ht F2 N2 hb ho
end
section
variable {prog : Program} {w : World} {A : Around} {s : Shared} {elt target iter : PySem.Expr} {ifs : List PySem.Expr} {scope : Scope} {pos : Pos} {env : Env} {g : Heap} {C : Addr}
noncomputable def TEX (g : Heap) (C L D : Addr) (m : Str → Option Value) (oD : Obj) (os : OsState) (news0 its : List (Addr × Obj)) (K : List (Addr × Obj) → Prop) (s : Shared) : Prop :=
  ∃ (oL : Obj) (mC : Str → Option Value) (tus : List (Addr × Obj)), NsObj oL m ∧ K tus ∧ (∀ p ∈ tus, @LT.lt Nat _ D p.1) ∧ Fr g C s.heap mC ∧ News g C s.heap (its ++ ((L, oL) :: (D, oD) :: (tus ++ news0))) ∧ AllBare s.gens ∧ s.os = os
theorem compX_loop {it : Value} {n : Nat} {keepL news0 : List (Addr × Obj)} {S : Nat → List (Addr × Obj) → Prop} {V : Nat → Value → List (Addr × Obj) → Prop} (src : CSrc prog w A target g C it n keepL S V) {L D : Addr} {m : Str → Option Value} {os : OsState} (hn : n < 100000)
    (K : Nat → List Value → List (Addr × Obj) → Prop) (hkeep : ∀ p ∈ keepL, p ∈ news0) (hDC : @LT.lt Nat _ D C) (hLD : @LT.lt Nat _ L D) (hn0 : ∀ p ∈ news0, @LT.lt Nat _ p.1 D) (hL0 : ∀ p ∈ news0, p.1 ≠ L)
    (hits : ∀ i its, S i its → ∀ q ∈ its, @LT.lt Nat _ q.1 D ∧ q.1 ≠ L ∧ ∀ p ∈ news0, p.1 ≠ q.1)
    (turn : ∀ (oL : Obj) (i : Nat) (v : Value) (its new tus : List (Addr × Obj)) (mC : Str → Option Value) (ys : List Value) (s : Shared) (E : Value → Shared → Prop), NsObj oL m → i < n → V i v new → S (i + 1) its → K i ys tus → (∀ p ∈ tus, @LT.lt Nat _ D p.1) →
      (∀ p ∈ new, @LT.lt Nat _ C p.1 ∧ (∀ q ∈ its, q.1 ≠ p.1) ∧ (∀ q ∈ (L, oL) :: (D, lst ys) :: (tus ++ news0), @LT.lt Nat _ q.1 p.1)) → (∀ p ∈ (L, oL) :: (D, lst ys) :: (tus ++ news0), ∀ q ∈ its, p.1 ≠ q.1) → Fr g C s.heap mC → News g C s.heap (its ++ (new ++ ((L, oL) :: (D, lst ys) :: (tus ++ news0)))) → AllBare s.gens → s.os = os →
      wpAny (model prog w) A (assign target env v) (fun _ s₂ => wpAny (model prog w) A (testsOf ifs env) (fun ok s₃ => if ok = true then wpAny (model prog w) A (eval elt env) (fun x s₄ => TEX g C L D m (lst ys) os news0 its (K (i + 1) (ys ++ [x])) s₄) E s₃ else TEX g C L D m (lst ys) os news0 its (K (i + 1) ys) s₃) E s₂) E s) :
    ∀ (k i : Nat) (oL : Obj) (its tus : List (Addr × Obj)) (mC : Str → Option Value) (ys : List Value) (s : Shared), NsObj oL m → i + k = n → ys.length ≤ i → S i its → K i ys tus → (∀ p ∈ tus, @LT.lt Nat _ D p.1) → Fr g C s.heap mC → News g C s.heap (its ++ ((L, oL) :: (D, lst ys) :: (tus ++ news0))) → AllBare s.gens → s.os = os →
      codeAny (model prog w) A (.compLoop (.ListComp elt [⟨target, iter, ifs, 0⟩] scope pos) 0 it (.ref D) env) (CDoneX g L C D m os news0 (K n)) s := by
  have hoff : ∀ (oL : Obj) (i : Nat) (its tus : List (Addr × Obj)) (ys : List Value), S i its → (∀ p ∈ tus, @LT.lt Nat _ D p.1) → ∀ p ∈ (L, oL) :: (D, lst ys) :: (tus ++ news0), ∀ q ∈ its, p.1 ≠ q.1 := by
    intro oL i its tus ys hS ht p hp q hq
    obtain ⟨q1, q2, q3⟩ := hits i its hS q hq
    rcases List.mem_cons.mp hp with rfl | hp
    · exact Ne.symm q2
    rcases List.mem_cons.mp hp with rfl | hp
    · exact neN (Nat.ne_of_gt q1)
    rcases List.mem_append.mp hp with hp | hp
    · exact neN (Nat.ne_of_gt (Nat.lt_trans q1 (ht p hp)))
    · exact q3 p hp
  have hkp : ∀ (oL : Obj) (tus : List (Addr × Obj)) (ys : List Value), ∀ p ∈ keepL, p ∈ (L, oL) :: (D, lst ys) :: (tus ++ news0) := fun oL tus ys p hp => .tail _ (.tail _ (List.mem_append_right _ (hkeep p hp)))
  intro k
  induction k with
  | zero =>
    intro i oL its tus mC ys s hoL hk hy hS hK ht F N hb ho
    obtain rfl : i = n := by omega
    refine comp_turn1 (wpAny_mono (src.fin its s mC _ (CDoneX g L C D m os news0 (K i) (.ok .next)) _ hS (hkp oL tus ys) (hoff oL i its tus ys hS ht) F N fun h' tk F' N' => ?_) (fun r s₁ h₁ => ?_) fun _ _ e => e)
    · exact ⟨rfl, oL, mC, ys, tus, hoL, hK, ht, F', N', hb, ho⟩
    · cases r with
      | none => exact h₁
      | some v => exact h₁.elim
  | succ k ih =>
    intro i oL its tus mC ys s hoL hk hy hS hK ht F N hb ho
    refine comp_turn1 (wpAny_mono (src.step i its s mC _ (fun v s₁' => wpAny (model prog w) A (assign target env v) (fun _ s₂ => wpAny (model prog w) A (testsOf ifs env) (fun ok s₃ => if ok = true then wpAny (model prog w) A (eval elt env) (fun x s₄ => wpAny (model prog w) A (call (.builtin "list.append") [.ref D, x]) (fun _ s₅ => codeAny (model prog w) A (.compLoop (.ListComp elt [⟨target, iter, ifs, 0⟩] scope pos) 0 it (.ref D) env) (CDoneX g L C D m os news0 (K n)) s₅) (EE prog w A env (CDoneX g L C D m os news0 (K n))) s₄) (EE prog w A env (CDoneX g L C D m os news0 (K n))) s₃ else codeAny (model prog w) A (.compLoop (.ListComp elt [⟨target, iter, ifs, 0⟩] scope pos) 0 it (.ref D) env) (CDoneX g L C D m os news0 (K n)) s₃) (EE prog w A env (CDoneX g L C D m os news0 (K n))) s₂) (EE prog w A env (CDoneX g L C D m os news0 (K n))) s₁') _ (by omega) hS (hkp oL tus ys) (hoff oL i its tus ys hS ht) F N fun v its' new h' tk hV hS' hnew F' N' => ?_) (fun r s₁ h₁ => ?_) fun _ _ e => e)
    · refine wpAny_mono (turn oL i v its' new tus mC ys _ _ hoL (by omega) hV hS' hK ht hnew (hoff oL _ its' tus ys hS' ht) F' N' hb ho) (fun _ s₂ h₂ => wpAny_mono h₂ (fun ok s₃ h₃ => ?_) fun _ _ e => e) fun _ _ e => e
      cases ok with
      | false =>
        obtain ⟨oL3, mC3, tus3, hoL3, hK3, ht3, F3, N3, hb3, ho3⟩ := h₃
        exact ih (i + 1) oL3 its' tus3 mC3 ys s₃ hoL3 (by omega) (by omega) hS' hK3 ht3 F3 N3 hb3 ho3
      | true =>
        simp only [if_true] at h₃ ⊢
        refine wpAny_mono h₃ (fun x s₄ h₄ => ?_) fun _ _ e => e
        obtain ⟨oL3, mC3, tus3, hoL3, hK3, ht3, F3, N3, hb3, ho3⟩ := h₄
        have hi := hoff oL3 _ its' tus3 ys hS' ht3
        have zD := (N3 (D, lst ys) (List.mem_append_right _ (.tail _ (.head _)))).1
        have zC := (N3 (D, lst ys) (List.mem_append_right _ (.tail _ (.head _)))).2
        refine append_at (hsz := by show ys.toArray.size ≤ sizeLine; rw [List.size_toArray]; exact Nat.le_trans (show ys.length ≤ 100000 by omega) (by decide)) zD fun h₅ hs₅ hD₅ => ?_
        refine ih (i + 1) oL3 its' tus3 mC3 (ys ++ [x]) _ hoL3 (by omega) (by simp; omega) hS' hK3 ht3 (F3.change hs₅ zC.1 zC.2) ?_ hb3 ho3
        intro p hp
        by_cases hpD : p.1 = D
        · rcases List.mem_append.mp hp with hp | hp
          · exact absurd hpD (neN (Nat.ne_of_lt (hits _ _ hS' p hp).1))
          rcases List.mem_cons.mp hp with rfl | hp
          · exact absurd hpD (neN (Nat.ne_of_lt hLD))
          rcases List.mem_cons.mp hp with rfl | hp
          · exact ⟨hD₅.trans (congrArg some (lst_snoc ys x)), zC⟩
          rcases List.mem_append.mp hp with hp | hp
          · exact absurd hpD (neN (Nat.ne_of_gt (ht3 p hp)))
          · exact absurd hpD (neN (Nat.ne_of_lt (hn0 p hp)))
        · have hp' : p ∈ its' ++ ((L, oL3) :: (D, lst ys) :: (tus3 ++ news0)) := by
            rcases List.mem_append.mp hp with hp | hp
            · exact List.mem_append_left _ hp
            refine List.mem_append_right _ ?_
            rcases List.mem_cons.mp hp with rfl | hp
            · exact .head _
            rcases List.mem_cons.mp hp with rfl | hp
            · exact absurd rfl hpD
            · exact .tail _ (.tail _ hp)
          have z := N3 p hp'
          exact ⟨hs₅.extBut _ _ hpD z.1, z.2⟩
    · cases r with
      | none => exact h₁.elim
      | some v => exact h₁
end
section
variable {prog : Program} {w : World} {A : Around} {elt target iter : PySem.Expr} {ifs : List PySem.Expr} {scope : Scope} {pos : Pos} {env : Env} {cl : List (Str × Addr)} {g : Heap} {L : Addr} {m : Str → Option Value} {E₀ : Value → Shared → Prop}
noncomputable abbrev TurnG (prog : Program) (w : World) (A : Around) (elt target : PySem.Expr) (ifs : List PySem.Expr) (scope : Scope) (env : Env) (cl : List (Str × Addr)) (g : Heap) (L : Addr) (m : Str → Option Value) (os : OsState) (news0 : List (Addr × Obj)) (n : Nat) (V : Nat → Value → List (Addr × Obj) → Prop) (K : Nat → List Value → List (Addr × Obj) → Prop) : Prop :=
  ∀ (D C : Addr) (oL : Obj) (its : List (Addr × Obj)) (i : Nat) (v : Value) (new tus : List (Addr × Obj)) (mC : Str → Option Value) (ys : List Value) (s : Shared) (E : Value → Shared → Prop), NsObj oL m → g.objs.size ≤ L → @LT.lt Nat _ L D → @LT.lt Nat _ D C → (∀ p ∈ news0, @LT.lt Nat _ p.1 D) → i < n → V i v new → K i ys tus → (∀ p ∈ tus, @LT.lt Nat _ D p.1) →
    (∀ p ∈ new, @LT.lt Nat _ D p.1 ∧ (∀ q ∈ its, q.1 ≠ p.1) ∧ (∀ q ∈ (L, oL) :: (D, lst ys) :: (tus ++ news0), @LT.lt Nat _ q.1 p.1)) → (∀ p ∈ (L, oL) :: (D, lst ys) :: (tus ++ news0), ∀ q ∈ its, p.1 ≠ q.1) → (∀ p ∈ news0, p.1 ≠ L) →
    Fr g C s.heap mC → News g C s.heap (its ++ (new ++ ((L, oL) :: (D, lst ys) :: (tus ++ news0)))) → AllBare s.gens → s.os = os →
      wpAny (model prog w) A (assign target (compEnvC scope cl C env) v) (fun _ s₂ => wpAny (model prog w) A (testsOf ifs (compEnvC scope cl C env)) (fun ok s₃ => if ok = true then wpAny (model prog w) A (eval elt (compEnvC scope cl C env)) (fun x s₄ => TEX g C L D m (lst ys) os news0 its (K (i + 1) (ys ++ [x])) s₄) E s₃ else TEX g C L D m (lst ys) os news0 its (K (i + 1) ys) s₃) E s₂) E s
theorem h_list {items : List Value} {c : Nat} {l : Addr} {os : OsState} {news0 : List (Addr × Obj)} {s : Shared} (hh : A.handled = none)
    (hlet : ∀ (I : Addr) (i : Nat) (v : Value) (s : Shared) (Q : Unit → Shared → Prop) (E : Value → Shared → Prop), v ∈ items → s.heap.IsListIter I l i → Q () s → wpAny (model prog w) A (letOwnedTupleGo target (.ref I) v) Q E s)
    (hl : (l, W.listOf items.toArray c) ∈ news0) (hsz : items.length < 100000) (F : Fr g L s.heap m) (N : News g L s.heap news0) (hb : AllBare s.gens) (hos : s.os = os)
    (K : Nat → List Value → List (Addr × Obj) → Prop) (K0 : K 0 [] []) (turn : TurnG prog w A elt target ifs scope env cl g L m os news0 items.length (VL items) K) :
    wpAny (model prog w) A (pyIter (.ref l)) (CompH prog w A elt target iter ifs scope pos env cl g L m os news0 (K items.length)) E₀ s := by
  have hNL : ∀ p ∈ news0, p.1 ≠ L := fun p hp => (N p hp).2.1
  refine iter_list_K F N hl fun I h' o' hI F' N' hlt => ?_
  refine ⟨_, F', N', (fun p hp => .tail _ hp), fun D C oL h2 tk mC hLD hDC hn0 hoL FC NC => ?_⟩
  have hit : h2.IsListIter I l 0 := ⟨o', (NC _ (.tail _ (.tail _ (.head _)))).1, hI.1, hI.2⟩
  have loop := compX_loop (m := m) (prog := prog) (w := w) (A := A) (elt := elt) (iter := iter) (ifs := ifs) (scope := scope) (pos := pos) (env := compEnvC scope cl C env) (g := g) (C := C) (L := L) (D := D) (os := os) (news0 := news0) (K := K) (src_list (target := target) (l := l) (I := I) (items := items) (c := c) hh (hlet I)) hsz
    (by intro p hp; rw [List.mem_singleton.mp hp]; exact hl) hDC hLD (fun p hp => hn0 p (.tail _ hp)) (fun p hp => (N p hp).2.1)
    (by
      rintro i its ⟨o, rfl, ho⟩ q hq
      rw [List.mem_singleton.mp hq]
      exact ⟨hn0 (I, o') (.head _), (N' (I, o') (.head _)).2.1, fun p hp => neN (Nat.ne_of_lt (hlt p hp))⟩)
    (fun oL i v its new tus mC ys s E hoL hi hv hS hK ht hnew hoff F9 N hb hos => turn D C oL its i v new tus mC ys s E hoL F.above hLD hDC (fun p hp => hn0 p (.tail _ hp)) hi hv hK ht (fun p hp => ⟨Nat.lt_trans hDC (hnew p hp).1, (hnew p hp).2⟩) hoff hNL F9 N hb hos)
    items.length 0 oL [(I, o')] [] mC [] ⟨h2, s.gens, s.drawn, tk, s.os⟩ hoL (by omega) (Nat.le_refl _) ⟨o', rfl, hI⟩ K0 (fun _ h => absurd h List.not_mem_nil) FC (cb_drop NC (by
      intro p hp
      first
        | ((revert p hp); (try dsimp only [List.cons_append, List.nil_append]); (repeat' (first | with_reducible refine List.forall_mem_cons.mpr ⟨?_, ?_⟩ | with_reducible refine List.forall_mem_append.mpr ⟨?_, ?_⟩ | with_reducible exact List.forall_mem_nil _ | (intro _ _; ((repeat (first | with_reducible assumption | with_reducible exact List.mem_cons_self | (with_reducible refine List.mem_append_left _ ?_; (repeat (first | with_reducible exact List.mem_cons_self | with_reducible refine List.mem_cons_of_mem _ ?_ | with_reducible assumption)); done) | with_reducible refine List.mem_append_right _ ?_ | with_reducible refine List.mem_cons_of_mem _ ?_)); done)) | ((repeat (first | with_reducible assumption | with_reducible exact List.mem_cons_self | (with_reducible refine List.mem_append_left _ ?_; (repeat (first | with_reducible exact List.mem_cons_self | with_reducible refine List.mem_cons_of_mem _ ?_ | with_reducible assumption)); done) | with_reducible refine List.mem_append_right _ ?_ | with_reducible refine List.mem_cons_of_mem _ ?_)); done))); done)
        | (simp only [List.cons_append, List.nil_append, List.mem_cons] at hp ⊢; rcases hp with h | h | h | h <;> simp [h]))) hb hos
  exact codeAny_compStart_list loop (wpAny_pyIter_listiter hit loop)
theorem h_range {r : Addr} {n : Nat} {t u v : Tok} {os : OsState} {news0 : List (Addr × Obj)} {s : Shared} (hh : A.handled = none)
    (hlet : ∀ (I : Addr) (i : Int) (t : Tok), letOwnedTupleGo target (.ref I) (.int i t) = pure ())
    (hr : IsRange s.heap r 0 n 1 t u v) (hs1 : Builtin.Range.small 0 (n : Int) 1 = true) (hs2 : Builtin.Range.rangeSize 0 (n : Int) 1 = n) (hsz : n < 100000) (F : Fr g L s.heap m) (N : News g L s.heap news0) (hb : AllBare s.gens) (hos : s.os = os)
    (K : Nat → List Value → List (Addr × Obj) → Prop) (K0 : K 0 [] []) (turn : TurnG prog w A elt target ifs scope env cl g L m os news0 n (VR 0) K) :
    wpAny (model prog w) A (pyIter (.ref r)) (CompH prog w A elt target iter ifs scope pos env cl g L m os news0 (K n)) E₀ s := by
  refine wpAny_pyIter_range hr hs1 ?_
  rw [hs2]
  have N' := N.push F { cls := .type "range_iterator", data := .fields #[rawInt 0, rawInt (n : Int), rawInt 1] }
  have F' := F.push { cls := .type "range_iterator", data := .fields #[rawInt 0, rawInt (n : Int), rawInt 1] }
  have hlt : ∀ p ∈ news0, p.1 < s.heap.objs.size := fun p hp => Heap.lt_size (N p hp).1
  have hNL : ∀ p ∈ news0, p.1 ≠ L := fun p hp => (N p hp).2.1
  have hL := F.ns.lt
  generalize hI : s.heap.objs.size = I at *
  refine ⟨_, F', N', (fun p hp => .tail _ hp), fun D C oL h2 tk mC hLD hDC hn0 hoL FC NC => ?_⟩
  have hit : IsRangeIter h2 I 0 n 1 := (NC _ (.tail _ (.tail _ (.head _)))).1
  have loop := compX_loop (m := m) (prog := prog) (w := w) (A := A) (elt := elt) (iter := iter) (ifs := ifs) (scope := scope) (pos := pos) (env := compEnvC scope cl C env) (g := g) (C := C) (L := L) (D := D) (os := os) (news0 := news0) (K := K) (src_range (target := target) (I := I) (a := 0) (n := n) hh (fun i t => hlet I i t) (hlet I)) hsz
    (fun _ h => absurd h List.not_mem_nil) hDC hLD (fun p hp => hn0 p (.tail _ hp)) (fun p hp => (N p hp).2.1)
    (by
      rintro i its rfl q hq
      rw [List.mem_singleton.mp hq]
      have hID : @LT.lt Nat _ I D := hn0 _ (.head _)
      exact ⟨hID, neN (Nat.ne_of_gt hL), fun p hp => neN (Nat.ne_of_lt (hlt p hp))⟩)
    (fun oL i v its new tus mC ys s E hoL hi hv hS hK ht hnew hoff F9 N hb hos => turn D C oL its i v new tus mC ys s E hoL F.above hLD hDC (fun p hp => hn0 p (.tail _ hp)) hi hv hK ht (fun p hp => ⟨Nat.lt_trans hDC (hnew p hp).1, (hnew p hp).2⟩) hoff hNL F9 N hb hos)
    n 0 oL [(I, _)] [] mC [] ⟨h2, s.gens, s.drawn, tk, s.os⟩ hoL (by omega) (Nat.le_refl _) rfl K0 (fun _ h => absurd h List.not_mem_nil) FC (cb_drop NC (by
      intro p hp
      simp only [List.cons_append, List.nil_append, List.mem_cons] at hp ⊢
      rcases hp with h | h | h | h
      · right; right; left; rw [h]; simp
      · simp [h]
      · simp [h]
      · simp [h])) hb hos
  exact codeAny_compStart_list loop (wpAny_pyIter_rangeiter hit loop)
theorem zip_list_K {E : Value → Shared → Prop} {s : Shared} {l1 l2 : Addr} {xs ys : List Value} {c1 c2 : Nat} {news : List (Addr × Obj)} {Q : Value → Shared → Prop} (F : Fr g L s.heap m) (N : News g L s.heap news) (h1 : (l1, W.listOf xs.toArray c1) ∈ news) (h2 : (l2, W.listOf ys.toArray c2) ∈ news)
    (h : ∀ z TI TO i1 i2 its h', ZipApart z TI TO i1 i2 l1 l2 → SZ z TI TO i1 i2 l1 l2 0 its → Fr g L h' m → News g L h' (its ++ news) → (∀ q ∈ [z, TI, TO, i1, i2], @LT.lt Nat _ L q ∧ ∀ p ∈ news, @LT.lt Nat _ p.1 q) → Q (.ref z) { s with heap := h' }) :
    wpAny (model prog w) A (call (.type "zip") [.ref l1, .ref l2]) Q E s := by
  have a1 := Heap.lt_size (N _ h1).1
  have a2 := Heap.lt_size (N _ h2).1
  refine call_zip_2 (N.isList h1) (N.isList h2) fun h' hz hTI hTO hi1 hi2 _ hk => ?_
  obtain ⟨o1, e1, q1, r1⟩ := hi1
  obtain ⟨o2, e2, q2, r2⟩ := hi2
  have gN : ∀ c, s.heap.objs.size ≤ c → g.get? c = none := fun c hc => by
    cases e : g.get? c with
    | none => rfl
    | some o => exact absurd (Heap.lt_size (F.keep c o e)) (Nat.not_lt.mpr hc)
  have hC : L < s.heap.objs.size := F.ns.lt
  have big : ∀ q, s.heap.objs.size ≤ q → q ≠ L ∧ g.get? q = none := fun q hq => ⟨neN (Nat.ne_of_gt (Nat.lt_of_lt_of_le hC hq)), gN q hq⟩
  refine h _ _ _ _ _ _ h' (zipApart_new a1 a2) ⟨.none, .none, o1, o2, ⟨q1, r1⟩, ⟨q2, r2⟩, rfl⟩ (F.keeps hk) ?_ ?_
  · refine List.forall_mem_cons.mpr ⟨⟨hz, big _ (Nat.le_add_right _ _)⟩, List.forall_mem_cons.mpr ⟨⟨hTI, big _ (Nat.le_add_right _ _)⟩, List.forall_mem_cons.mpr ⟨⟨hTO, big _ (Nat.le_add_right _ _)⟩, List.forall_mem_cons.mpr ⟨⟨e1, big _ (Nat.le_refl _)⟩, List.forall_mem_cons.mpr ⟨⟨e2, big _ (Nat.le_add_right _ _)⟩, fun p h => ⟨hk _ _ (N p h).1, (N p h).2⟩⟩⟩⟩⟩⟩
  · intro q hq
    have : s.heap.objs.size ≤ q := by
      simp only [List.mem_cons, List.mem_nil_iff, or_false] at hq
      rcases hq with h | h | h | h | h <;> subst h <;> first | exact Nat.le_refl _ | exact Nat.le_add_right _ _
    exact ⟨Nat.lt_of_lt_of_le hC this, fun p hp => Nat.lt_of_lt_of_le (Heap.lt_size (N p hp).1) this⟩
theorem h_zip {elts : List PySem.Expr} {x1} {tp : Pos} {z TI TO i1 i2 l1 l2 : Addr} {xs ys : List Value} {c1 c2 n : Nat} {its0 : List (Addr × Obj)} {os : OsState} {news0 : List (Addr × Obj)} {s : Shared} (hh : A.handled = none) (Dz : ZipApart z TI TO i1 i2 l1 l2) (hz0 : SZ z TI TO i1 i2 l1 l2 0 its0)
    (h1 : xs.length = n) (h2 : ys.length = n) (hl1 : (l1, W.listOf xs.toArray c1) ∈ news0) (hl2 : (l2, W.listOf ys.toArray c2) ∈ news0) (hlt : ∀ q ∈ [z, TI, TO, i1, i2], @LT.lt Nat _ L q ∧ ∀ p ∈ news0, @LT.lt Nat _ p.1 q) (hsz : n < 100000) (F : Fr g L s.heap m) (N : News g L s.heap (its0 ++ news0)) (hb : AllBare s.gens) (hos : s.os = os)
    (K : Nat → List Value → List (Addr × Obj) → Prop) (K0 : K 0 [] []) (turn : TurnG prog w A elt (.Tuple elts x1 tp) ifs scope env cl g L m os news0 n (VZ xs ys) K) :
    wpAny (model prog w) A (pyIter (.ref z)) (CompH prog w A elt (.Tuple elts x1 tp) iter ifs scope pos env cl g L m os news0 (K n)) E₀ s := by
  have hz9 := hz0
  obtain ⟨a0, b0, o1, o2, ho1, ho2, rfl⟩ := hz0
  have hNL : ∀ p ∈ news0, p.1 ≠ L := fun p hp => (N p (List.mem_append_right _ hp)).2.1
  refine wpAny_pyIter_zip (N _ (.head _)).1 ?_
  refine ⟨_, F, N, (fun p hp => List.mem_append_right _ hp), fun D C oL h2' tk mC hLD hDC hn0 hoL FC NC => ?_⟩
  have hfst : ∀ i its, SZ z TI TO i1 i2 l1 l2 i its → ∀ q ∈ its, q.1 ∈ [z, TI, TO, i1, i2] := by
    rintro i its ⟨a, b, p1, p2, -, -, rfl⟩ q hq
    simp only [List.mem_cons, List.mem_nil_iff, or_false] at hq
    rcases hq with h | h | h | h | h <;> subst h <;> simp
  have hD : ∀ q ∈ [z, TI, TO, i1, i2], @LT.lt Nat _ q D := by
    intro q hq
    simp only [List.mem_cons, List.mem_nil_iff, or_false] at hq
    rcases hq with h | h | h | h | h <;> subst h
    · exact hn0 _ (.head _)
    · exact hn0 _ (.tail _ (.head _))
    · exact hn0 _ (.tail _ (.tail _ (.head _)))
    · exact hn0 _ (.tail _ (.tail _ (.tail _ (.head _))))
    · exact hn0 _ (.tail _ (.tail _ (.tail _ (.tail _ (.head _)))))
  have loop := compX_loop (m := m) (prog := prog) (w := w) (A := A) (elt := elt) (iter := iter) (ifs := ifs) (scope := scope) (pos := pos) (env := compEnvC scope cl C env) (g := g) (C := C) (L := L) (D := D) (os := os) (news0 := news0) (K := K) (src_zip (elts := elts) (x1 := x1) (tp := tp) (c1 := c1) (c2 := c2) hh Dz h1 h2) hsz
    (by
      exact List.forall_mem_cons.mpr ⟨hl1, List.forall_mem_cons.mpr ⟨hl2, List.forall_mem_nil _⟩⟩) hDC hLD (fun p hp => hn0 p (List.mem_append_right _ hp)) (fun p hp => (N p (List.mem_append_right _ hp)).2.1)
    (fun i its hS q hq => ⟨hD _ (hfst i its hS q hq), neN (Nat.ne_of_gt (hlt _ (hfst i its hS q hq)).1), fun p hp => neN (Nat.ne_of_lt ((hlt _ (hfst i its hS q hq)).2 p hp))⟩)
    (fun oL i v its new tus mC ys s E hoL hi hv hS hK ht hnew hoff F9 N hb hos => turn D C oL its i v new tus mC ys s E hoL F.above hLD hDC (fun p hp => hn0 p (List.mem_append_right _ hp)) hi hv hK ht (fun p hp => ⟨Nat.lt_trans hDC (hnew p hp).1, (hnew p hp).2⟩) hoff hNL F9 N hb hos)
    n 0 oL _ [] mC [] ⟨h2', s.gens, s.drawn, tk, s.os⟩ hoL (by omega) (Nat.le_refl _) hz9 K0 (fun _ h => absurd h List.not_mem_nil) FC (cb_drop NC (by
      intro p hp
      first
        | ((revert p hp); (try dsimp only [List.cons_append, List.nil_append]); (repeat' (first | with_reducible refine List.forall_mem_cons.mpr ⟨?_, ?_⟩ | with_reducible refine List.forall_mem_append.mpr ⟨?_, ?_⟩ | with_reducible exact List.forall_mem_nil _ | (intro _ _; ((repeat (first | with_reducible assumption | with_reducible exact List.mem_cons_self | (with_reducible refine List.mem_append_left _ ?_; (repeat (first | with_reducible exact List.mem_cons_self | with_reducible refine List.mem_cons_of_mem _ ?_ | with_reducible assumption)); done) | with_reducible refine List.mem_append_right _ ?_ | with_reducible refine List.mem_cons_of_mem _ ?_)); done)) | ((repeat (first | with_reducible assumption | with_reducible exact List.mem_cons_self | (with_reducible refine List.mem_append_left _ ?_; (repeat (first | with_reducible exact List.mem_cons_self | with_reducible refine List.mem_cons_of_mem _ ?_ | with_reducible assumption)); done) | with_reducible refine List.mem_append_right _ ?_ | with_reducible refine List.mem_cons_of_mem _ ?_)); done))); done)
        | (simp only [List.cons_append, List.nil_append, List.mem_cons] at hp ⊢; rcases hp with h | h | h | h | h | h | h | h <;> simp [h]))) hb hos
  exact codeAny_compStart_list loop (wpAny_pyIter_zip (NC _ (.tail _ (.tail _ (.head _)))).1 loop)
end
end Mine
end
section
open PySem PySem.W PyProof.Rows PySem.Calls PySem.Spec PyProof.Rows.LCg
set_option maxRecDepth 100000
namespace Mine
section
variable {prog : Program} {w : World} {A : Around} {s : Shared} {elt target iter t2 i2 : PySem.Expr} {scope : Scope} {pos : Pos} {env : Env} {g : Heap} {C : Addr}
noncomputable def TM (g : Heap) (C L D : Addr) (oL oD : Obj) (os : OsState) (news0 its : List (Addr × Obj)) (K : (Str → Option Value) → List (Addr × Obj) → Prop) (s : Shared) : Prop :=
  ∃ (mC : Str → Option Value) (tus : List (Addr × Obj)), K mC tus ∧ (∀ p ∈ tus, @LT.lt Nat _ D p.1) ∧ Fr g C s.heap mC ∧ News g C s.heap (its ++ ((L, oL) :: (D, oD) :: (tus ++ news0))) ∧ AllBare s.gens ∧ s.os = os
theorem comp_inner {it : Value} {n : Nat} {news0 itsO : List (Addr × Obj)} {S : Nat → List (Addr × Obj) → Prop} {V : Nat → Value → List (Addr × Obj) → Prop} (src : CSrc prog w A t2 g C it n [] S V) {L D : Addr} {oL : Obj} {os : OsState} {R : Result → Shared → Prop}
    (K : Nat → (Str → Option Value) → List Value → List (Addr × Obj) → Prop) (hDC : @LT.lt Nat _ D C) (hLD : @LT.lt Nat _ L D) (hn0 : ∀ p ∈ news0, @LT.lt Nat _ p.1 D) (hsz : ∀ j mC ys tus, K j mC ys tus → ys.length < 100000)
    (hits : ∀ i its, S i its → ∀ q ∈ its, @LT.lt Nat _ D q.1 ∧ (∀ p ∈ itsO, p.1 ≠ q.1)) (hitO : ∀ q ∈ itsO, @LT.lt Nat _ q.1 D)
    (hbig : ∀ i its tus, S i its → (∀ p ∈ tus, @LT.lt Nat _ D p.1) → (∀ mC ys, K i mC ys tus → ∀ p ∈ tus, ∀ q ∈ its, p.1 ≠ q.1))
    (turn : ∀ (i : Nat) (v : Value) (its new tus : List (Addr × Obj)) (mC : Str → Option Value) (ys : List Value) (s : Shared) (E : Value → Shared → Prop), i < n → V i v new → S (i + 1) its → K i mC ys tus → (∀ p ∈ tus, @LT.lt Nat _ D p.1) →
      Fr g C s.heap mC → News g C s.heap (its ++ (new ++ (itsO ++ ((L, oL) :: (D, lst ys) :: (tus ++ news0))))) → AllBare s.gens → s.os = os →
      wpAny (model prog w) A (assign t2 env v) (fun _ s₂ => wpAny (model prog w) A (eval elt env) (fun x s₄ => TM g C L D oL (lst ys) os news0 (its ++ itsO) (fun mC tus => K (i + 1) mC (ys ++ [x]) tus) s₄) E s₂) E s)
    (done : ∀ (mC : Str → Option Value) (ys : List Value) (tus : List (Addr × Obj)) (s : Shared), K n mC ys tus → (∀ p ∈ tus, @LT.lt Nat _ D p.1) → Fr g C s.heap mC → News g C s.heap (itsO ++ ((L, oL) :: (D, lst ys) :: (tus ++ news0))) → AllBare s.gens → s.os = os → R (.ok .next) s) :
    ∀ (k i : Nat) (its tus : List (Addr × Obj)) (mC : Str → Option Value) (ys : List Value) (s : Shared), i + k = n → S i its → K i mC ys tus → (∀ p ∈ tus, @LT.lt Nat _ D p.1) → Fr g C s.heap mC → News g C s.heap (its ++ (itsO ++ ((L, oL) :: (D, lst ys) :: (tus ++ news0)))) → AllBare s.gens → s.os = os →
      codeAny (model prog w) A (.compLoop (.ListComp elt [⟨target, iter, [], 0⟩, ⟨t2, i2, [], 0⟩] scope pos) 1 it (.ref D) env) R s := by
  have hoff : ∀ (i : Nat) (its tus : List (Addr × Obj)) (ys : List Value), S i its → (∀ p ∈ tus, ∀ q ∈ its, p.1 ≠ q.1) → ∀ p ∈ itsO ++ ((L, oL) :: (D, lst ys) :: (tus ++ news0)), ∀ q ∈ its, p.1 ≠ q.1 := by
    intro i its tus ys hS ht p hp q hq
    obtain ⟨q1, q2⟩ := hits i its hS q hq
    rcases List.mem_append.mp hp with hp | hp
    · exact q2 p hp
    rcases List.mem_cons.mp hp with rfl | hp
    · exact neN (Nat.ne_of_lt (Nat.lt_trans hLD q1))
    rcases List.mem_cons.mp hp with rfl | hp
    · exact neN (Nat.ne_of_lt q1)
    rcases List.mem_append.mp hp with hp | hp
    · exact ht p hp q hq
    · exact neN (Nat.ne_of_lt (Nat.lt_trans (hn0 p hp) q1))
  intro k
  induction k with
  | zero =>
    intro i its tus mC ys s hk hS hK ht F N hb ho
    obtain rfl : i = n := by omega
    refine comp_turn2i (wpAny_mono (src.fin its s mC _ (R (.ok .next)) _ hS (fun _ h => absurd h List.not_mem_nil) (hoff i its tus ys hS (hbig i its tus hS ht mC ys hK)) F N fun h' tk F' N' => ?_) (fun r s₁ h₁ => ?_) fun _ _ e => e)
    · exact done mC ys tus _ hK ht F' N' hb ho
    · cases r with
      | none => exact h₁
      | some v => exact h₁.elim
  | succ k ih =>
    intro i its tus mC ys s hk hS hK ht F N hb ho
    refine comp_turn2i (wpAny_mono (src.step i its s mC _ (fun v s₁' => wpAny (model prog w) A (assign t2 env v) (fun _ s₂ => 
            wpAny (model prog w) A (eval elt env) (fun x s₄ => wpAny (model prog w) A (call (.builtin "list.append") [.ref D, x]) (fun _ s₅ => codeAny (model prog w) A (.compLoop (.ListComp elt [⟨target, iter, [], 0⟩, ⟨t2, i2, [], 0⟩] scope pos) 1 it (.ref D) env) R s₅) (EE prog w A env R) s₄) (EE prog w A env R) s₂
            ) (EE prog w A env R) s₁') _ (by omega) hS (fun _ h => absurd h List.not_mem_nil) (hoff i its tus ys hS (hbig i its tus hS ht mC ys hK)) F N fun v its' new h' tk hV hS' hnew F' N' => ?_) (fun r s₁ h₁ => ?_) fun _ _ e => e)
    · refine wpAny_mono (turn i v its' new tus mC ys _ _ (by omega) hV hS' hK ht F' N' hb ho) (fun _ s₂ h₂ => wpAny_mono h₂ (fun x s₄ h₄ => ?_) fun _ _ e => e) fun _ _ e => e
      obtain ⟨mC3, tus3, hK3, ht3, F3, N3, hb3, ho3⟩ := h₄
      rw [List.append_assoc] at N3
      have zD := (N3 (D, lst ys) (List.mem_append_right _ (List.mem_append_right _ (.tail _ (.head _))))).1
      have zC := (N3 (D, lst ys) (List.mem_append_right _ (List.mem_append_right _ (.tail _ (.head _))))).2
      have hy := hsz _ _ _ _ hK3
      rw [List.length_append] at hy
      refine append_at (hsz := by show ys.toArray.size ≤ sizeLine; rw [List.size_toArray]; exact Nat.le_trans (show ys.length ≤ 100000 by omega) (by decide)) zD fun h₅ hs₅ hD₅ => ?_
      refine ih (i + 1) its' tus3 mC3 (ys ++ [x]) _ (by omega) hS' hK3 ht3 (F3.change hs₅ zC.1 zC.2) ?_ hb3 ho3
      intro p hp
      by_cases hpD : p.1 = D
      · rcases List.mem_append.mp hp with hp | hp
        · exact absurd hpD (neN (Nat.ne_of_gt (hits _ _ hS' p hp).1))
        rcases List.mem_append.mp hp with hp | hp
        · exact absurd hpD (neN (Nat.ne_of_lt (hitO p hp)))
        rcases List.mem_cons.mp hp with rfl | hp
        · exact absurd hpD (neN (Nat.ne_of_lt hLD))
        rcases List.mem_cons.mp hp with rfl | hp
        · exact ⟨hD₅.trans (congrArg some (lst_snoc ys x)), zC⟩
        rcases List.mem_append.mp hp with hp | hp
        · exact absurd hpD (neN (Nat.ne_of_gt (ht3 p hp)))
        · exact absurd hpD (neN (Nat.ne_of_lt (hn0 p hp)))
      · have hp' : p ∈ its' ++ (itsO ++ ((L, oL) :: (D, lst ys) :: (tus3 ++ news0))) := by
          rcases List.mem_append.mp hp with hp | hp
          · exact List.mem_append_left _ hp
          refine List.mem_append_right _ ?_
          rcases List.mem_append.mp hp with hp | hp
          · exact List.mem_append_left _ hp
          refine List.mem_append_right _ ?_
          rcases List.mem_cons.mp hp with rfl | hp
          · exact .head _
          rcases List.mem_cons.mp hp with rfl | hp
          · exact absurd rfl hpD
          · exact .tail _ (.tail _ hp)
        have z := N3 p hp'
        exact ⟨hs₅.extBut _ _ hpD z.1, z.2⟩
    · cases r with
      | none => exact h₁.elim
      | some v => exact h₁
noncomputable def OT (g : Heap) (C L D : Addr) (oL : Obj) (os : OsState) (news0 its : List (Addr × Obj)) (K : List Value → List (Addr × Obj) → Prop) (s : Shared) : Prop :=
  ∃ (mC : Str → Option Value) (ys : List Value) (tus : List (Addr × Obj)), K ys tus ∧ (∀ p ∈ tus, @LT.lt Nat _ D p.1) ∧ Fr g C s.heap mC ∧ News g C s.heap (its ++ ((L, oL) :: (D, lst ys) :: (tus ++ news0))) ∧ AllBare s.gens ∧ s.os = os
theorem comp_outer {it : Value} {n : Nat} {keepL news0 : List (Addr × Obj)} {S : Nat → List (Addr × Obj) → Prop} {V : Nat → Value → List (Addr × Obj) → Prop} (src : CSrc prog w A target g C it n keepL S V) {L D : Addr} {oL : Obj} {os : OsState}
    (hfold : ∀ x, foldedSetIterable i2 env x = pure x)
    (K : Nat → List Value → List (Addr × Obj) → Prop) (hkeep : ∀ p ∈ keepL, p ∈ news0) (hDC : @LT.lt Nat _ D C) (hL0 : ∀ p ∈ news0, p.1 ≠ L)
    (hits : ∀ i its, S i its → ∀ q ∈ its, @LT.lt Nat _ q.1 D ∧ q.1 ≠ L ∧ ∀ p ∈ news0, p.1 ≠ q.1)
    (turn : ∀ (i : Nat) (v : Value) (its new tus : List (Addr × Obj)) (mC : Str → Option Value) (ys : List Value) (s : Shared) (E : Value → Shared → Prop), i < n → V i v new → S (i + 1) its → K i ys tus → (∀ p ∈ tus, @LT.lt Nat _ D p.1) →
      (∀ p ∈ new, @LT.lt Nat _ C p.1 ∧ (∀ q ∈ its, q.1 ≠ p.1) ∧ (∀ q ∈ (L, oL) :: (D, lst ys) :: (tus ++ news0), @LT.lt Nat _ q.1 p.1)) → (∀ p ∈ (L, oL) :: (D, lst ys) :: (tus ++ news0), ∀ q ∈ its, p.1 ≠ q.1) → Fr g C s.heap mC → News g C s.heap (its ++ (new ++ ((L, oL) :: (D, lst ys) :: (tus ++ news0)))) → AllBare s.gens → s.os = os →
      wpAny (model prog w) A (assign target env v) (fun _ s₂ => wpAny (model prog w) A (eval i2 env) (fun x s₄ => wpAny (model prog w) A (pyIter x) (fun it2 s₅ => codeAny (model prog w) A (.compStart (.ListComp elt [⟨target, iter, [], 0⟩, ⟨t2, i2, [], 0⟩] scope pos) 1 it2 (.ref D) env)
        (fun r s' => r = .ok .next ∧ OT g C L D oL os news0 its (K (i + 1)) s') s₅) E s₄) E s₂) E s) :
    ∀ (k i : Nat) (its tus : List (Addr × Obj)) (mC : Str → Option Value) (ys : List Value) (s : Shared), i + k = n → S i its → K i ys tus → (∀ p ∈ tus, @LT.lt Nat _ D p.1) → Fr g C s.heap mC → News g C s.heap (its ++ ((L, oL) :: (D, lst ys) :: (tus ++ news0))) → AllBare s.gens → s.os = os →
      codeAny (model prog w) A (.compLoop (.ListComp elt [⟨target, iter, [], 0⟩, ⟨t2, i2, [], 0⟩] scope pos) 0 it (.ref D) env) (CDone g L C D oL os news0 (K n)) s := by
  have hoff : ∀ (i : Nat) (its tus : List (Addr × Obj)) (ys : List Value), S i its → (∀ p ∈ tus, @LT.lt Nat _ D p.1) → ∀ p ∈ (L, oL) :: (D, lst ys) :: (tus ++ news0), ∀ q ∈ its, p.1 ≠ q.1 := by
    intro i its tus ys hS ht p hp q hq
    obtain ⟨q1, q2, q3⟩ := hits i its hS q hq
    rcases List.mem_cons.mp hp with rfl | hp
    · exact Ne.symm q2
    rcases List.mem_cons.mp hp with rfl | hp
    · exact neN (Nat.ne_of_gt q1)
    rcases List.mem_append.mp hp with hp | hp
    · exact neN (Nat.ne_of_gt (Nat.lt_trans q1 (ht p hp)))
    · exact q3 p hp
  have hkp : ∀ (tus : List (Addr × Obj)) (ys : List Value), ∀ p ∈ keepL, p ∈ (L, oL) :: (D, lst ys) :: (tus ++ news0) := fun tus ys p hp => .tail _ (.tail _ (List.mem_append_right _ (hkeep p hp)))
  intro k
  induction k with
  | zero =>
    intro i its tus mC ys s hk hS hK ht F N hb ho
    obtain rfl : i = n := by omega
    refine comp_turn2o hfold (wpAny_mono (src.fin its s mC _ (CDone g L C D oL os news0 (K i) (.ok .next)) _ hS (hkp tus ys) (hoff i its tus ys hS ht) F N fun h' tk F' N' => ?_) (fun r s₁ h₁ => ?_) fun _ _ e => e)
    · exact ⟨rfl, mC, ys, tus, hK, ht, F', N', hb, ho⟩
    · cases r with
      | none => exact h₁
      | some v => exact h₁.elim
  | succ k ih =>
    intro i its tus mC ys s hk hS hK ht F N hb ho
    refine comp_turn2o hfold (wpAny_mono (src.step i its s mC _ (fun v s₁' => wpAny (model prog w) A (assign target env v) (fun _ s₂ => 
            wpAny (model prog w) A (eval i2 env) (fun x s₄ => wpAny (model prog w) A (pyIter x) (fun it2 s₅ => codeAny (model prog w) A (.compStart (.ListComp elt [⟨target, iter, [], 0⟩, ⟨t2, i2, [], 0⟩] scope pos) 1 it2 (.ref D) env)
                (fun r s' => match r with | .ok _ => codeAny (model prog w) A (.compLoop (.ListComp elt [⟨target, iter, [], 0⟩, ⟨t2, i2, [], 0⟩] scope pos) 0 it (.ref D) env) (CDone g L C D oL os news0 (K n)) s' | .error e => cameBackBy (model prog w) A env (EE prog w A env (CDone g L C D oL os news0 (K n))) e s') s₅) (EE prog w A env (CDone g L C D oL os news0 (K n))) s₄) (EE prog w A env (CDone g L C D oL os news0 (K n))) s₂
            ) (EE prog w A env (CDone g L C D oL os news0 (K n))) s₁') _ (by omega) hS (hkp tus ys) (hoff i its tus ys hS ht) F N fun v its' new h' tk hV hS' hnew F' N' => ?_) (fun r s₁ h₁ => ?_) fun _ _ e => e)
    · refine wpAny_mono (turn i v its' new tus mC ys _ _ (by omega) hV hS' hK ht hnew (hoff _ its' tus ys hS' ht) F' N' hb ho) (fun _ s₂ h₂ => wpAny_mono h₂ (fun x s₄ h₄ => wpAny_mono h₄ (fun it2 s₅ h₅ => codeAny_mono h₅ fun r s' hr => ?_) fun _ _ e => e) fun _ _ e => e) fun _ _ e => e
      obtain ⟨rfl, mC3, ys3, tus3, hK3, ht3, F3, N3, hb3, ho3⟩ := hr
      exact ih (i + 1) its' tus3 mC3 ys3 s' (by omega) hS' hK3 ht3 F3 N3 hb3 ho3
    · cases r with
      | none => exact h₁.elim
      | some v => exact h₁
end
end Mine
end
section
open PySem PySem.W PyProof.Rows PySem.Calls PySem.Spec PyProof.Rows.LCg
set_option maxRecDepth 100000
namespace Mine
noncomputable def wyStmt : Stmt := sAt PP.main.body 19
noncomputable def wyFor : Stmt := sAt (fdBody wyStmt) 1
noncomputable def asVal : Stmt → PySem.Expr
  | .Assign _ e _ => e
  | _ => .Constant .none 0 ⟨0, 0, 0, 0⟩
noncomputable def lcElt : PySem.Expr → PySem.Expr
  | .ListComp e _ _ _ => e
  | e => e
noncomputable def lcScope (d : Scope) : PySem.Expr → Scope
  | .ListComp _ _ s _ => s
  | _ => d
noncomputable def lcGens : PySem.Expr → List Comprehension
  | .ListComp _ g _ _ => g
  | _ => []
noncomputable def gTarget (d : PySem.Expr) : List Comprehension → PySem.Expr
  | g :: _ => g.target
  | _ => d
noncomputable abbrev wyName : Str := Str.ofString "_law_ways"
noncomputable abbrev wyEnv (L : Addr) : Env := envOfC wyName (fdScope wyStmt) L 173 (.ref 172)
noncomputable def wyA1 : Stmt := sAt (ifThen (sAt (forBody wyFor) 0)) 0
noncomputable def wyA2 : Stmt := sAt (ifElse (sAt (forBody wyFor) 0)) 0
inductive WyAt (news : List (Addr × Obj)) : List Value → List (List Int × List Int) → Prop
  | nil : WyAt news [] []
  | cons {t a b : Addr} {vs : List Value} {ins ws : List Int} {r : List (List Int × List Int)} (c ca cb : Nat) (iv wv : List Value) : (t, ({ cls := .type "tuple", data := .seq #[.ref a, .ref b] c } : Obj)) ∈ news → (a, W.listOf iv.toArray ca) ∈ news → (b, W.listOf wv.toArray cb) ∈ news → IntsAre iv ins → IntsAre wv ws → ins.length ≤ 8 → ws.length ≤ 8 →
      WyAt news vs r → WyAt news (.ref t :: vs) ((ins, ws) :: r)
theorem WyAt.mono {news news' : List (Addr × Obj)} {vs : List Value} {r : List (List Int × List Int)} (h : WyAt news vs r) (k : ∀ p ∈ news, p ∈ news') : WyAt news' vs r := by
  induction h with
  | nil => exact .nil
  | cons c ca cb iv wv h1 h2 h3 h4 h5 h6 h7 _ ih => exact .cons c ca cb iv wv (k _ h1) (k _ h2) (k _ h3) h4 h5 h6 h7 ih
theorem WyAt.append {news : List (Addr × Obj)} {a b : List Value} {x y : List (List Int × List Int)} (h : WyAt news a x) (k : WyAt news b y) : WyAt news (a ++ b) (x ++ y) := by
  induction h with
  | nil => exact k
  | cons c ca cb iv wv h1 h2 h3 h4 h5 h6 h7 _ ih => exact .cons c ca cb iv wv h1 h2 h3 h4 h5 h6 h7 ih
theorem WyAt.length {news : List (Addr × Obj)} {a : List Value} {x : List (List Int × List Int)} (h : WyAt news a x) : a.length = x.length := by
  induction h with
  | nil => rfl
  | cons _ _ _ _ _ _ _ _ _ _ _ _ _ ih => simp [ih]
theorem WyAt.get {news : List (Addr × Obj)} {vs : List Value} {r : List (List Int × List Int)} (h : WyAt news vs r) : ∀ {i : Nat} {v : Value}, vs[i]? = some v →
    ∃ (t a b : Addr) (ins ws : List Int) (c ca cb : Nat) (iv wv : List Value), v = .ref t ∧ r[i]? = some (ins, ws) ∧ (t, ({ cls := .type "tuple", data := .seq #[.ref a, .ref b] c } : Obj)) ∈ news ∧ (a, W.listOf iv.toArray ca) ∈ news ∧ (b, W.listOf wv.toArray cb) ∈ news ∧ IntsAre iv ins ∧ IntsAre wv ws ∧ ins.length ≤ 8 ∧ ws.length ≤ 8 := by
  induction h with
  | nil => intro i v hv; simp at hv
  | @cons t a b vs ins ws r c ca cb iv wv h1 h2 h3 h4 h5 h6 h7 _ ih =>
    intro i v hv
    cases i with
    | zero => simp at hv; exact ⟨t, a, b, ins, ws, c, ca, cb, iv, wv, hv.symm, by simp, h1, h2, h3, h4, h5, h6, h7⟩
    | succ i => exact ih (by simpa using hv)
theorem IntsAre_len {vs : List Value} {ns : List Int} (h : IntsAre vs ns) : vs.length = ns.length := by
  induction h with
  | nil => rfl
  | cons n t _ ih => simp [ih]
noncomputable def stepC (now : Int) (p : List Int × List Int) : List Int × List Int := (p.1 ++ [now], p.2)
section
variable {prog : Program} {w : World} {A : Around} {s : Shared} {elt target iter : PySem.Expr} {scope : Scope} {pos : Pos} {env : Env} {g : Heap} {C : Addr}
theorem comp_loop0 {it : Value} {n : Nat} {keepL news0 : List (Addr × Obj)} {S : Nat → List (Addr × Obj) → Prop} {V : Nat → Value → List (Addr × Obj) → Prop} (src : CSrc prog w A target g C it n keepL S V) {L D : Addr} {oL : Obj} {os : OsState} (hn : n < 100000)
    (K : Nat → List Value → List (Addr × Obj) → Prop) (hkeep : ∀ p ∈ keepL, p ∈ news0) (hDC : @LT.lt Nat _ D C) (hLD : @LT.lt Nat _ L D) (hn0 : ∀ p ∈ news0, @LT.lt Nat _ p.1 D) (hL0 : ∀ p ∈ news0, p.1 ≠ L)
    (hits : ∀ i its, S i its → ∀ q ∈ its, @LT.lt Nat _ q.1 D ∧ q.1 ≠ L ∧ ∀ p ∈ news0, p.1 ≠ q.1)
    (turn : ∀ (i : Nat) (v : Value) (its new tus : List (Addr × Obj)) (mC : Str → Option Value) (ys : List Value) (s : Shared) (E : Value → Shared → Prop), i < n → V i v new → S (i + 1) its → K i ys tus → (∀ p ∈ tus, @LT.lt Nat _ D p.1) →
      (∀ p ∈ new, @LT.lt Nat _ C p.1 ∧ (∀ q ∈ its, q.1 ≠ p.1) ∧ (∀ q ∈ (L, oL) :: (D, lst ys) :: (tus ++ news0), @LT.lt Nat _ q.1 p.1)) → (∀ p ∈ (L, oL) :: (D, lst ys) :: (tus ++ news0), ∀ q ∈ its, p.1 ≠ q.1) → Fr g C s.heap mC → News g C s.heap (its ++ (new ++ ((L, oL) :: (D, lst ys) :: (tus ++ news0)))) → AllBare s.gens → s.os = os →
      wpAny (model prog w) A (assign target env v) (fun _ s₂ => wpAny (model prog w) A (eval elt env) (fun x s₄ => TE g C L D oL (lst ys) os news0 its (K (i + 1) (ys ++ [x])) s₄) E s₂) E s) :
    ∀ (k i : Nat) (its tus : List (Addr × Obj)) (mC : Str → Option Value) (ys : List Value) (s : Shared), i + k = n → ys.length ≤ i → S i its → K i ys tus → (∀ p ∈ tus, @LT.lt Nat _ D p.1) → Fr g C s.heap mC → News g C s.heap (its ++ ((L, oL) :: (D, lst ys) :: (tus ++ news0))) → AllBare s.gens → s.os = os →
      codeAny (model prog w) A (.compLoop (.ListComp elt [⟨target, iter, [], 0⟩] scope pos) 0 it (.ref D) env) (CDone g L C D oL os news0 (K n)) s :=
  comp_loop src hn K hkeep hDC hLD hn0 hL0 hits fun i v its new tus mC ys s E a1 a2 a3 a4 a5 a6 a7 a8 a9 a10 a11 =>
    wpAny_mono (turn i v its new tus mC ys s E a1 a2 a3 a4 a5 a6 a7 a8 a9 a10 a11) (fun _ s₂ h₂ => wpAny_tests_nil (by simp only [if_true]; exact h₂)) fun _ _ e => e
end
section
variable {M : Model} {A : Around} {E : Value → Shared → Prop} {s : Shared} {scope : Scope} {L C : Addr} {cl : List (Str × Addr)} {env : Env} {g : Heap} {m : Str → Option Value} {news : List (Addr × Obj)}
theorem stC {x : Str} {v : Value} {Q : Unit → Shared → Prop} (F : Fr g C s.heap m) (N : News g C s.heap news)
    (hk : scope.kind = .function) (hl : (compEnvC scope cl C env).kindOf x = some .local)
    (h : ∀ h', Fr g C h' (fun y => if y = x then some v else m y) → News g C h' news → Q () { s with heap := h', toks := s.toks + 1 }) :
    wpAny M A (storeName (compEnvC scope cl C env) x v) Q E s :=
  wpAny_storeName_local hl F.ns (fun h' hn hs => h h' (F.set hn hs) (N.set hs))
    (by simp [compEnvC, relabel, hk])
theorem ldC {x : Str} {pos : Pos} {v : Value} {Q : Value → Shared → Prop} (F : Fr g C s.heap m) (hk : (compEnvC scope cl C env).scope.kind = .function) (hl : (compEnvC scope cl C env).kindOf x = some .local) (hv : m x = some v) 
    (hd : (x == ("__debug__" : Str)) = false) (h : Q v s) :
    wpAny M A (eval (.Name x pos) (compEnvC scope cl C env)) Q E s := wpAny_Name (wpAny_loadName_local hk hl F.ns hv h) hd
end
end Mine
namespace PySem.W
open PySem PySem.Calls PyProof.Rows
end PySem.W
end
theorem Mine.calmCLong0 : True := by w_top off; first | walk1 | trivial
section
open PySem PySem.W PyProof.Rows PySem.Calls PySem.Spec
set_option maxRecDepth 100000
namespace Mine
noncomputable def loStmt : Stmt := sAt PP.main.body 20
noncomputable def loFor : Stmt := sAt (fdBody loStmt) 1
noncomputable abbrev loName : Str := Str.ofString "_law_longest"
noncomputable abbrev loEnv (L : Addr) : Env := envOf loName (fdScope loStmt) L 180 (.ref 179)
noncomputable def sumsL : Int → List Int → List Int
  | _, [] => []
  | t, x :: r => (t + x) :: sumsL (t + x) r
noncomputable abbrev loMap (wa sl : Addr) (total : Int) (t1 : Tok) (v1 : Option Value) : Str → Option Value := fun y =>
  if y = Str.ofString "wait" then v1 else if y = Str.ofString "total" then some (.int total t1) else if y = Str.ofString "sums" then some (.ref sl) else if y = Str.ofString "waits" then some (.ref wa) else none
structure LoInv (wa sl : Addr) (news0 : List (Addr × Obj)) (fin : List Int) (srt : List Int) (i : Nat) (m : Str → Option Value) (news : List (Addr × Obj)) : Prop where
  out : ∃ (total : Int) (t1 : Tok) (v1 : Option Value) (sv : List Value) (ss : List Int) (n1 : Nat),
    news = (sl, W.listOf sv.toArray n1) :: news0 ∧ (∀ y, m y = loMap wa sl total t1 v1 y) ∧ IntsAre sv ss ∧ sv.length = i ∧ ss ++ sumsL total (srt.drop i) = fin
theorem ints_app {a b : List Value} {x y : List Int} (h : IntsAre a x) (k : IntsAre b y) : IntsAre (a ++ b) (x ++ y) := by
  induction h with
  | nil => exact k
  | cons n t _ ih => exact .cons n t ih
theorem loEnd_mk {wa sl I : Addr} {news0 : List (Addr × Obj)} {fin srt : List Int} {i n1 : Nat} {g : Heap} {L : Addr} {o' : Obj} {os : OsState} {s₃ : Shared} {m : Str → Option Value} {sv : List Value} {ss : List Int} {total wait : Int} {tt : Tok} (v1 : Option Value)
    (ho : ∃ t1, m (Str.ofString "total") = some (.int (total + wait) t1))
    (hm : ∀ t1 y, m (Str.ofString "total") = some (.int (total + wait) t1) → m y = loMap wa sl (total + wait) t1 v1 y)
    (F : Fr g L s₃.heap m) (N : News g L s₃.heap ((I, o') :: (sl, W.listOf (sv.toArray.push (.int (total + wait) tt)) n1) :: news0))
    (hI : IntsAre sv ss) (hv : sv.length = i) (hIs : sl ≠ I) (hIn : ∀ p ∈ news0, p.1 ≠ I) (hd : srt.drop i = wait :: srt.drop (i + 1))
    (hf : ss ++ sumsL total (srt.drop i) = fin) (hb : AllBare s₃.gens) (hos : s₃.os = os) :
    EndAt (fun m news => LoInv wa sl news0 fin srt (i + 1) m news ∧ ∀ p ∈ news, p.1 ≠ I) g L I o' os s₃ := by
  obtain ⟨t1, e1⟩ := ho
  rw [show sv.toArray.push (Value.int (total + wait) tt) = (sv ++ [Value.int (total + wait) tt]).toArray by simp] at N
  refine ⟨_, _, ⟨⟨total + wait, t1, v1, sv ++ [.int (total + wait) tt], ss ++ [total + wait], n1, rfl, fun y => hm t1 y e1, ints_app hI (.cons _ _ .nil), by simp [hv], ?_⟩, ?_⟩, F, N, hb, hos⟩
  · rw [← hf, hd, sumsL]; simp
  · exact List.forall_mem_cons.mpr ⟨hIs, hIn⟩
set_option maxHeartbeats 8000000 in
theorem loTurn (w : World) (wa sl I : Addr) (news0 : List (Addr × Obj)) (fin srt : List Int) (h8 : srt.length ≤ 8)
    (loose : List Str) (mean : ExcName → Option Value) (mg mb : Str → Option Value) (dp un : Nat) (gd : Option (List Code)) (cn : Str) (cs0 : Scope) (Lc a : Addr) (ccd : Value) (cls : List (Str × Addr)) (outer : List Env) (base g : Heap) (L : Addr) (R : Result → Shared → Prop)
    (B : Below (ktrTop dp un gd cn cs0 Lc a ccd cls outer) base (envX cn cs0 Lc a ccd cls :: outer) g) (X : (KK w).In g) (T : Top VV loose mean mg mb g) (hd : dp + 30 < recursionLimit) (hu : un + 300 < cLine) (os : OsState)
    (hn0 : ∀ p ∈ news0, p.1 ≠ sl) (hlI : @LT.lt Nat _ sl I)
    (i : Nat) (wait : Int) (tc : Tok) (o' : Obj) (m : Str → Option Value) (news : List (Addr × Obj)) (s : Shared) (hi : srt[i]? = some wait) (hj : LoInv wa sl news0 fin srt i m news) (hIn : ∀ p ∈ news, p.1 ≠ I) (F : Fr g L s.heap m) (N : News g L s.heap ((I, o') :: news)) (hb : AllBare s.gens) (hos : s.os = os)
    (E E2 : Value → Shared → Prop) :
      wpAny (model PP w) ((ktrTop dp un gd cn cs0 Lc a ccd cls outer).deeper (loEnv L)) (assign (forTarget loFor) (loEnv L) (.int wait tc)) (fun _ s₂ => wpAny (model PP w) ((ktrTop dp un gd cn cs0 Lc a ccd cls outer).deeper (loEnv L)) (execs (forBody loFor) (loEnv L)) (fun f s₃ => match f with
          | .next | .cont => EndAt (fun m news => LoInv wa sl news0 fin srt (i + 1) m news ∧ ∀ p ∈ news, p.1 ≠ I) g L I o' os s₃
          | .brk => R (.ok .next) s₃
          | .ret v => R (.ok (.ret v)) s₃) E s₂) E2 s := by
  have l9 : Mine.Lead9 := trivial
  have l0 : Mine.Lead0 := trivial
  revert h8 B X T hd hu hn0 hlI hi hj hIn F N hb hos
  revert w wa sl I news0 fin srt loose mean mg mb dp un gd cn cs0 Lc a ccd cls outer base g L R os i wait tc o' m news s E E2
  intro w wa sl I news0 fin srt loose mean mg mb dp un gd cn cs0 Lc a ccd cls outer base g L R os i wait tc o' m news s E E2
  intros h8 B X T hd hu hn0 hlI hi hj hIn F N hb hos
  rename Mine.Lead0 => l0; clear l0
  dsimp only [PP, KK] at *
  revert X; k_fill; intro X
  obtain ⟨total, t1, v1, sv, ss, n1, rfl, hm, hI, hv, hfin⟩ := hj
  have F0 := fr_cast F hm
  clear F hm
  have hlt := (List.getElem?_eq_some_iff.mp hi).1
  have hdrop : srt.drop i = wait :: srt.drop (i + 1) := by
    obtain ⟨h1, h2⟩ := List.getElem?_eq_some_iff.mp hi
    rw [List.drop_eq_getElem_cons h1, h2]
  dsimp only [loEnv] at *
  generalize hb1 : forBody loFor = body
  generalize hb2 : forTarget loFor = target
  generalize hb3 : fdScope loStmt = scope
  conv at hb1 => { lhs; whnf }
  conv at hb2 => { lhs; whnf }
  conv at hb3 => { lhs; whnf }
  subst hb1 hb2 hb3
  obtain ⟨heap', gens', drawn', toks', os'⟩ := s
  have hrz : sv.toArray.size < 1000 := by rw [List.size_toArray]; omega
  k_steps
  (with_reducible rename News _ _ _ _ => N9)
  (with_reducible rename Fr _ _ _ _ => F9)
  refine loEnd_mk (ss := ss) (sv := sv) (some (.int wait tc)) ⟨_, rfl⟩ ?_ F9 N9 hI hv (neN (Nat.ne_of_lt hlI)) (List.forall_mem_cons.mp hIn).2 hdrop hfin hb hos
  intro t1 y e1
  by_cases h1 : y = Str.ofString "wait"; (focus (subst h1; rfl)); by_cases h2 : y = Str.ofString "total"; (focus (subst h2; exact e1)); by_cases h3 : y = Str.ofString "sums"; (focus (subst h3; rfl)); by_cases h4 : y = Str.ofString "waits"; (focus (subst h4; rfl))
  simp only [loMap, if_neg h1, if_neg h2, if_neg h3, if_neg h4]
end Mine
end
section
open PySem PySem.W PyProof.Rows PySem.Calls PySem.Spec
set_option maxRecDepth 100000
namespace Mine
section
variable {prog : Program} {w : World} {A : Around} {R : GenEnd} {Y : Protocol} {n : Nat} {s₀ : Shared} {c : Code} {fs : List Frame} {s : Shared} {env : Env}
  {K : Flow → Sem Fin} {H : Value → Sem Fin} {gd : Bool → Bool} {lv : List Value → List Value}
theorem seg_If {test : PySem.Expr} {body orelse : List Stmt} {pos : Pos}
    (h : wpAny (model prog w) (A.over c fs) (isTrue test env (eval test env)) (fun b s' => if b = true then Seg (model prog w) A R Y n s₀ c ((execs body env).wrap K H gd lv) fs s' else Seg (model prog w) A R Y n s₀ c ((execs orelse env).wrap K H gd lv) fs s') (fun x s' => Seg (model prog w) A R Y n s₀ c (H x) fs s') s) :
    Seg (model prog w) A R Y n s₀ c ((exec (.If test body orelse pos) env).wrap K H gd lv) fs s := by
  rw [exec_If]
  refine seg_bind_wrap (wpAny_standAt ?_)
  refine seg_bind_wrap (wpAny_mono h (fun b s' hb => ?_) fun _ _ x => x)
  cases b <;> exact hb
theorem seg_exec {st : Stmt}
    (h : wpAny (model prog w) (A.over c fs) (exec st env) (fun f s' => Seg (model prog w) A R Y n s₀ c (K f) fs s') (fun x s' => Seg (model prog w) A R Y n s₀ c (H x) fs s') s) :
    Seg (model prog w) A R Y n s₀ c ((exec st env).wrap K H gd lv) fs s := seg_wrap h
theorem seg_For {target iter : PySem.Expr} {body orelse : List Stmt} {pos : Pos}
    (h : wpAny (model prog w) (A.over c fs) (eval iter env) (fun x s₁ => wpAny (model prog w) (A.over c fs) (pyIter x) (fun it s₂ => ∀ p,
      Seg (model prog w) A R Y n s₀ (.forLoop target it body orelse env) ((model prog w).den (.forLoop target it body orelse env))
      (.ret (fun r => ((match r with | .ok f => (.pure f : Sem Flow) | .error e => .raise e).onRaise fun (x : Value) => do
        if (← field x 1) == Value.none then unsupported "frame.own-activation:exception-without-traceback"
        setFlight x env.frame).wrap K H gd lv) none (gd false) (lv []) c p [] :: fs) s₂) (fun x s' => Seg (model prog w) A R Y n s₀ c (H x) fs s') s₁) (fun x s' => Seg (model prog w) A R Y n s₀ c (H x) fs s') s)
    (hs : ∀ x, foldedSetIterable iter env x = pure x := by intro _; rfl) :
    Seg (model prog w) A R Y n s₀ c ((exec (.For target iter body orelse pos) env).wrap K H gd lv) fs s := by
  rw [exec_For]
  refine seg_bind_wrap (wpAny_standAt ?_)
  refine seg_bind_wrap (wpAny_mono h (fun x s₁ h₁ => ?_) fun _ _ x => x)
  refine seg_bind_wrap (wpAny_of_eq (hs x) ?_)
  refine seg_bind_wrap (wpAny_standAt ?_)
  refine seg_bind_wrap (wpAny_holding (wpAny_mono h₁ (fun it s₂ h₂ => ?_) fun _ _ x => x))
  exact seg_call h₂
end
section
variable {prog : Program} {w : World} {A : Around} {R : GenEnd} {Y : Protocol} {n : Nat} {s₀ : Shared} {fs : List Frame} {s : Shared} {env : Env}
noncomputable def loopH (env : Env) : Value → Sem Fin := fun e => (do noteFrame e env; theTreesLotGoes e : Sem Unit).wrap (fun _ => .raise e) .raise id id
noncomputable def loopK (target : PySem.Expr) (it : Value) (body orelse : List Stmt) (env : Env) : Flow → Sem Fin := fun f => match f with
  | .next | .cont => .pure (.again (.forLoop target it body orelse env))
  | .brk => .pure (.done .next)
  | .ret v => .pure (.done (.ret v))
theorem seg_forLoop {target : PySem.Expr} {it : Value} {body orelse : List Stmt}
    (h : wpAny (model prog w) (A.over (.forLoop target it body orelse env) fs) (pyNext it) (fun r s₁ => match r with
      | none => Seg (model prog w) A R Y n s₀ (.block orelse env) ((model prog w).den (.block orelse env)) fs s₁
      | some v => wpAny (model prog w) (A.over (.forLoop target it body orelse env) fs) (letOwnedTupleGo target it v) (fun _ s₂ => wpAny (model prog w) (A.over (.forLoop target it body orelse env) fs) (assign target env v) (fun _ s₃ =>
          Seg (model prog w) A R Y n s₀ (.forLoop target it body orelse env) ((execs body env).wrap (loopK target it body orelse env) (loopH env) id id) fs s₃)
          (fun x s' => Seg (model prog w) A R Y n s₀ (.forLoop target it body orelse env) (loopH env x) fs s') s₂)
          (fun x s' => Seg (model prog w) A R Y n s₀ (.forLoop target it body orelse env) (loopH env x) fs s') s₁)
      (fun x s' => Seg (model prog w) A R Y n s₀ (.forLoop target it body orelse env) (loopH env x) fs s') s) :
    Seg (model prog w) A R Y n s₀ (.forLoop target it body orelse env) ((model prog w).den (.forLoop target it body orelse env)) fs s := by
  show Seg _ A R Y n s₀ _ ((forTurn target it body orelse env).onRaise (fun x => do noteFrame x env; theTreesLotGoes x)) fs s
  unfold forTurn
  rw [Sem.onRaise_eq_wrap]
  refine seg_bind_wrap (wpAny_standAt ?_)
  have e : ∀ x, ((do noteFrame x env; theTreesLotGoes x : Sem Unit).bind fun _ => (.raise x : Sem Fin)) = loopH env x := fun x => by rw [Sem.bind_eq_wrap]; rfl
  refine seg_bind_wrap (wpAny_onRaise (wpAny_mono h (fun r s₁ h₁ => ?_) fun x s' hx => wpAny_standAt (by first | exact hx | (rw [e]; exact hx) | (simp only [e]; exact hx))))
  cases r with
  | none => exact seg_again rfl h₁
  | some v =>
    refine seg_bind_wrap (wpAny_mono h₁ (fun _ s₂ h₂ => ?_) fun x s' hx => by first | exact hx | (rw [e]; exact hx) | (simp only [e]; exact hx))
    refine seg_bind_wrap (wpAny_mono h₂ (fun _ s₃ h₃ => ?_) fun x s' hx => by first | exact hx | (rw [e]; exact hx) | (simp only [e]; exact hx))
    rw [Sem.bind_eq_wrap', Sem.wrap_wrap]
    rw [Sem.wrap_congr (execs body env) _ _ (K' := loopK target it body orelse env) (H' := loopH env) (fun f => by cases f <;> rfl) (fun x => by first | exact e x | rfl | (show ((do noteFrame x env; theTreesLotGoes x : Sem Unit).bind fun _ => (.raise x : Sem Fin)) = _; exact e x))]
    exact h₃
theorem seg_block_nil
    (h : Seg (model prog w) A R Y n s₀ (.block [] env) (leafOf (.ok .next)) fs s) : Seg (model prog w) A R Y n s₀ (.block [] env) ((model prog w).den (.block [] env)) fs s := by
  exact h
end
section
variable {prog : Program} {w : World} {A : Around} {E : Value → Shared → Prop} {s : Shared}
theorem next_genQ {a : Addr} {g n : Nat} {gs : GenState} {P : Nat → Shared → Shared → Prop} {Y : Protocol} {Q : Option Value → Shared → Prop} (hh : A.handled = none)
    (hl : s.heap.NoLimit) (hroom : A.depth < recursionLimit) (hg : s.heap.IsGen a g) (hgs : s.gens[g]? = some gs)
    (hgo : gs.Goes (model prog w) A.in1 (fun n s₀ r s₁ => r = .ok (.ret .none) ∧ P n s₀ s₁) Y n (.send .none) (s.setGen g .running))
    (hY : ∀ v s₁ gs', gs'.bare = true → Y (n - 1) (s.setGen g .running) v s₁ (fun r' s'' => match n with
        | 0 => False
        | m + 1 => gs'.Goes (model prog w) A.in1 (fun n s₀ r s₁ => r = .ok (.ret .none) ∧ P n s₀ s₁) Y m r' s'') → Q (some v) (s₁.setGen g gs'))
    (hP : ∀ s₁, P n (s.setGen g .running) s₁ → ∀ h', (∀ b o, s₁.heap.get? b = some o → h'.get? b = some o) → Q none { s₁.setGen g .finished with heap := h' }) :
    wpAny (model prog w) A (pyNext (.ref a)) Q E s := by
  unfold pyNext
  refine wpAny_bind (wpAny_attempt (wpAny_callSpecial?_slot (name := Str.ofString "__next__") hg.typeIs slot_gen_next (wpAny_call_entry slot_gen_next hg.typeIs entry_gen_next ?_ (args_gen_next _))))
  show wpAny _ A.in1 (Builtin.Generator.genWake (.ref a) (.send .none)) _ _ s
  unfold Builtin.Generator.genWake
  refine wpAny_bind (wpAny_holding (wpAny_genNumber hg (wpAny_bind (wpAny_genState hgs ?_))))
  have stop : ∀ s₁, P n (s.setGen g .running) s₁ → ∀ (Q' E' : Value → Shared → Prop), (∀ e, ∀ h', (∀ b o, s₁.heap.get? b = some o → h'.get? b = some o) → (∃ o, h'.get? e = some o ∧ o.cls = .type "StopIteration") → Q' (.ref e) { s₁.setGen g .finished with heap := h' }) →
      wpAny (model prog w) A.in1 (newExc (.type "StopIteration") []) Q' E' (s₁.setGen g .finished) := by
    intro s₁ hp Q' E' hq
    simp only [newExc, newTuple]
    refine wpAny_bind (wpAny_newObj_type ?_ (by size_fits))
    refine wpAny_bind (m := firstArgMember _ _) (wpAny_of_eq (a := Value.none) (by first | rfl | (simp only [firstArgMember]; rfl)) ?_)
    refine wpAny_newObj_type ?_ (by size_fits)
    exact hq _ _ (fun b o hb => Heap.get?_push_of_some _ (Heap.get?_push_of_some _ hb)) ⟨_, Heap.get?_push_size _ rfl, rfl⟩
  cases gs with
  | running => exact hgo.elim
  | finished => exact hgo.elim
  | _ =>
    refine wpAny_bind (wpAny_roomToWake hl hroom ?_)
    show wpAny _ A.in1 (.resume g (.send .none) [] _) _ _ s
    refine wpAny_resumeQ hgs hgo (fun x s₁ hx => ?_) (fun v s₁ gs' hb hv => wpAny_pure ⟨v, rfl, wpAny_pure (hY v s₁ gs' hb hv)⟩)
    obtain ⟨rfl, hp⟩ := hx
    show wpAny _ A.in1 (newExc (.type "StopIteration") [] >>= _) _ _ _
    refine wpAny_bind (stop s₁ hp _ _ fun e h' hk ⟨o, ho, hc⟩ => ?_)
    simp only [raiseNew]
    refine wpAny_bind (wpAny_bind (wpAny_handled ?_))
    first | rw [show A.in1.handled = none from hh] | rw [hh]
    refine wpAny_throw ?_
    refine wpAny_bind (wpAny_isInstance (T := "StopIteration") (b := true) ⟨o, ho, hc⟩ isSubtype_stop ?_)
    exact wpAny_pure (hP s₁ hp _ hk)
end
end Mine
end
theorem Mine.calmGenLoop : True := by w_top off; first | walk1 | trivial
section
open PySem PySem.W PyProof.Rows PySem.Calls PySem.Spec
set_option maxRecDepth 100000
namespace Mine
def m9e26 : Lean.MacroM (Lean.TSyntax `tactic) := Mine.t9kw "PySem.W.tacticKmk_size kmk_size"
def m9e27 : Lean.MacroM (Lean.TSyntax `tactic) := Mine.t9kw "PySem.W.tacticK_lt_ k_lt ~l1"
def m9e28 : Lean.MacroM (Lean.TSyntax `tactic) := Mine.t9kw "PySem.W.tacticK_sweep k_sweep"
def m9k11 : Lean.MacroM (Lean.TSyntax `tactic) := Mine.t9seq [Mine.t9dflt (Mine.t9seq [Mine.t9ref "kup_newTuple" "F N _ z", Mine.t9case "F" (Mine.m9e13), Mine.t9case "N" (Mine.m9e13), Mine.t9case "z" (Mine.m9e26)]), Mine.t9intro "D' h' F' N' l1", Mine.t9try (Mine.m9e27), Mine.t9try (Mine.m9e28)]
local macro_rules | `(tactic| walk_at $s) => Mine.mw s [("newTuple", Mine.m9k11)]
noncomputable def itStmt : Stmt := sAt PP.main.body 3
noncomputable def itFor : Stmt := sAt (fdBody itStmt) 2
noncomputable def itIf : Stmt := sAt (fdBody itStmt) 3
noncomputable abbrev itName : Str := Str.ofString "_iter_escaped_chars"
noncomputable abbrev itEnv (L : Addr) : Env := envOf itName (fdScope itStmt) L 63 (.ref 62)
noncomputable def yldL : Nat → Bool → List Nat → List (Nat × Str)
  | _, false, [] => []
  | i, true, [] => [(i - 1, Str.ofString "\\")]
  | i, true, c :: r => (i, Str.ofString "\\" ++ ⟨#[c]⟩) :: yldL (i + 1) false r
  | i, false, c :: r => if c = 92 then yldL (i + 1) true r else (i, ⟨#[c]⟩) :: yldL (i + 1) false r
noncomputable def h00 : Heap := {}
noncomputable def allOf (h : Heap) (L : Addr) : List (Addr × Obj) := (List.range h.objs.size).filterMap fun a => if a = L then none else (h.get? a).map fun o => (a, o)
theorem mem_allOf {h : Heap} {L a : Addr} {o : Obj} (e : h.get? a = some o) (n : a ≠ L) : (a, o) ∈ allOf h L := by
  refine List.mem_filterMap.mpr ⟨a, List.mem_range.mpr (Heap.lt_size e), ?_⟩
  rw [if_neg n, e]; rfl
theorem of_allOf {h : Heap} {L : Addr} {p : Addr × Obj} (e : p ∈ allOf h L) : h.get? p.1 = some p.2 ∧ p.1 ≠ L := by
  obtain ⟨a, _, ha⟩ := List.mem_filterMap.mp e
  by_cases n : a = L
  · rw [if_pos n] at ha; cases ha
  · rw [if_neg n] at ha
    cases hg : h.get? a with
    | none => rw [hg] at ha; cases ha
    | some o => rw [hg] at ha; cases ha; exact ⟨hg, n⟩
theorem h00_none (b : Addr) : h00.get? b = none := by rfl
theorem news00 (h : Heap) (L : Addr) : News h00 L h (allOf h L) := fun _ hp => ⟨(of_allOf hp).1, (of_allOf hp).2, h00_none _⟩
theorem fr00 {h : Heap} {L : Addr} {m : Str → Option Value} (n : h.Ns L m) : Fr h00 L h m := ⟨n, fun _ _ e => (by rw [h00_none] at e; cases e), Nat.zero_le _⟩
theorem keep00 {h h' : Heap} {L : Addr} {news : List (Addr × Obj)} (N : News h00 L h' news) (hs : ∀ p ∈ allOf h L, p ∈ news) : ∀ b o, b ≠ L → h.get? b = some o → h'.get? b = some o :=
  fun _ _ n e => (N _ (hs _ (mem_allOf e n))).1
noncomputable def yS (all : List (Nat × Str)) (Lg E I : Addr) : Protocol := fun m s₀ v s kap =>
  (∃ (pos : Nat) (txt : Str) (T : Addr) (t1 t2 : Tok) (c : Nat), all[all.length - 1 - m]? = some (pos, txt) ∧ v = .ref T ∧ s.heap.get? T = some { cls := .type "tuple", data := .seq #[.int pos t1, .str txt t2] c } ∧ ∀ b o, b ∉ [E, I] → s₀.heap.get? b = some o → b ≠ T) ∧
    GenSince Lg [E, I] s₀ s ∧ ∀ s'' : Shared, (∀ b ∈ [Lg, E, I], ∀ o, s.heap.get? b = some o → s''.heap.get? b = some o) → kap (.send .none) s''
noncomputable def rS (Lg E I : Addr) : GenEnd := fun n s₀ r s₁ => r = .ok (.ret .none) ∧ (n = 0 ∧ GenSince Lg [E, I] s₀ s₁)
noncomputable def YEnd (Y : Protocol) (n : Nat) (s₀ : Shared) (N : Value → Shared → Prop) (v : Value) (s' : Shared) : Prop := ∀ kap : Resume → Shared → Prop, (∀ x s'', N x s'' → kap (.send x) s'') → Y n s₀ v s' kap
section
variable {prog : Program} {w : World} {A : Around} {R : GenEnd} {Y : Protocol} {n : Nat} {s₀ : Shared} {c : Code} {fs : List Frame} {s : Shared} {env : Env}
  {K : Flow → Sem Fin} {H : Value → Sem Fin} {gd : Bool → Bool} {lv : List Value → List Value}
theorem seg_yieldE {e : PySem.Expr} {ypos pos : Pos} (h : wpAny (model prog w) (A.over c fs) (eval e env) (YEnd Y n s₀ fun x s'' => match x with | .ref _ => False | _ => Seg (model prog w) A R Y n s'' c (K .next) fs s'')
      (fun x s' => Seg (model prog w) A R Y (n + 1) s₀ c (H x) fs s') s) (hfs : splitAtGen fs = none) (hgd : gd false = false) (hfg : fs.any Frame.guarded = false)
    (hco : env.scope.isCoroutine = false := by rfl) (hi : interactive env = false := by rfl) :
    Seg (model prog w) A R Y (n + 1) s₀ c ((exec (.Expr (.Yield (some e) ypos) pos) env).wrap K H gd lv) fs s :=
  seg_Expr_Yield hfs hgd hfg h hco hi
end
structure GenK (m : Str → Option Value) (i : Nat) (esc : Bool) : Prop where
  e : m (Str.ofString "escape") = some (.bool esc)
  p : esc = true → ∃ t, m (Str.ofString "pos") = some (.int ((i : Int) - 1) t)
noncomputable abbrev EnW (w : World) (E I : Addr) (cps : List Nat) (St : Nat → Heap → Prop) (Mid : Nat → Addr → Heap → Prop) : Prop :=
  ∀ A' : Around, A'.handled = none → WalksT PP w A' E [E, I] [E, I] cps.length (fun i vals => ∃ t x, (∃ c u, cps[i]? = some c ∧ x = Value.str ⟨#[c]⟩ u) ∧ vals = #[.int i t, x]) St Mid
theorem yield_end {all : List (Nat × Str)} {Lg E I T2 : Addr} {n' pos c tk : Nat} {txt : Str} {t1 t2 : Tok} {s₀ s : Shared} {h' : Heap} {kap : Resume → Shared → Prop} (hs : GenSince Lg [E, I] s₀ s) (hk : ∀ b o, b ≠ Lg → s.heap.get? b = some o → h'.get? b = some o)
    (hT : h'.get? T2 = some { cls := .type "tuple", data := .seq #[.int pos t1, .str txt t2] c }) (hf : s.heap.get? T2 = none) (hTL : T2 ≠ Lg) (ha : all[all.length - 1 - n']? = some (pos, txt))
    (hkap : ∀ s'' : Shared, (∀ b ∈ [Lg, E, I], ∀ o, h'.get? b = some o → s''.heap.get? b = some o) → kap (.send .none) s'') : yS all Lg E I n' s₀ (.ref T2) { s with heap := h', toks := tk } kap := by
  refine ⟨⟨pos, txt, T2, t1, t2, c, ha, rfl, hT, fun b o hb e q => ?_⟩, hs.step fun b o hb _ e => hk b o hb e, hkap⟩
  subst q
  obtain ⟨h1, tk1, rfl, hk1⟩ := hs
  dsimp only at hf
  rw [hk1 _ _ hTL hb e] at hf
  cases hf
theorem allLt_all {x : Addr} {l : List (Addr × Obj)} (h : AllLt x l) : ∀ p ∈ l, p.1 < x := by
  induction l with
  | nil => intro p hp; cases hp
  | cons a r ih => intro p hp; cases hp with
    | head => exact h.1
    | tail _ hp => exact ih h.2 p hp
theorem fresh00 {h h' : Heap} {L T2 : Addr} {news : List (Addr × Obj)} {o : Obj} (N : News h00 L h' ((T2, o) :: news)) (hs : ∀ p ∈ allOf h L, p.1 < T2) : h.get? T2 = none := by
  cases hq : h.get? T2 with
  | none => rfl
  | some o' => exact absurd (hs _ (mem_allOf hq (N _ (.head _)).2.1)) (Nat.lt_irrefl _)
set_option maxHeartbeats 8000000 in
theorem genTurn (w : World) (dp un : Nat) (gd : Option (List Code)) (outer : List Env) (Lg E I T : Addr) (i c : Nat) (esc : Bool) (t u : Tok) (all : List (Nat × Str)) (s₀ s : Shared) (m : Str → Option Value) (A : Around) (R : GenEnd) (n : Nat) (cd : Code) (fs : List Frame)
    (H : Value → Sem Fin) (K : Flow → Sem Fin) (EE : Value → Shared → Prop) (hA : A.over cd fs = ktrTop (dp + 1) (un + 4) gd itName (fdScope itStmt) Lg 63 (.ref 62) [] outer) (hfs : splitAtGen fs = none) (hfg : fs.any Frame.guarded = false)
    (hT : s.heap.IsTuple T #[.int i t, .str ⟨#[c]⟩ u]) (hTL : T ≠ Lg) (hn : s.heap.Ns Lg m) (hk : GenK m i esc)
    (hs : GenSince Lg [E, I] s₀ s) (n' : Nat) (hEL : E ≠ Lg) (hIL : I ≠ Lg) (hl0 : (all.length : Int) < 1000) (hi9 : i < 1000)
    (hcase : (esc = false ∧ c = 92 ∧ n' = n) ∨ ((esc = true ∨ c ≠ 92) ∧ n = n' + 1 ∧ all[all.length - 1 - n']? = some (i, if esc = true then Str.ofString "\\" ++ ⟨#[c]⟩ else ⟨#[c]⟩)))
    (hnext : ∀ (s₁ s' : Shared) (m' : Str → Option Value), GenSince Lg [E, I] s₁ s' → (∀ b ∈ [E, I], ∀ o, s.heap.get? b = some o → s'.heap.get? b = some o) → s'.heap.Ns Lg m' → GenK m' (i + 1) (!esc && c == 92) →
      Seg (model PP w) A R (yS all Lg E I) n' s₁ cd (K .next) fs s') :
    wpAny (model PP w) (A.over cd fs) (assign (forTarget itFor) (itEnv Lg) (.ref T)) (fun _ s₃ => Seg (model PP w) A R (yS all Lg E I) n s₀ cd ((execs (forBody itFor) (itEnv Lg)).wrap K H id id) fs s₃) EE s := by
  obtain ⟨oT, hT1, hT2, cT, hT3⟩ := hT
  obtain ⟨cls, dat, slt, dct⟩ := oT
  dsimp only at hT2 hT3
  subst hT2 hT3
  obtain ⟨hke, hkp⟩ := hk
  have F0 := fr_cast (m' := fun y => if y = Str.ofString "escape" then some (.bool esc) else m y) (fr00 hn) (fun y => by
    by_cases h : y = Str.ofString "escape"
    · rw [if_pos h, h, hke]
    · rw [if_neg h])
  have N0 : News h00 Lg s.heap ((T, _) :: allOf s.heap Lg) := fun p hp => (List.mem_cons.mp hp).elim (fun e => e ▸ ⟨hT1, hTL, h00_none _⟩) (news00 s.heap Lg p)
  rw [hA]
  dsimp only [itEnv] at *
  generalize hb1 : forBody itFor = body
  generalize hb2 : forTarget itFor = target
  generalize hb3 : fdScope itStmt = scope at *
  conv at hb1 => { lhs; whnf }
  conv at hb2 => { lhs; whnf }
  conv at hb3 => { lhs; whnf }
  subst hb1 hb2 hb3
  obtain ⟨heap', gens', drawn', toks', os'⟩ := s
  dsimp only at F0 N0
  have hlen0 : ∀ p ∈ allOf heap' Lg, p ∈ allOf heap' Lg := fun _ h => h
  generalize hal : allOf heap' Lg = rest at *
  k_steps
  cases esc with
  | true =>
    obtain ⟨tp, hkp⟩ := hkp rfl
    clear hkp
    refine seg_execs_cons (seg_If ?_)
    rw [hA]
    k_steps
    rcases hcase with ⟨h, -⟩ | ⟨-, rfl, hall⟩
    · cases h
    refine seg_execs_cons ?_
    refine seg_yieldE ?_ hfs rfl hfg
    rw [hA]
    k_steps
    (with_reducible rename News _ _ _ _ => N9)
    (with_reducible rename Fr _ _ _ _ => F9)
    (with_reducible rename _ ∧ _ => l9)
    intro kap hkap
    have hk9 := keep00 N9 (h := heap') (by rw [hal]; exact fun p hp => .tail _ (.tail _ hp))
    refine yield_end (s := ⟨heap', gens', drawn', toks', os'⟩) hs hk9 (N9 _ (.head _)).1 (fresh00 N9 (by rw [hal]; exact allLt_all l9.2)) (N9 _ (.head _)).2.1 hall ?_
    intro s'' hal2
    refine hkap _ _ ?_
    show Seg _ _ _ _ _ _ _ _ _ _
    refine seg_execs_cons (seg_exec ?_)
    rw [hA]
    have F10 := fr00 (F9.ns.at' fun o e => hal2 Lg (.head _) o e)
    have N10 := news00 s''.heap Lg
    clear F9 N9
    obtain ⟨heap2, gens2, drawn2, toks2, os2⟩ := s''
    dsimp only at F10 N10 hal2
    generalize hal3 : allOf heap2 Lg = rest2 at *
    k_steps
    (with_reducible rename News _ _ _ _ => N11)
    (with_reducible rename Fr _ _ _ _ => F11)
    have hk11 := keep00 N11 (h := heap2) (by rw [hal3]; exact fun _ hp => hp)
    show Seg _ _ _ _ _ _ _ (K .next) _ _
    refine hnext ⟨heap2, gens2, drawn2, toks2, os2⟩ _ _ ((GenSince.refl _ _ _).step fun b o hb _ e => hk11 b o hb e) ?_ F11.ns ⟨rfl, fun h => nomatch h⟩
    intro b hb o e
    have hbL : b ≠ Lg := by
      rcases List.mem_cons.mp hb with rfl | hb
      · exact hEL
      · rw [List.mem_singleton.mp hb]; exact hIL
    exact hk11 b o hbL (hal2 b (.tail _ hb) o (hk9 b o hbL e))
  | false =>
    clear hkp
    refine seg_execs_cons (seg_If ?_)
    rw [hA]
    k_steps
    refine seg_execs_cons (seg_If ?_)
    rw [hA]
    k_steps
    · (with_reducible rename (_ == _) = true => hc9)
      have hc := back_yes hc9
      clear hc9
      subst hc
      rcases hcase with ⟨-, -, rfl⟩ | ⟨h | h, -⟩
      · refine seg_execs_cons (seg_exec ?_)
        rw [hA]
        k_steps
        (with_reducible rename News _ _ _ _ => N11)
        (with_reducible rename Fr _ _ _ _ => F11)
        have hk11 := keep00 N11 (h := heap') (by rw [hal]; exact fun p hp => .tail _ hp)
        show Seg _ _ _ _ _ _ _ (K .next) _ _
        refine hnext s₀ _ _ (hs.step fun b o hb _ e => hk11 b o hb e) ?_ F11.ns ⟨rfl, fun _ => ⟨t, ?_⟩⟩
        · intro b hb o e
          have hbL : b ≠ Lg := by
            rcases List.mem_cons.mp hb with rfl | hb
            · exact hEL
            · rw [List.mem_singleton.mp hb]; exact hIL
          exact hk11 b o hbL e
        · show some (Value.int (i : Int) t) = some (Value.int (((i + 1 : Nat) : Int) - 1) t)
          rw [show ((i + 1 : Nat) : Int) - 1 = i by omega]
      · cases h
      · exact absurd rfl h
    · (with_reducible rename (_ == _) = false => hc9)
      have hc := back_no hc9
      rcases hcase with ⟨-, h, -⟩ | ⟨-, rfl, hall⟩
      · exact absurd h hc
      refine seg_execs_cons ?_
      refine seg_yieldE ?_ hfs rfl hfg
      rw [hA]
      k_steps
      (with_reducible rename News _ _ _ _ => N9)
      (with_reducible rename Fr _ _ _ _ => F9)
      (with_reducible rename _ ∧ _ => l9)
      intro kap hkap
      have hk9 := keep00 N9 (h := heap') (by rw [hal]; exact fun p hp => .tail _ (.tail _ hp))
      refine yield_end (s := ⟨heap', gens', drawn', toks', os'⟩) hs hk9 (N9 _ (.head _)).1 (fresh00 N9 (by rw [hal]; exact allLt_all l9.2)) (N9 _ (.head _)).2.1 hall ?_
      intro s'' hal2
      refine hkap _ _ ?_
      show Seg _ _ _ _ _ _ _ (K .next) _ _
      have e92 : (!false && c == 92) = false := by simp [hc]
      rw [e92] at hnext
      refine hnext s'' _ _ (GenSince.refl _ _ _) ?_ (F9.ns.at' fun o e => hal2 Lg (.head _) o e) ⟨rfl, fun h => nomatch h⟩
      intro b hb o e
      have hbL : b ≠ Lg := by
        rcases List.mem_cons.mp hb with rfl | hb
        · exact hEL
        · rw [List.mem_singleton.mp hb]; exact hIL
      exact hal2 b (.tail _ hb) o (hk9 b o hbL e)
theorem at_pre {α : Type} {all pre : List α} {x : α} {r : List α} (h : all = pre ++ x :: r) : all[all.length - 1 - r.length]? = some x := by
  subst h
  rw [List.length_append, List.length_cons, show pre.length + (r.length + 1) - 1 - r.length = pre.length by omega, List.getElem?_append_right (Nat.le_refl _), Nat.sub_self]
  rfl
theorem genLoop (w : World) (dp un : Nat) (gd : Option (List Code)) (cn : Str) (cs : Scope) (Lc a : Addr) (ccd : Value) (cl : List (Str × Addr)) (outer : List Env) (Lg E I : Addr) (cps : List Nat) (St : Nat → Heap → Prop) (Mid : Nat → Addr → Heap → Prop) (all : List (Nat × Str)) (R : GenEnd) (kk : Result → Sem Fin) (cf : Code) (pf : Pos)
    (W : EnW w E I cps St Mid) (hEL : E ≠ Lg) (hIL : I ≠ Lg) (hall : all.length < 1000) (hcps : cps.length < 1000)
    (hA : ((ktrTop dp un gd cn cs Lc a ccd cl outer).in1.over (.forLoop (forTarget itFor) (.ref E) (forBody itFor) [] (itEnv Lg)) [.ret kk none false [] cf pf []]) = ktrTop (dp + 1) (un + 4) gd itName (fdScope itStmt) Lg 63 (.ref 62) [] (envX cn cs Lc a ccd cl :: outer))
    (hend : ∀ (esc : Bool) (s₀ s : Shared) (m : Str → Option Value), s.heap.Ns Lg m → GenK m cps.length esc → GenSince Lg [E, I] s₀ s → (∃ pre, all = pre ++ yldL cps.length esc []) →
      Seg (model PP w) (ktrTop dp un gd cn cs Lc a ccd cl outer).in1 R (yS all Lg E I) (yldL cps.length esc []).length s₀ cf (kk (.ok .next)) [] s) :
    ∀ (k i : Nat) (esc : Bool) (s₀ s : Shared) (m : Str → Option Value), i + k = cps.length → St i s.heap → s.heap.Ns Lg m → GenK m i esc → GenSince Lg [E, I] s₀ s → (∃ pre, all = pre ++ yldL i esc (cps.drop i)) →
      Seg (model PP w) (ktrTop dp un gd cn cs Lc a ccd cl outer).in1 R (yS all Lg E I) (yldL i esc (cps.drop i)).length s₀ (.forLoop (forTarget itFor) (.ref E) (forBody itFor) [] (itEnv Lg)) ((model PP w).den (.forLoop (forTarget itFor) (.ref E) (forBody itFor) [] (itEnv Lg))) [.ret kk none false [] cf pf []] s := by
  have hhd : ((ktrTop dp un gd cn cs Lc a ccd cl outer).in1.over (.forLoop (forTarget itFor) (.ref E) (forBody itFor) [] (itEnv Lg)) [.ret kk none false [] cf pf []]).handled = none := by rw [hA]
  intro k
  induction k with
  | zero =>
    intro i esc s₀ s m hik hst hn hk hs hpre
    have hi : i = cps.length := by omega
    subst hi
    rw [List.drop_length] at *
    refine seg_forLoop ((W _ hhd).done s _ _ hst fun h' tk hk' => ?_)
    refine seg_block_nil (seg_leaf (.ok .next) ?_)
    have up : ∀ b o, b ∉ [E, I] → s.heap.get? b = some o → h'.get? b = some o := hk'
    refine hend esc s₀ _ m (hn.at' fun o e => up Lg o (by simp [Ne.symm hEL, Ne.symm hIL]) e) hk (hs.step fun b o _ hb e => up b o hb e) hpre
  | succ k ih =>
    intro i esc s₀ s m hik hst hn hk hs hpre
    have hlt : i < cps.length := by omega
    have hdrop : cps.drop i = cps[i] :: cps.drop (i + 1) := List.drop_eq_getElem_cons hlt
    refine seg_forLoop ((W _ hhd).item i s _ _ hlt hst fun T vals h1 tk1 hP hT0 hT hmid hk1 => ?_)
    obtain ⟨t, x, ⟨c, u, hc, rfl⟩, rfl⟩ := hP
    refine (W _ hhd).go _ _ _ i T _ _ _ hmid fun h2 hst2 hk2 => ?_
    have hap := (W _ hhd).apart _ _ _ hmid
    have hLn : Lg ∉ [E, I] := by simp [Ne.symm hEL, Ne.symm hIL]
    have hTL : T ≠ Lg := fun e => Nat.lt_irrefl _ (Nat.lt_of_lt_of_le (e ▸ hn.lt) hT0)
    obtain ⟨pre, hpre⟩ := hpre
    have hci : cps[i] = c := by rw [List.getElem?_eq_getElem hlt] at hc; exact Option.some.inj hc
    rw [hdrop, hci] at hpre ⊢
    have up : ∀ b o, b ∉ [E, I] → s.heap.get? b = some o → h2.get? b = some o := fun b o hb e => hk2 b o hb (hk1 b o hb e)
    have hT2 : h2.IsTuple T #[.int (i : Int) t, .str ⟨#[c]⟩ u] := by
      obtain ⟨o, ho, r⟩ := hT
      exact ⟨o, hk2 _ _ hap ho, r⟩
    refine genTurn w dp un gd (envX cn cs Lc a ccd cl :: outer) Lg E I T i c esc t u all s₀ _ m _ R _ _ _ _ _ _ hA rfl rfl hT2 hTL (hn.at' fun o e => up Lg o hLn e) hk (hs.step fun b o _ hb e => up b o hb e) (yldL (i + 1) (!esc && c == 92) (cps.drop (i + 1))).length hEL hIL (by omega) (by omega) ?_ ?_
    · cases esc with
      | true => exact .inr ⟨.inl rfl, rfl, by rw [if_pos rfl]; exact at_pre hpre⟩
      | false =>
        by_cases h92 : c = 92
        · subst h92
          exact .inl ⟨rfl, rfl, rfl⟩
        · have e9 : (!false && c == 92) = false := by simp [h92]
          rw [e9]
          simp only [yldL, if_neg h92] at hpre ⊢
          exact .inr ⟨.inr h92, rfl, by rw [if_neg Bool.false_ne_true]; exact at_pre hpre⟩
    · intro s₁ s' m' hs' hkp' hn' hk'
      refine seg_again rfl (ih (i + 1) _ s₁ s' m' (by omega) ((W _ hhd).frame _ _ _ hst2 fun b hb o e => hkp' b hb o e) hn' hk' hs' ?_)
      cases esc with
      | true => exact ⟨pre ++ [_], by rw [hpre, List.append_assoc]; rfl⟩
      | false =>
        by_cases h92 : c = 92
        · subst h92
          exact ⟨pre, by rw [hpre]; rfl⟩
        · have e9 : (!false && c == 92) = false := by simp [h92]
          rw [e9]
          simp only [yldL, if_neg h92] at hpre
          exact ⟨pre ++ [_], by rw [hpre, List.append_assoc]; rfl⟩
end Mine
end
theorem Mine.calmGenEnd : True := by w_top off; first | walk1 | trivial
section
open PySem PySem.W PyProof.Rows PySem.Calls PySem.Spec
set_option maxRecDepth 100000
namespace Mine
local macro_rules | `(tactic| walk_at $s) => Mine.mw s [("newTuple", Mine.m9k11)]
theorem seg_mono {M : Model} {A : Around} {R R' : GenEnd} {Y Y' : Protocol} (hR : ∀ n s₀ r s, R n s₀ r s → R' n s₀ r s)
    (hY : ∀ n s₀ v s (κ κ' : Resume → Shared → Prop), (∀ r s, κ r s → κ' r s) → Y n s₀ v s κ → Y' n s₀ v s κ') :
    ∀ {n : Nat} {s₀ : Shared} {c : Code} {t : Sem Fin} {fs : List Frame} {s : Shared}, Seg M A R Y n s₀ c t fs s → Seg M A R' Y' n s₀ c t fs s := by
  intro n
  induction n with
  | zero =>
    intro s₀ c t fs s h
    rw [seg_iff] at h ⊢
    intro Γ p hc hw
    obtain ⟨e, s', hr, he⟩ := h Γ p hc hw
    refine ⟨e, s', hr, ?_⟩
    cases e with
    | ret r => exact hR _ _ _ _ he
    | susp v g l k c p fs => exact ⟨he.1, hY _ _ _ _ _ _ (fun r s h => h) he.2⟩
  | succ n ih =>
    intro s₀ c t fs s h
    rw [seg_iff] at h ⊢
    intro Γ p hc hw
    obtain ⟨e, s', hr, he⟩ := h Γ p hc hw
    refine ⟨e, s', hr, ?_⟩
    cases e with
    | ret r => exact hR _ _ _ _ he
    | susp v g l k c p fs => exact ⟨he.1, hY _ _ _ _ _ _ (fun r s h => ih h) he.2⟩
noncomputable def genK : Flow → Sem Fin := fun f => .pure (.done (.ret (match f with | .ret v => v | _ => .none)))
set_option maxHeartbeats 8000000 in
theorem genEnd (w : World) (dp un : Nat) (gd : Option (List Code)) (outer : List Env) (Lg E I : Addr) (n : Nat) (esc : Bool) (all : List (Nat × Str)) (s₀ s : Shared) (m : Str → Option Value) (A : Around) (R : GenEnd) (cd : Code) (H : Value → Sem Fin)
    (hA : A.over cd [] = ktrTop (dp + 1) (un + 4) gd itName (fdScope itStmt) Lg 63 (.ref 62) [] outer) (hn : s.heap.Ns Lg m) (hk : GenK m n esc) (hs : GenSince Lg [E, I] s₀ s) (hall : all.length < 1000) (hn9 : n < 1000) (hn0 : esc = true → 1 ≤ n)
    (hpre : ∃ pre, all = pre ++ yldL n esc []) (hR : ∀ s₀ s, GenSince Lg [E, I] s₀ s → R 0 s₀ (.ok (.ret .none)) s) :
    Seg (model PP w) A R (yS all Lg E I) (yldL n esc []).length s₀ cd ((execs [itIf] (itEnv Lg)).wrap genK H id id) [] s := by
  have l9 : Mine.Lead9 := trivial
  have l0 : Mine.Lead0 := trivial
  revert R hA hn hk hs hall hn9 hn0 hpre hR
  revert w dp un gd outer Lg E I n esc all s₀ s m A cd H
  intro w dp un gd outer Lg E I n esc all s₀ s m A cd H
  intros R hA hn hk hs hall hn9 hn0 hpre hR
  rename Mine.Lead0 => l0; clear l0
  obtain ⟨hke, hkp⟩ := hk
  cases esc with
  | true =>
    obtain ⟨tp, hkp⟩ := hkp rfl
    obtain ⟨pre, hpre⟩ := hpre
    have hat := at_pre hpre
    dsimp only [yldL, List.length_cons, List.length_nil] at hat ⊢
    have hn0 := hn0 rfl
    rw [show (n : Int) - 1 = ((n - 1 : Nat) : Int) by omega] at hkp
    have F0 := fr_cast (m' := fun y => if y = Str.ofString "escape" then some (.bool true) else if y = Str.ofString "pos" then some (.int ((n - 1 : Nat) : Int) tp) else m y) (fr00 hn) (fun y => by
      by_cases h : y = Str.ofString "escape"
      · rw [if_pos h, h, hke]
      · rw [if_neg h]
        by_cases h2 : y = Str.ofString "pos"
        · rw [if_pos h2, h2, hkp]
        · rw [if_neg h2])
    have N0 := news00 s.heap Lg
    dsimp only [itEnv] at *
    generalize hb1 : itIf = body
    generalize hb3 : fdScope itStmt = scope at *
    conv at hb1 => { lhs; whnf }
    conv at hb3 => { lhs; whnf }
    subst hb1 hb3
    obtain ⟨heap', gens', drawn', toks', os'⟩ := s
    dsimp only at F0 N0
    generalize hal : allOf heap' Lg = rest at *
    have hn9' : ((n - 1 : Nat) : Int) < 1000 := by omega
    have hn8' : (0 : Int) ≤ ((n - 1 : Nat) : Int) := by omega
    clear hke hkp hpre
    refine seg_execs_cons (seg_If ?_)
    rw [hA]
    k_steps
    refine seg_execs_cons ?_
    refine seg_yieldE ?_ rfl rfl rfl
    rw [hA]
    k_steps
    (with_reducible rename News _ _ _ _ => N9)
    (with_reducible rename Fr _ _ _ _ => F9)
    intro kap hkap
    have hk9 := keep00 N9 (h := heap') (by rw [hal]; exact fun p hp => .tail _ hp)
    refine yield_end (s := ⟨heap', gens', drawn', toks', os'⟩) hs hk9 (N9 _ (.head _)).1 (fresh00 N9 (by rw [hal]; assumption)) (N9 _ (.head _)).2.1 hat ?_
    intro s'' hal2
    refine hkap _ _ ?_
    show Seg _ _ _ _ _ _ _ (leafOf (.ok (.ret .none))) _ _
    exact seg_end _ (hR _ _ (GenSince.refl _ _ _))
  | false =>
    dsimp only [yldL, List.length_nil]
    have F0 := fr_cast (m' := fun y => if y = Str.ofString "escape" then some (.bool false) else m y) (fr00 hn) (fun y => by
      by_cases h : y = Str.ofString "escape"
      · rw [if_pos h, h, hke]
      · rw [if_neg h])
    have N0 := news00 s.heap Lg
    dsimp only [itEnv] at *
    generalize hb1 : itIf = body
    generalize hb3 : fdScope itStmt = scope at *
    conv at hb1 => { lhs; whnf }
    conv at hb3 => { lhs; whnf }
    subst hb1 hb3
    obtain ⟨heap', gens', drawn', toks', os'⟩ := s
    dsimp only at F0 N0
    generalize hal : allOf heap' Lg = rest at *
    clear hke hkp
    refine seg_execs_cons (seg_If ?_)
    rw [hA]
    k_steps
    show Seg _ _ _ _ _ _ _ (leafOf (.ok (.ret .none))) _ _
    exact seg_end _ (hR _ _ hs)
end Mine
end
theorem Mine.calmGenStart : True := by w_top off; first | walk1 | trivial
section
open PySem PySem.W PyProof.Rows PySem.Calls PySem.Spec
set_option maxRecDepth 100000
namespace Mine
local macro_rules | `(tactic| walk_at $s) => Mine.mw s [("call type:enumerate", Mine.m9e23)]
noncomputable def yG (all : List (Nat × Str)) (Lg : Addr) (B : Heap) : Protocol := fun m s₀ v s κ => ∃ E I : Addr, B.get? E = none ∧ B.get? I = none ∧ yS all Lg E I m s₀ v s κ
noncomputable def pG (Lg : Addr) (B : Heap) : Nat → Shared → Shared → Prop := fun n s₀ s₁ => n = 0 ∧ ∃ E I : Addr, B.get? E = none ∧ B.get? I = none ∧ GenSince Lg [E, I] s₀ s₁
theorem EnW.of (w : World) (E I : Addr) (x : Str) (t : Tok) (hne : E ≠ I) {h : Heap} (he : IsEnum h E I 0 .none) (hi : h.IsStrIter I (strIterType x) x t 0) : ∃ St Mid, EnW w E I x.cps.toList St Mid ∧ St 0 h := by
  have hEI : E ∉ [I] := by simp [hne]
  cases ha : x.cps.all (· < 128)
  · have hit' : h.IsStrIter I "str_iterator" x t 0 := by simpa [strIterType, ha] using hi
    refine ⟨fun i h => (∃ old, IsEnum h E I i old) ∧ h.IsStrIter I "str_iterator" x t i, fun i T h => (∃ x', IsEnumOut h E I ((i : Int) + 1) x' T) ∧ h.IsStrIter I "str_iterator" x t (i + 1) ∧ T ≠ E ∧ T ≠ I, fun A' hA' => ?_, ⟨⟨_, he⟩, hit'⟩⟩
    have := WalksT.enumerateD (Draws.strWide (prog := PP) (w := w) (A := A'.in1) hA' I x t) E hne hEI (by simp)
    simpa only [Array.length_toList, Array.getElem?_toList] using this
  · have hit' : h.IsStrIter I "str_ascii_iterator" x t 0 := by simpa [strIterType, ha] using hi
    refine ⟨fun i h => (∃ old, IsEnum h E I i old) ∧ h.IsStrIter I "str_ascii_iterator" x t i, fun i T h => (∃ x', IsEnumOut h E I ((i : Int) + 1) x' T) ∧ h.IsStrIter I "str_ascii_iterator" x t (i + 1) ∧ T ≠ E ∧ T ≠ I, fun A' hA' => ?_, ⟨⟨_, he⟩, hit'⟩⟩
    have := WalksT.enumerateD (Draws.strAscii (prog := PP) (w := w) (A := A'.in1) hA' I x t) E hne hEI (by simp)
    simpa only [Array.length_toList, Array.getElem?_toList] using this
theorem start00 {h₀ h h' : Heap} {L : Addr} {m m' : Str → Option Value} {rest : List (Addr × Obj)} (F9 : Fr h00 L h' m') (N9 : News h00 L h' rest) (F : Fr h₀ L h m) (hal : allOf h L = rest) :
    Fr h₀ L h' m' ∧ News h₀ L h' [] ∧ ∀ b o, b ≠ L → h.get? b = some o → h'.get? b = some o := by
  have hk9 := keep00 N9 (h := h) (by rw [hal]; exact fun _ hp => hp)
  exact ⟨⟨F9.ns, fun b o e => hk9 b o (fun q => Nat.lt_irrefl _ (Nat.lt_of_lt_of_le (q ▸ Heap.lt_size e) F.above)) (F.keep b o e), F.above⟩, (fun p hp => absurd hp (List.not_mem_nil)), hk9⟩
theorem enum_go (w : World) (E I : Addr) (x : Str) (t : Tok) (hne : E ≠ I) {h : Heap} (he : IsEnum h E I 0 .none) (hi : h.IsStrIter I (strIterType x) x t 0) {P : Prop} (k : ∀ St Mid, EnW w E I x.cps.toList St Mid → St 0 h → P) : P := by
  obtain ⟨St, Mid, W, hst⟩ := EnW.of w E I x t hne he hi
  exact k St Mid W hst
theorem none_above {h h' : Heap} {L b : Addr} (hk : ∀ b o, b ≠ L → h.get? b = some o → h'.get? b = some o) (hb : h'.objs.size ≤ b) (hbL : b ≠ L) : h.get? b = none := by
  cases hq : h.get? b with
  | none => rfl
  | some o => exact absurd (Nat.lt_of_lt_of_le (Heap.lt_size (hk b o hbL hq)) hb) (Nat.lt_irrefl _)
noncomputable def forIter : Stmt → PySem.Expr | .For _ i _ _ _ => i | _ => default
noncomputable def forPos : Stmt → Pos | .For _ _ _ _ p => p | _ => default
set_option maxHeartbeats 8000000 in
theorem genStart (w : World) (dp un : Nat) (gd : Option (List Code)) (cn : Str) (cs : Scope) (Lc a : Addr) (ccd : Value) (cl : List (Str × Addr)) (outer : List Env) (Lg : Addr) (ad : Str) (t : Tok) (loose : List Str) (mean : ExcName → Option Value) (mg mb : Str → Option Value) (h₀ : Heap) (s : Shared)
    (F : Fr h₀ Lg s.heap (fun y => List.lookup y [(Str.ofString "addr", Value.str ad t)])) (X : (KK w).In h₀) (T : Top VV loose mean mg mb h₀) (hlen : ad.length ≤ 400) (hlen2 : (yldL 0 false ad.cps.toList).length < 1000) :
    Seg (model PP w) (ktrTop dp un gd cn cs Lc a ccd cl outer).in1 (fun n s₀ r s₁ => r = .ok (.ret .none) ∧ pG Lg s.heap n s₀ s₁) (yG (yldL 0 false ad.cps.toList) Lg s.heap) (yldL 0 false ad.cps.toList).length s (.func (fdBody itStmt) (itEnv Lg)) ((model PP w).den (.func (fdBody itStmt) (itEnv Lg))) [] s := by
  have l9 : Mine.Lead9 := trivial
  have l0 : Mine.Lead0 := trivial
  revert F X T hlen hlen2
  revert w dp un gd cn cs Lc a ccd cl outer Lg ad t loose mean mg mb h₀ s
  intro w dp un gd cn cs Lc a ccd cl outer Lg ad t loose mean mg mb h₀ s
  intros F X T hlen hlen2
  rename Mine.Lead0 => l0; clear l0
  dsimp only [PP, KK] at *
  revert X; k_fill; intro X
  have hA : (ktrTop dp un gd cn cs Lc a ccd cl outer).in1.over (.func (fdBody itStmt) (itEnv Lg)) [] = ktrTop (dp + 1) (un + 4) gd itName (fdScope itStmt) Lg 63 (.ref 62) [] (envX cn cs Lc a ccd cl :: outer) := rfl
  refine seg_func ?_
  have F0 := fr00 F.ns
  have N0 := news00 s.heap Lg
  have hk0 : ∀ b o, b ≠ Lg → s.heap.get? b = some o → s.heap.get? b = some o := fun _ _ _ e => e
  obtain ⟨heap', gens', drawn', toks', os'⟩ := s
  dsimp only at F0 N0 F
  generalize hal : allOf heap' Lg = rest at *
  show Seg _ _ _ _ _ _ _ ((execs [sAt (fdBody itStmt) 0, sAt (fdBody itStmt) 1, .For (forTarget itFor) (forIter itFor) (forBody itFor) [] (forPos itFor), itIf] (itEnv Lg)).wrap genK _ id id) _ _
  refine seg_execs_cons (seg_exec ?_)
  rw [hA]
  generalize hb1 : sAt (fdBody itStmt) 0 = st1
  conv at hb1 => { lhs; whnf }
  subst hb1
  have hsc : itEnv Lg = envOf itName (fdScope itStmt) Lg 63 (.ref 62) := rfl
  obtain ⟨scope, hb3⟩ : ∃ sc, fdScope itStmt = sc := ⟨_, rfl⟩
  conv at hb3 => { lhs; whnf }
  have hb4 : fdScope itStmt = scope := by rw [← hb3]; rfl
  rw [hb4] at hsc hA
  rw [hsc]
  rw [hsc] at hA
  subst hb3
  k_steps
  generalize hb1 : sAt (fdBody itStmt) 1 = st1
  conv at hb1 => { lhs; whnf }
  subst hb1
  refine seg_execs_cons (seg_exec ?_)
  rw [hA]
  k_steps
  (with_reducible rename News _ _ _ _ => N9)
  (with_reducible rename Fr _ _ _ _ => F9)
  obtain ⟨F10, N10, hk9⟩ := start00 F9 N9 F hal
  clear F9 N9
  generalize hb1 : forIter itFor = iter
  conv at hb1 => { lhs; whnf }
  subst hb1
  refine seg_execs_cons (seg_For ?_)
  rw [hA]
  k_steps
  rename Heap => h9
  have hlt9 : Lg < h9.objs.size := F10.ns.lt
  refine Halt.mk (call_enumerate_str fun h11 he hit hsz hk11 => ?_)
  dsimp only at he hit hsz hk11 ⊢
  refine enum_go w (h9.objs.size + 1) h9.objs.size ad t (Nat.succ_ne_self _) he hit fun St Mid W hst => ?_
  refine (W _ rfl).self 0 _ _ _ hst ?_
  intro p
  have n0 := none_above hk9 (Nat.le_refl _) (Nat.ne_of_gt hlt9)
  have n1 := none_above hk9 (Nat.le_succ _) (Nat.ne_of_gt (Nat.lt_succ_of_lt hlt9))
  refine seg_mono (R := rS Lg (h9.objs.size + 1) h9.objs.size) (Y := yS (yldL 0 false ad.cps.toList) Lg (h9.objs.size + 1) h9.objs.size) ?hR ?hY (genLoop w dp un gd cn cs Lc a ccd cl outer Lg (h9.objs.size + 1) h9.objs.size ad.cps.toList St Mid (yldL 0 false ad.cps.toList) (rS Lg (h9.objs.size + 1) h9.objs.size) _ _ _ W (Nat.ne_of_gt (Nat.lt_succ_of_lt hlt9)) (Nat.ne_of_gt hlt9) hlen2 ?hl rfl ?he ad.cps.toList.length 0 false _ _ _ (by omega) hst (F10.ns.keeps hk11) ⟨rfl, fun h => nomatch h⟩ ⟨h11, _, rfl, fun b o hb _ e => hk11 b o (hk9 b o hb e)⟩ ⟨[], rfl⟩)
  case hl => show ad.length < 1000; omega
  case hR =>
    rintro n s₀ r s ⟨e, h0, hg⟩
    exact ⟨e, h0, _, _, n1, n0, hg⟩
  case hY =>
    rintro n s₀ v s κ κ' hκ ⟨h1, h2, h3⟩
    exact ⟨_, _, n1, n0, h1, h2, fun s'' hs => hκ _ _ (h3 s'' hs)⟩
  case he =>
    intro esc s₀ s m hn hk hs hpre
    refine genEnd w dp un gd (envX cn cs Lc a ccd cl :: outer) Lg _ _ ad.cps.toList.length esc _ s₀ s m _ _ _ _ rfl hn hk hs hlen2 ?_ ?_ hpre fun s₀ s hg => ⟨rfl, rfl, hg⟩
    · show ad.length < 1000; omega
    · intro he
      subst he
      obtain ⟨pre, hpre⟩ := hpre
      cases hcs : ad.cps.toList with
      | nil => rw [hcs] at hpre; simp [yldL] at hpre
      | cons c r => simp
end Mine
end
section
open PySem PySem.W PyProof.Rows PySem.Calls PySem.Spec
set_option maxRecDepth 100000
namespace Mine
theorem letGo_gen {prog : Program} {w : World} {A : Around} {E : Value → Shared → Prop} {s : Shared} {elts : List PySem.Expr} {x1} {pos : Pos} {I T : Addr} {g : Nat} {Q : Unit → Shared → Prop} (hit : s.heap.IsGen I g) (hQ : Q () s) :
    wpAny (model prog w) A (letOwnedTupleGo (.Tuple elts x1 pos) (.ref I) (.ref T)) Q E s := by
  obtain ⟨o, nm, qn, ho, hc, hd, _⟩ := hit
  unfold letOwnedTupleGo
  refine wpAny_bind (wpAny_load ho ?_)
  rw [hc, hd]
  show wpAny _ A (if (["enumerate", "zip", "dict_itemiterator", "dict_reverseitemiterator", "odict_iterator", "itertools.zip_longest", "itertools.pairwise"].contains "generator" && _) = true then _ else _) Q E s
  rw [if_neg (by
    intro h
    rw [show (["enumerate", "zip", "dict_itemiterator", "dict_reverseitemiterator", "odict_iterator", "itertools.zip_longest", "itertools.pairwise"].contains "generator") = false from by decide, Bool.false_and] at h
    cases h)]
  exact wpAny_pure hQ
noncomputable def privOf (h : Heap) (l : List Addr) : List (Addr × Obj) := l.filterMap fun b => (h.get? b).map fun o => (b, o)
theorem mem_privOf {h : Heap} {l : List Addr} {b : Addr} {o : Obj} (hb : b ∈ l) (e : h.get? b = some o) : (b, o) ∈ privOf h l :=
  List.mem_filterMap.mpr ⟨b, hb, by rw [e]; rfl⟩
theorem of_privOf {h : Heap} {l : List Addr} {p : Addr × Obj} (e : p ∈ privOf h l) : p.1 ∈ l ∧ h.get? p.1 = some p.2 := by
  obtain ⟨b, hb, hp⟩ := List.mem_filterMap.mp e
  cases hg : h.get? b with
  | none => rw [hg] at hp; cases hp
  | some o => rw [hg] at hp; cases hp; exact ⟨hb, hg⟩
noncomputable def GLive (w : World) (A : Around) (all : List (Nat × Str)) (Lg : Addr) (B : Heap) (g j : Nat) (priv : List (Addr × Obj)) (gens : Array GenState) : Prop :=
  ∃ gs, gens[g]? = some gs ∧ ∀ s'' : Shared, (j = 0 → s''.heap = B) → (∀ p ∈ priv, s''.heap.get? p.1 = some p.2) →
    gs.Goes (model PP w) A.in1 (fun n s₀ r s₁ => r = .ok (.ret .none) ∧ pG Lg B n s₀ s₁) (yG all Lg B) (all.length - j) (.send .none) s''
theorem bare_set {s : Shared} {g : Nat} {x : GenState} (h : AllBare s.gens) (hx : x.bare = true) : AllBare (s.setGen g x).gens := by
  intro y hy
  obtain ⟨i, hi, rfl⟩ := Array.mem_iff_getElem.mp hy
  simp only [Shared.setGen] at hi ⊢
  by_cases e : g = i
  · subst e; simp [hx]
  · have hi' : i < s.gens.size := by simpa using hi
    rw [Array.getElem_setIfInBounds_ne hi' e]
    exact h _ (Array.getElem_mem hi')
section
variable {w : World} {A : Around} {R : Result → Shared → Prop} {target : PySem.Expr} {body : List Stmt} {env : Env} {h₀ : Heap} {L : Addr} {os : OsState} {Gn Lg : Addr} {g : Nat} {B : Heap} {all : List (Nat × Str)}
theorem for_gen (hh : A.handled = none) (hroom : A.depth < recursionLimit) (hl : h₀.NoLimit) (J : Nat → (Str → Option Value) → List (Addr × Obj) → Prop) (oG : Obj) (hG : ∀ h : Heap, h.get? Gn = some oG → h.IsGen Gn g)
    (hB0 : ∀ b o, h₀.get? b = some o → ∃ o, B.get? b = some o) (hBL : ∃ o, B.get? L = some o) (hBG : ∃ o, B.get? Gn = some o) (hLL : L ≠ Lg) (hGL : Gn ≠ Lg) (hLz : h₀.objs.size ≤ Lg)
    (hJ : ∀ i m news, J i m news → ∀ p ∈ news, (∃ o, B.get? p.1 = some o) ∧ p.1 ≠ Lg)
    (htg : ∃ elts x1 pos, target = .Tuple elts x1 pos)
    (turn : ∀ (i pos : Nat) (txt : Str) (t1 t2 : Tok) (c : Nat) (T : Addr) (m : Str → Option Value) (news rest : List (Addr × Obj)) (s : Shared), all[i]? = some (pos, txt) → J i m news → (∀ p ∈ rest, p.1 = Gn ∨ p.1 = Lg ∨ B.get? p.1 = none) → Fr h₀ L s.heap m →
      News h₀ L s.heap ((T, ({ cls := .type "tuple", data := .seq #[.int pos t1, .str txt t2] c } : Obj)) :: (news ++ rest)) → (∀ p ∈ news, p.1 ≠ T) → AllBare s.gens → s.os = os →
      wpAny (model PP w) A (assign target env (.ref T)) (fun _ s₂ => wpAny (model PP w) A (execs body env) (fun f s₃ => match f with
          | .next | .cont => ∃ m₃ news₃, J (i + 1) m₃ news₃ ∧ Fr h₀ L s₃.heap m₃ ∧ News h₀ L s₃.heap (news₃ ++ rest) ∧ s₃.gens = s.gens ∧ s₃.os = os
          | .brk => R (.ok .next) s₃
          | .ret v => R (.ok (.ret v)) s₃) (notedBy (model PP w) A env fun e s' => R (.error e) s') s₂) (notedBy (model PP w) A env fun e s' => R (.error e) s') s)
    (done : ∀ (m : Str → Option Value) (news : List (Addr × Obj)) (s : Shared), J all.length m news → Fr h₀ L s.heap m → News h₀ L s.heap news → AllBare s.gens → s.os = os → R (.ok .next) s) :
    ∀ (k i : Nat) (m : Str → Option Value) (news priv : List (Addr × Obj)) (s : Shared), i + k = all.length → (i = 0 → s.heap = B) → J i m news → (∀ p ∈ priv, p.1 = Lg ∨ B.get? p.1 = none) → Fr h₀ L s.heap m → News h₀ L s.heap (news ++ (Gn, oG) :: priv) → AllBare s.gens → s.os = os → GLive w A all Lg B g i priv s.gens →
      codeAny (model PP w) A (.forLoop target (.ref Gn) body [] env) R s := by
  obtain ⟨elts, x1, tpos, rfl⟩ := htg
  intro k
  induction k with
  | zero =>
    intro i m news priv s hik hB0' hj hpv F N hb hos ⟨gs, hgs, hgo⟩
    have hi : i = all.length := by omega
    subst hi
    rw [Nat.sub_self] at hgo
    have hGn := (N (Gn, oG) (List.mem_append_right _ (.head _))).1
    refine for_turn2 (next_genQ (P := pG Lg B) (Y := yG all Lg B) (n := 0) hh (hl.keeps F.keep) hroom (hG _ hGn) hgs (hgo _ hB0' fun p hp => (N p (List.mem_append_right _ (.tail _ hp))).1) ?_ ?_)
    · rintro v s₁ gs' _ ⟨E, I, _, _, _, _, hkap⟩
      exact False.elim (hkap s₁ fun _ _ _ e => e)
    · rintro s₁ ⟨_, E, I, hE, hI, h1, tk1, rfl, hk1⟩ h' hk'
      have up : ∀ b o, (∃ o, B.get? b = some o) → b ≠ Lg → s.heap.get? b = some o → h'.get? b = some o := fun b o ⟨o', hB⟩ hbL e => hk' b o (hk1 b o hbL (by
        intro h
        rcases List.mem_cons.mp h with rfl | h
        · rw [hE] at hB; cases hB
        · rw [List.mem_singleton.mp h, hI] at hB; cases hB) e)
      refine wpAny_execs_nil (done m news _ hj ⟨F.ns.at' fun o e => up L o hBL hLL e, fun b o e => up b o (hB0 b o e) (fun q => Nat.lt_irrefl _ (Nat.lt_of_lt_of_le (q ▸ Heap.lt_size e) hLz)) (F.keep b o e), F.above⟩ ?_ ?_ hos)
      · intro p hp
        obtain ⟨n1, n2⟩ := N p (List.mem_append_left _ hp)
        obtain ⟨j1, j2⟩ := hJ _ _ _ hj p hp
        exact ⟨up _ _ j1 j2 n1, n2⟩
      · exact bare_set (s := s.setGen g .running) (bare_set hb rfl) rfl
  | succ k ih =>
    intro i m news priv s hik hB0' hj hpv F N hb hos ⟨gs, hgs, hgo⟩
    have hlt : i < all.length := by omega
    obtain ⟨n, hn⟩ : ∃ n, all.length - i = n + 1 := ⟨all.length - i - 1, by omega⟩
    rw [hn] at hgo
    have hGn := (N (Gn, oG) (List.mem_append_right _ (.head _))).1
    refine for_turn2 (next_genQ (P := pG Lg B) (Y := yG all Lg B) (n := n + 1) hh (hl.keeps F.keep) hroom (hG _ hGn) hgs (hgo _ hB0' fun p hp => (N p (List.mem_append_right _ (.tail _ hp))).1) ?_ ?_)
    · rintro v s₁ gs' hbare ⟨E, I, hE, hI, ⟨pos, txt, T, t1, t2, c, hat, rfl, hT, hfresh⟩, ⟨h1, tk1, rfl, hk1⟩, hkap⟩
      rw [show all.length - 1 - (n + 1 - 1) = i by omega] at hat
      have nEI : ∀ b, (∃ o, B.get? b = some o) → b ∉ [E, I] := by
        rintro b ⟨o', hB⟩ h
        rcases List.mem_cons.mp h with rfl | h
        · rw [hE] at hB; cases hB
        · rw [List.mem_singleton.mp h, hI] at hB; cases hB
      have up : ∀ b o, (∃ o, B.get? b = some o) → b ≠ Lg → s.heap.get? b = some o → h1.get? b = some o := fun b o hB hbL e => hk1 b o hbL (nEI b hB) e
      have h0n : ∀ b, (b = Lg ∨ B.get? b = none) → b ≠ L ∧ h₀.get? b = none := by
        intro b hbb
        rcases hbb with rfl | hbb
        · exact ⟨Ne.symm hLL, Heap.get?_none_of_le hLz⟩
        · refine ⟨?_, ?_⟩
          · rintro rfl; obtain ⟨o, ho⟩ := hBL; rw [hbb] at ho; cases ho
          · cases hq : h₀.get? b with
            | none => rfl
            | some o => obtain ⟨o', ho⟩ := hB0 b o hq; rw [hbb] at ho; cases ho
      have hpv1 : ∀ p ∈ privOf h1 [Lg, E, I], p.1 = Lg ∨ B.get? p.1 = none := by
        intro p hp
        rcases List.mem_cons.mp (of_privOf hp).1 with h | h
        · exact .inl h
        · rcases List.mem_cons.mp h with h | h
          · exact .inr (h ▸ hE)
          · exact .inr (List.mem_singleton.mp h ▸ hI)
      have hgn1 := up Gn oG hBG hGL hGn
      have F1 : Fr h₀ L h1 m := ⟨F.ns.at' fun o e => up L o hBL hLL e, fun b o e => up b o (hB0 b o e) (fun q => Nat.lt_irrefl _ (Nat.lt_of_lt_of_le (q ▸ Heap.lt_size e) hLz)) (F.keep b o e), F.above⟩
      have N1 : News h₀ L h1 (news ++ (Gn, oG) :: privOf h1 [Lg, E, I]) := by
        intro p hp
        rcases List.mem_append.mp hp with hp | hp
        · obtain ⟨n1, n2⟩ := N p (List.mem_append_left _ hp)
          obtain ⟨j1, j2⟩ := hJ _ _ _ hj p hp
          exact ⟨up _ _ j1 j2 n1, n2⟩
        · cases hp with
          | head => exact ⟨hgn1, (N (Gn, oG) (List.mem_append_right _ (.head _))).2⟩
          | tail _ hp => exact ⟨(of_privOf hp).2, h0n _ (hpv1 p hp)⟩
      have hTn : T ≠ L ∧ h₀.get? T = none := by
        refine ⟨fun q => ?_, ?_⟩
        · obtain ⟨o, _, _, ho, _⟩ := F.ns
          exact hfresh L o (nEI L hBL) ho q.symm
        · cases hq : h₀.get? T with
          | none => rfl
          | some o => exact absurd rfl (hfresh T o (nEI T (hB0 T o hq)) (F.keep T o hq))
      refine letGo_gen (hG _ hgn1) ?_
      refine wpAny_mono (turn i pos txt t1 t2 c T m news ((Gn, oG) :: privOf h1 [Lg, E, I]) _ hat hj ?_ F1 ?_ ?_ ?_ hos) (fun _ s₂ h₂ => wpAny_mono h₂ (fun f s₃ h₃ => ?_) fun _ _ e => e) fun _ _ e => e
      · intro p hp
        cases hp with
        | head => exact .inl rfl
        | tail _ hp => exact .inr (hpv1 p hp)
      · intro p hp
        cases hp with
        | head => exact ⟨hT, hTn⟩
        | tail _ hp => exact N1 p hp
      · intro p hp q
        exact hfresh p.1 p.2 (nEI _ (hJ _ _ _ hj p hp).1) (N p (List.mem_append_left _ hp)).1 q
      · exact bare_set (s := { s.setGen g .running with heap := h1, toks := tk1 }) (bare_set hb rfl) hbare
      · have nx : (∃ m₃ news₃, J (i + 1) m₃ news₃ ∧ Fr h₀ L s₃.heap m₃ ∧ News h₀ L s₃.heap (news₃ ++ (Gn, oG) :: privOf h1 [Lg, E, I]) ∧ s₃.gens = (Shared.setGen { s.setGen g .running with heap := h1, toks := tk1 } g gs').gens ∧ s₃.os = os) → codeAny (model PP w) A (.forLoop (.Tuple elts x1 tpos) (.ref Gn) body [] env) R s₃ := by
          rintro ⟨m₃, news₃, hj3, F3, N3, hg3, ho3⟩
          refine ih (i + 1) m₃ news₃ _ s₃ (by omega) (fun h => absurd h (Nat.succ_ne_zero i)) hj3 hpv1 F3 N3 ?_ ho3 ⟨gs', ?_, fun s'' _ hs => ?_⟩
          · rw [hg3]; exact bare_set (s := { s.setGen g .running with heap := h1, toks := tk1 }) (bare_set hb rfl) hbare
          · rw [hg3]; exact setGen_self (s := { s.setGen g .running with heap := h1, toks := tk1 }) (gs := .running) (setGen_self hgs)
          · rw [show all.length - (i + 1) = n by omega]
            exact hkap s'' fun b hb o e => hs (b, o) (mem_privOf hb e)
        cases f with
        | next => exact nx h₃
        | cont => exact nx h₃
        | brk => exact h₃
        | ret v => exact h₃
    · rintro s₁ ⟨h, _⟩
      exact absurd h (Nat.succ_ne_zero n)
end
theorem gLive0 (w : World) (dp un : Nat) (gd : Option (List Code)) (cn : Str) (cs : Scope) (Lc a : Addr) (ccd : Value) (cl : List (Str × Addr)) (outer : List Env) (Lg : Addr) (ad : Str) (t : Tok) (loose : List Str) (mean : ExcName → Option Value) (mg mb : Str → Option Value) (h₀ B : Heap) (g : Nat) (priv : List (Addr × Obj)) (gens : Array GenState)
    (F : Fr h₀ Lg B (fun y => List.lookup y [(Str.ofString "addr", Value.str ad t)])) (X : (KK w).In h₀) (T : Top VV loose mean mg mb h₀) (hlen : ad.length ≤ 400) (hlen2 : (yldL 0 false ad.cps.toList).length < 1000) (hg : gens[g]? = some (.fresh (.func (fdBody itStmt) (itEnv Lg)))) :
    GLive w (ktrTop dp un gd cn cs Lc a ccd cl outer) (yldL 0 false ad.cps.toList) Lg B g 0 priv gens := by
  refine ⟨_, hg, fun s'' hB _ => ⟨rfl, ?_⟩⟩
  have e := hB rfl
  have := genStart w dp un gd cn cs Lc a ccd cl outer Lg ad t loose mean mg mb h₀ s'' (e ▸ F) X T hlen hlen2
  rw [e] at this
  exact this
theorem yldL_len (i : Nat) (esc : Bool) (cs : List Nat) : (yldL i esc cs).length ≤ cs.length + 1 := by
  induction cs generalizing i esc with
  | nil => cases esc <;> simp [yldL]
  | cons c r ih =>
    cases esc with
    | true => simp only [yldL, List.length_cons]; have := ih (i + 1) false; omega
    | false =>
      simp only [yldL]
      by_cases h : c = 92
      · rw [if_pos h]; have := ih (i + 1) true; simp only [List.length_cons]; omega
      · rw [if_neg h]; have := ih (i + 1) false; simp only [List.length_cons]; omega
end Mine
end
section
open PySem PySem.W PyProof.Rows PySem.Calls PySem.Spec
set_option maxRecDepth 100000
namespace Mine
section
variable {prog : Program} {w : World} {A : Around} {s : Shared} {K : Frag} {L : Addr} {h₀ : Heap} {m mg mb : Str → Option Value} {news : List (Addr × Obj)} {p : Program} {loose : List Str} {mean : ExcName → Option Value}
theorem code_gen {R : Result → Shared → Prop} {name qual : Str} {params : Arguments} {body : List Stmt} {scope : Scope} {dV kV doc pm cdv ct oc : Value} {an od : Option Addr} {osl : Array (Option Value)} {f : Addr} {args : Args} {binds : List (Str × Value)}
    (F : Fr h₀ L s.heap m) (X₀ : K.In h₀) (N : News h₀ L s.heap news) (T : Top p loose mean mg mb h₀)
    (ho : K.lookup f = some ⟨oc, od, .func (fnOf name qual params body scope dV kV doc pm an cdv ct), osl⟩) (hcd : codeIn K cdv qual = true) (hroom : A.depth < recursionLimit)
    (hbind : BindsTo s (fnOf name qual params body scope dV kV doc pm an cdv ct) args binds) (hloc : ∀ y ∈ binds, scope.names.lookup y.1 = some .local)
    (hco : scope.isCoroutine = false) (hgen : scope.isGenerator = true) (hk : scope.kind = .function) (hcell : ∀ x ∈ scope.names, x.2 ≠ .cell)
    (h : ∀ (Lg Gn : Addr) (h1 : Heap) (oG oL : Obj) (tk : Nat), Fr h₀ L h1 m → News h₀ L h1 ((Gn, oG) :: (Lg, oL) :: news) → (∀ h : Heap, h.get? Gn = some oG → h.IsGen Gn s.gens.size) → h1.Ns Lg (fun y => binds.reverse.lookup y) → (∀ p ∈ news, p.1 < Lg) → Lg < Gn → L < Lg → h₀.objs.size ≤ Lg →
      R (.ok (.ret (.ref Gn))) { s with heap := h1, gens := s.gens.push (.fresh (.func body (envOf qual scope Lg f cdv))), toks := tk }) :
    codeAny (model prog w) A (.call (.ref f) args) R s := by
  have hS : s.heap.objs.size ≤ s.heap.objs.size := Nat.le_refl _
  have h0S : h₀.objs.size ≤ s.heap.objs.size := Nat.le_trans F.above (Nat.le_of_lt F.ns.lt)
  refine codeAny_call_generator (fd := fnOf name qual params body scope dV kV doc pm an cdv ct) hroom ((X₀.keeps F.keep) _ _ ho) rfl hco hgen rfl (codeRec_of (X₀.keeps F.keep) hcd) (hbind _ _ _ _ ?_)
  refine wpAny_newFunctionEnv hcell hloc (fun h' hns hs => ?_) hk
  have hk1 : ∀ b o, s.heap.get? b = some o → h'.get? b = some o := fun b o e => (hs.2 b (Nat.ne_of_lt (Heap.lt_size e))).trans (Heap.get?_push_of_some _ e)
  have hz : h'.objs.size = s.heap.objs.size + 1 := by rw [hs.1, Heap.size_push]
  refine ⟨(T.nolimit.keeps F.keep).keeps hk1, ?_⟩
  obtain ⟨oL, es, ep, hL1, hL2⟩ := hns
  have hnew : ∀ b, s.heap.objs.size ≤ b → b ≠ L ∧ h₀.get? b = none := fun b hb => ⟨fun q => Nat.lt_irrefl _ (Nat.lt_of_lt_of_le (q ▸ F.ns.lt) hb), Heap.get?_none_of_le (Nat.le_trans h0S hb)⟩
  refine h s.heap.objs.size h'.objs.size (h'.push { cls := .type "generator", data := .fields #[.int s.gens.size 0, .str name (s.toks + binds.length), .str qual (s.toks + binds.length + 1)] }) { cls := .type "generator", data := .fields #[.int s.gens.size 0, .str name (s.toks + binds.length), .str qual (s.toks + binds.length + 1)] } oL _ ⟨(F.ns.keeps hk1).keeps fun b o e => Heap.get?_push_of_some _ e, fun b o e => Heap.get?_push_of_some _ (hk1 b o (F.keep b o e)), F.above⟩ ?hN ?hG ⟨oL, es, ep, Heap.get?_push_of_some _ hL1, hL2⟩ (fun p hp => Heap.lt_size (N p hp).1) (by rw [hz]; exact Nat.lt_succ_self _) F.ns.lt h0S
  case hG => exact fun h e => ⟨_, _, _, e, rfl, rfl, rfl⟩
  intro q hq
  cases hq with
  | head => exact ⟨Heap.get?_push_size _ rfl, hnew _ (by rw [hz]; exact Nat.le_succ _)⟩
  | tail _ hq => cases hq with
    | head => exact ⟨Heap.get?_push_of_some _ hL1, hnew _ (Nat.le_refl _)⟩
    | tail _ hq => exact ⟨Heap.get?_push_of_some _ (hk1 _ _ (N q hq).1), (N q hq).2⟩
end
end Mine
end
theorem Mine.calmCCheck : True := by w_top off; first | walk1 | trivial
section
open PySem PySem.W PyProof.Rows PySem.Calls PySem.Spec
set_option maxRecDepth 100000
namespace Mine
noncomputable def ckStmt : Stmt := sAt PP.main.body 5
noncomputable def ckFor : Stmt := sAt (fdBody ckStmt) 2
noncomputable abbrev ckName : Str := Str.ofString "_check_parenthesis"
noncomputable abbrev ckEnv (L : Addr) : Env := envOf ckName (fdScope ckStmt) L 77 (.ref 76)
noncomputable def chkL : Int → List (Nat × Str) → Bool
  | n, [] => n == 0
  | n, (_, x) :: r => if x = Str.ofString "(" then chkL (n + 1) r else if x = Str.ofString ")" then (if n - 1 < 0 then false else chkL (n - 1) r) else chkL n r
local macro_rules | `(tactic| walk_at $s) => Mine.mw s [("ite", Mine.m9k6)]
noncomputable abbrev ckMap (ad : Value) (n : Int) (t : Tok) (pv cv : Option Value) : Str → Option Value := fun y =>
  if y = Str.ofString "ch" then cv else if y = Str.ofString "pos" then pv else if y = Str.ofString "opens" then some (.int n t) else if y = Str.ofString "addr" then some ad else none
structure CkInv (ad : Value) (news0 : List (Addr × Obj)) (all : List (Nat × Str)) (b : Bool) (i : Nat) (m : Str → Option Value) (news : List (Addr × Obj)) : Prop where
  out : ∃ (n : Int) (t : Tok) (pv cv : Option Value), news = news0 ∧ (∀ y, m y = ckMap ad n t pv cv y) ∧ 0 ≤ n ∧ n ≤ i ∧ chkL n (all.drop i) = b
noncomputable def ckEnd (ad : Value) (news0 rest : List (Addr × Obj)) (all : List (Nat × Str)) (b : Bool) (i : Nat) (h₀ : Heap) (L : Addr) (gens : Array GenState) (os : OsState) (s₃ : Shared) : Prop :=
  ∃ m₃ news₃, CkInv ad news0 all b (i + 1) m₃ news₃ ∧ Fr h₀ L s₃.heap m₃ ∧ News h₀ L s₃.heap (news₃ ++ rest) ∧ s₃.gens = gens ∧ s₃.os = os
theorem ckEnd_mk {ad : Value} {news0 rest : List (Addr × Obj)} {all : List (Nat × Str)} {b : Bool} {i : Nat} {h₀ : Heap} {L : Addr} {gens : Array GenState} {os : OsState} {s₃ : Shared} {m : Str → Option Value} (pv cv : Option Value) (n : Int) (ho' : ∃ t, m (Str.ofString "opens") = some (.int n t))
    (F : Fr h₀ L s₃.heap m) (hm : ∀ t y, m (Str.ofString "opens") = some (.int n t) → m y = ckMap ad n t pv cv y) (N : News h₀ L s₃.heap (news0 ++ rest)) (h0 : 0 ≤ n) (h1 : n ≤ (i + 1 : Nat)) (hc : chkL n (all.drop (i + 1)) = b) (hg : s₃.gens = gens) (ho : s₃.os = os) : ckEnd ad news0 rest all b i h₀ L gens os s₃ :=
  let ⟨t, e⟩ := ho'; ⟨_, _, ⟨n, t, pv, cv, rfl, fun y => hm t y e, h0, h1, hc⟩, F, N, hg, ho⟩
theorem ne_of_beq_false {x y : Str} (h : (x == y) = false) : x ≠ y := beq_eq_false_iff_ne.mp h
set_option maxHeartbeats 8000000 in
theorem ckTurn (w : World) (ad : Value) (news0 : List (Addr × Obj)) (all : List (Nat × Str)) (b : Bool) (hall : all.length < 1000)
    (loose : List Str) (mean : ExcName → Option Value) (mg mb : Str → Option Value) (dp un : Nat) (gd : Option (List Code)) (cn : Str) (cs0 : Scope) (Lc a : Addr) (ccd : Value) (cl : List (Str × Addr)) (outer : List Env) (base h₀ : Heap) (L : Addr) (R : Result → Shared → Prop)
    (B : Below (ktrTop dp un gd cn cs0 Lc a ccd cl outer) base (envX cn cs0 Lc a ccd cl :: outer) h₀) (X : (KK w).In h₀) (Tp : Top VV loose mean mg mb h₀) (hd : dp + 60 < recursionLimit) (hu : un + 600 < cLine) (os : OsState)
    (hfalse : b = false → ∀ (m : Str → Option Value) (s' : Shared), Fr h₀ L s'.heap m → News h₀ L s'.heap news0 → AllBare s'.gens → s'.os = os → R (.ok (.ret (.bool false))) s')
    (i pos : Nat) (txt : Str) (t1 t2 : Tok) (c : Nat) (T : Addr) (m : Str → Option Value) (news rest : List (Addr × Obj)) (s : Shared) (hi : all[i]? = some (pos, txt)) (hj : CkInv ad news0 all b i m news) (F : Fr h₀ L s.heap m)
    (N : News h₀ L s.heap ((T, ({ cls := .type "tuple", data := .seq #[.int pos t1, .str txt t2] c } : Obj)) :: (news ++ rest))) (hb : AllBare s.gens) (hos : s.os = os) (E E2 : Value → Shared → Prop) :
      wpAny (model PP w) ((ktrTop dp un gd cn cs0 Lc a ccd cl outer).deeper (ckEnv L)) (assign (forTarget ckFor) (ckEnv L) (.ref T)) (fun _ s₂ => wpAny (model PP w) ((ktrTop dp un gd cn cs0 Lc a ccd cl outer).deeper (ckEnv L)) (execs (forBody ckFor) (ckEnv L)) (fun f s₃ => match f with
          | .next | .cont => ckEnd ad news0 rest all b i h₀ L s.gens os s₃
          | .brk => R (.ok .next) s₃
          | .ret v => R (.ok (.ret v)) s₃) E s₂) E2 s := by
  have l9 : Mine.Lead9 := trivial
  have l0 : Mine.Lead0 := trivial
  revert hall B X Tp hd hu hfalse hi hj F N hb hos
  revert w ad news0 all b loose mean mg mb dp un gd cn cs0 Lc a ccd cl outer base h₀ L R os i pos txt t1 t2 c T m news rest s E E2
  intro w ad news0 all b loose mean mg mb dp un gd cn cs0 Lc a ccd cl outer base h₀ L R os i pos txt t1 t2 c T m news rest s E E2
  intros hall B X Tp hd hu hfalse hi hj F N hb hos
  rename Mine.Lead0 => l0; clear l0
  dsimp only [PP, KK] at *
  revert X; k_fill; intro X
  obtain ⟨n, t, pv, cv, rfl, hm, hn0, hni, hck⟩ := hj
  have F0 := fr_cast F hm
  clear F hm
  have hlt := (List.getElem?_eq_some_iff.mp hi).1
  have hdrop : all.drop i = (pos, txt) :: all.drop (i + 1) := by
    obtain ⟨h1, h2⟩ := List.getElem?_eq_some_iff.mp hi
    rw [List.drop_eq_getElem_cons h1, h2]
  rw [hdrop] at hck
  dsimp only [ckEnv] at *
  generalize hb1 : forBody ckFor = body
  generalize hb2 : forTarget ckFor = target
  generalize hb3 : fdScope ckStmt = scope
  conv at hb1 => { lhs; whnf }
  conv at hb2 => { lhs; whnf }
  conv at hb3 => { lhs; whnf }
  subst hb1 hb2 hb3
  obtain ⟨heap', gens', drawn', toks', os'⟩ := s
  generalize hnr : news ++ rest = nr at *
  cases hq1 : (txt == Str.ofString "(") with
  | true =>
    have hx := eq_of_beq hq1
    k_steps
    (with_reducible rename News _ _ _ _ => N9)
    (with_reducible rename Fr _ _ _ _ => F9)
    simp only [chkL, if_pos hx] at hck
    refine ckEnd_mk (some (.int pos t1)) (some (.str txt t2)) (n + 1) ⟨_, rfl⟩ F9 ?_ (fun p hp => N9 p (.tail _ (hnr ▸ hp))) (by omega) (by omega) hck rfl hos
    (intro t' y e; by_cases h1 : y = Str.ofString "ch"; (focus (subst h1; rfl)); by_cases h2 : y = Str.ofString "pos"; (focus (subst h2; rfl)); by_cases h3 : y = Str.ofString "opens"; (focus (subst h3; exact e)); simp only [ckMap, if_neg h1, if_neg h2, if_neg h3])
  | false =>
    have hx := ne_of_beq_false hq1
    cases hq2 : (txt == Str.ofString ")") with
    | false =>
      have hx2 := ne_of_beq_false hq2
      k_steps
      (with_reducible rename News _ _ _ _ => N9)
      (with_reducible rename Fr _ _ _ _ => F9)
      simp only [chkL, if_neg hx, if_neg hx2] at hck
      refine ckEnd_mk (some (.int pos t1)) (some (.str txt t2)) n ⟨_, rfl⟩ F9 ?_ (fun p hp => N9 p (.tail _ (hnr ▸ hp))) (by omega) (by omega) hck rfl hos
      (intro t' y e; by_cases h1 : y = Str.ofString "ch"; (focus (subst h1; rfl)); by_cases h2 : y = Str.ofString "pos"; (focus (subst h2; rfl)); by_cases h3 : y = Str.ofString "opens"; (focus (subst h3; exact e)); simp only [ckMap, if_neg h1, if_neg h2, if_neg h3])
    | true =>
      have hx2 := eq_of_beq hq2
      simp only [chkL, if_neg hx, if_pos hx2] at hck
      k_steps
      · (with_reducible rename News _ _ _ _ => N9)
        (with_reducible rename Fr _ _ _ _ => F9)
        (with_reducible rename n - 1 < 0 => hneg)
        rw [if_pos hneg] at hck
        exact hfalse hck.symm _ _ F9 (fun p hp => N9 p (.tail _ (hnr ▸ List.mem_append_left _ hp))) hb hos
      · (with_reducible rename News _ _ _ _ => N9)
        (with_reducible rename Fr _ _ _ _ => F9)
        (with_reducible rename ¬ (n - 1 < 0) => hneg)
        rw [if_neg hneg] at hck
        refine ckEnd_mk (some (.int pos t1)) (some (.str txt t2)) (n - 1) ⟨_, rfl⟩ F9 ?_ (fun p hp => N9 p (.tail _ (hnr ▸ hp))) (by omega) (by omega) hck rfl hos
        (intro t' y e; by_cases h1 : y = Str.ofString "ch"; (focus (subst h1; rfl)); by_cases h2 : y = Str.ofString "pos"; (focus (subst h2; rfl)); by_cases h3 : y = Str.ofString "opens"; (focus (subst h3; exact e)); simp only [ckMap, if_neg h1, if_neg h2, if_neg h3])
end Mine
end
theorem Mine.calmCStrip : True := by w_top off; first | walk1 | trivial
section
open PySem PySem.W PyProof.Rows PySem.Calls PySem.Spec
set_option maxRecDepth 100000
namespace Mine
local macro_rules | `(tactic| walk_at $s) => Mine.mw s [("ite", Mine.m9k6)]
noncomputable def stStmt : Stmt := sAt PP.main.body 4
noncomputable def stFor : Stmt := sAt (fdBody stStmt) 4
noncomputable abbrev stName : Str := Str.ofString "_strip_quoted_realnames"
noncomputable abbrev stEnv (L : Addr) : Env := envOf stName (fdScope stStmt) L 70 (.ref 69)
noncomputable def stL (ad : Str) : Nat → Option Nat → List Str → List (Nat × Str) → Nat × List Str
  | st, _, rs, [] => (st, rs)
  | st, op, rs, (p, x) :: r => if x = Str.ofString "\"" then (match op with
      | none => stL ad st (some p) rs r
      | some o => stL ad (p + 1) none (if st = o then rs else rs ++ [Txt.slice ad (some (st : Int)) (some (o : Int))]) r) else stL ad st op rs r
noncomputable abbrev stMap (ad : Value) (st : Nat) (t : Tok) (ov : Value) (rl : Addr) (pv cv : Option Value) : Str → Option Value := fun y =>
  if y = Str.ofString "ch" then cv else if y = Str.ofString "pos" then pv else if y = Str.ofString "start" then some (.int st t) else if y = Str.ofString "open_pos" then some ov else if y = Str.ofString "result" then some (.ref rl) else if y = Str.ofString "addr" then some ad else none
inductive OpV : Value → Option Nat → Prop
  | none : OpV .none none
  | some (o : Nat) (t : Tok) : OpV (.int o t) (some o)
structure StInv (ad : Str) (ta : Tok) (rl : Addr) (news0 : List (Addr × Obj)) (all : List (Nat × Str)) (fin : Nat × List Str) (i : Nat) (m : Str → Option Value) (news : List (Addr × Obj)) : Prop where
  out : ∃ (st n1 : Nat) (t : Tok) (ov : Value) (op : Option Nat) (rv : List Value) (rs : List Str) (pv cv : Option Value), news = (rl, W.listOf rv.toArray n1) :: news0 ∧ (∀ y, m y = stMap (.str ad ta) st t ov rl pv cv y) ∧ OpV ov op ∧ StrV rv rs ∧ rv.length ≤ i ∧ st ≤ 1000 ∧ (∀ o, op = some o → o ≤ 1000) ∧ stL ad st op rs (all.drop i) = fin
noncomputable def stEnd (ad : Str) (ta : Tok) (rl : Addr) (news0 rest : List (Addr × Obj)) (all : List (Nat × Str)) (fin : Nat × List Str) (i : Nat) (h₀ : Heap) (L : Addr) (gens : Array GenState) (os : OsState) (s₃ : Shared) : Prop :=
  ∃ m₃ news₃, StInv ad ta rl news0 all fin (i + 1) m₃ news₃ ∧ Fr h₀ L s₃.heap m₃ ∧ News h₀ L s₃.heap (news₃ ++ rest) ∧ s₃.gens = gens ∧ s₃.os = os
theorem push_arr' (a : List Value) (v : Value) : a.toArray.push v = (a ++ [v]).toArray := by simp
theorem ne_of_beq_false' {x y : Str} (h : (x == y) = false) : x ≠ y := beq_eq_false_iff_ne.mp h
theorem stEnd_mk {ad : Str} {ta : Tok} {rl : Addr} {news0 rest : List (Addr × Obj)} {all : List (Nat × Str)} {fin : Nat × List Str} {i : Nat} {h₀ : Heap} {L : Addr} {gens : Array GenState} {os : OsState} {s₃ : Shared} {m : Str → Option Value} (st n1 : Nat) (ov : Value) (op : Option Nat) (rv : List Value) (rs : List Str) (pv cv : Option Value)
    (ho' : ∃ t, m (Str.ofString "start") = some (.int st t)) (F : Fr h₀ L s₃.heap m) (hm : ∀ t y, m (Str.ofString "start") = some (.int st t) → m y = stMap (.str ad ta) st t ov rl pv cv y) (N : News h₀ L s₃.heap ((rl, W.listOf rv.toArray n1) :: (news0 ++ rest)))
    (hov : OpV ov op) (hrv : StrV rv rs) (hl : rv.length ≤ i + 1) (hst : st ≤ 1000) (hop : ∀ o, op = some o → o ≤ 1000) (hc : stL ad st op rs (all.drop (i + 1)) = fin) (hg : s₃.gens = gens) (ho : s₃.os = os) : stEnd ad ta rl news0 rest all fin i h₀ L gens os s₃ :=
  let ⟨t, e⟩ := ho'; ⟨_, _, ⟨st, n1, t, ov, op, rv, rs, pv, cv, rfl, fun y => hm t y e, hov, hrv, hl, hst, hop, hc⟩, F, N, hg, ho⟩
set_option maxHeartbeats 8000000 in
theorem stTurn (w : World) (ad : Str) (ta : Tok) (rl : Addr) (news0 : List (Addr × Obj)) (all : List (Nat × Str)) (fin : Nat × List Str) (hall : all.length < 500) (hap : ∀ p ∈ all, p.1 < 900) (had : ad.length ≤ 400)
    (loose : List Str) (mean : ExcName → Option Value) (mg mb : Str → Option Value) (dp un : Nat) (gd : Option (List Code)) (cn : Str) (cs0 : Scope) (Lc a : Addr) (ccd : Value) (cl : List (Str × Addr)) (outer : List Env) (base h₀ : Heap) (L : Addr) (R : Result → Shared → Prop)
    (B : Below (ktrTop dp un gd cn cs0 Lc a ccd cl outer) base (envX cn cs0 Lc a ccd cl :: outer) h₀) (X : (KK w).In h₀) (Tp : Top VV loose mean mg mb h₀) (hd : dp + 60 < recursionLimit) (hu : un + 600 < cLine) (os : OsState)
    (i pos : Nat) (txt : Str) (t1 t2 : Tok) (c : Nat) (T : Addr) (m : Str → Option Value) (news rest : List (Addr × Obj)) (s : Shared) (hi : all[i]? = some (pos, txt)) (hj : StInv ad ta rl news0 all fin i m news) (hrest : ∀ p ∈ news0 ++ rest, p.1 ≠ rl) (hTr : ∀ p ∈ news, p.1 ≠ T) (F : Fr h₀ L s.heap m)
    (N : News h₀ L s.heap ((T, ({ cls := .type "tuple", data := .seq #[.int pos t1, .str txt t2] c } : Obj)) :: (news ++ rest))) (hos : s.os = os) (E E2 : Value → Shared → Prop) :
      wpAny (model PP w) ((ktrTop dp un gd cn cs0 Lc a ccd cl outer).deeper (stEnv L)) (assign (forTarget stFor) (stEnv L) (.ref T)) (fun _ s₂ => wpAny (model PP w) ((ktrTop dp un gd cn cs0 Lc a ccd cl outer).deeper (stEnv L)) (execs (forBody stFor) (stEnv L)) (fun f s₃ => match f with
          | .next | .cont => stEnd ad ta rl news0 rest all fin i h₀ L s.gens os s₃
          | .brk => R (.ok .next) s₃
          | .ret v => R (.ok (.ret v)) s₃) E s₂) E2 s := by
  have l9 : Mine.Lead9 := trivial
  have l0 : Mine.Lead0 := trivial
  revert hall hap had B X Tp hd hu hi hj hrest hTr F N hos
  revert w ad ta rl news0 all fin loose mean mg mb dp un gd cn cs0 Lc a ccd cl outer base h₀ L R os i pos txt t1 t2 c T m news rest s E E2
  intro w ad ta rl news0 all fin loose mean mg mb dp un gd cn cs0 Lc a ccd cl outer base h₀ L R os i pos txt t1 t2 c T m news rest s E E2
  intros hall hap had B X Tp hd hu hi hj hrest hTr F N hos
  rename Mine.Lead0 => l0; clear l0
  dsimp only [PP, KK] at *
  revert X; k_fill; intro X
  obtain ⟨st, n1, t, ov, op, rv, rs, pv, cv, rfl, hm, hov, hrv, hrl, hst, hop, hck⟩ := hj
  have F0 := fr_cast F hm
  clear F hm
  have hlt := (List.getElem?_eq_some_iff.mp hi).1
  have hdrop : all.drop i = (pos, txt) :: all.drop (i + 1) := by
    obtain ⟨h1, h2⟩ := List.getElem?_eq_some_iff.mp hi
    rw [List.drop_eq_getElem_cons h1, h2]
  rw [hdrop] at hck
  have hpos : pos < 900 := hap (pos, txt) (List.mem_of_getElem? hi)
  have hTrl : rl ≠ T := hTr _ (.head _)
  have hTrl' : @Ne Nat T rl := Ne.symm hTrl
  dsimp only [stEnv] at *
  generalize hb1 : forBody stFor = body
  generalize hb2 : forTarget stFor = target
  generalize hb3 : fdScope stStmt = scope
  conv at hb1 => { lhs; whnf }
  conv at hb2 => { lhs; whnf }
  conv at hb3 => { lhs; whnf }
  subst hb1 hb2 hb3
  obtain ⟨heap', gens', drawn', toks', os'⟩ := s
  have N0 : News h₀ L heap' ((T, ({ cls := .type "tuple", data := .seq #[.int pos t1, .str txt t2] c } : Obj)) :: (rl, W.listOf rv.toArray n1) :: (news0 ++ rest)) := N
  clear N
  generalize hnr : news0 ++ rest = nr at *
  cases hq1 : (txt == Str.ofString "\"") with
  | false =>
    have hx := ne_of_beq_false' hq1
    simp only [stL, if_neg hx] at hck
    k_steps
    (with_reducible rename News _ _ _ _ => N9)
    (with_reducible rename Fr _ _ _ _ => F9)
    subst hnr
    refine stEnd_mk st n1 ov op rv rs (some (.int pos t1)) (some (.str txt t2)) ⟨_, rfl⟩ F9 ?_ (fun p hp => N9 p (.tail _ hp)) hov hrv (by omega) hst hop hck rfl hos
    (intro t' y e; by_cases h1 : y = Str.ofString "ch"; (focus (subst h1; rfl)); by_cases h2 : y = Str.ofString "pos"; (focus (subst h2; rfl)); by_cases h3 : y = Str.ofString "start"; (focus (subst h3; exact e)); by_cases h4 : y = Str.ofString "open_pos"; (focus (subst h4; rfl)); simp only [stMap, if_neg h1, if_neg h2, if_neg h3, if_neg h4])
  | true =>
    have hx := eq_of_beq hq1
    cases hov with
    | none =>
      simp only [stL, if_pos hx] at hck
      k_steps
      (with_reducible rename News _ _ _ _ => N9)
      (with_reducible rename Fr _ _ _ _ => F9)
      subst hnr
      refine stEnd_mk st n1 (.int pos t1) (some pos) rv rs (some (.int pos t1)) (some (.str txt t2)) ⟨_, rfl⟩ F9 ?_ (fun p hp => N9 p (.tail _ hp)) (.some pos t1) hrv (by omega) hst (fun o e => by cases e; omega) hck rfl hos
      (intro t' y e; by_cases h1 : y = Str.ofString "ch"; (focus (subst h1; rfl)); by_cases h2 : y = Str.ofString "pos"; (focus (subst h2; rfl)); by_cases h3 : y = Str.ofString "start"; (focus (subst h3; exact e)); by_cases h4 : y = Str.ofString "open_pos"; (focus (subst h4; rfl)); simp only [stMap, if_neg h1, if_neg h2, if_neg h3, if_neg h4])
    | some o to =>
      have ho := hop o rfl
      simp only [stL, if_pos hx] at hck
      k_steps
      · (with_reducible rename News _ _ _ _ => N9)
        (with_reducible rename Fr _ _ _ _ => F9)
        rw [push_arr'] at N9
        subst hnr
        (with_reducible rename ¬ (_ = _) => hne)
        rw [if_neg (fun e => hne (by rw [e]))] at hck
        refine stEnd_mk (pos + 1) (n1 + 1) .none none (rv ++ [_]) (rs ++ [Txt.slice ad (some (st : Int)) (some (o : Int))]) (some (.int pos t1)) (some (.str txt t2)) ⟨_, rfl⟩ F9 ?_ (fun p hp => N9 p (.tail _ hp)) .none (hrv.append (.cons _ .nil)) (by simp; omega) (by omega) (fun o e => by cases e) hck rfl hos
        (intro t' y e; by_cases h1 : y = Str.ofString "ch"; (focus (subst h1; rfl)); by_cases h2 : y = Str.ofString "pos"; (focus (subst h2; rfl)); by_cases h3 : y = Str.ofString "start"; (focus (subst h3; exact e)); by_cases h4 : y = Str.ofString "open_pos"; (focus (subst h4; rfl)); simp only [stMap, if_neg h1, if_neg h2, if_neg h3, if_neg h4])
      · (with_reducible rename News _ _ _ _ => N9)
        (with_reducible rename Fr _ _ _ _ => F9)
        subst hnr
        (with_reducible rename (_ = _) => hne)
        rw [if_pos (by omega)] at hck
        refine stEnd_mk (pos + 1) n1 .none none rv rs (some (.int pos t1)) (some (.str txt t2)) ⟨_, rfl⟩ F9 ?_ (fun p hp => N9 p (.tail _ hp)) .none hrv (by omega) (by omega) (fun o e => by cases e) hck rfl hos
        (intro t' y e; by_cases h1 : y = Str.ofString "ch"; (focus (subst h1; rfl)); by_cases h2 : y = Str.ofString "pos"; (focus (subst h2; rfl)); by_cases h3 : y = Str.ofString "start"; (focus (subst h3; exact e)); by_cases h4 : y = Str.ofString "open_pos"; (focus (subst h4; rfl)); simp only [stMap, if_neg h1, if_neg h2, if_neg h3, if_neg h4])
end Mine
end
theorem Mine.calmCStrip2 : True := by w_top off; first | walk1 | trivial
section
open PySem PySem.W PyProof.Rows PySem.Calls PySem.Spec
set_option maxRecDepth 100000
namespace Mine
def m9k13 : Lean.MacroM (Lean.TSyntax `tactic) := Mine.t9seq [Mine.t9call "63", Mine.m9e23]
local macro_rules | `(tactic| walk_at $s) => Mine.mw s [("call ref", Mine.m9k13), ("exec For Tuple Call", Mine.m9e24), ("exec For Tuple Call cons nil", Mine.m9e24), ("call builtin:str.join", Mine.m9e23), ("pyIter ref", Mine.m9e23), ("ite", Mine.m9k6)]
theorem StrV.strs {a : List Value} {x : List Str} (h : StrV a x) : StrsAre a x := by
  induction h with
  | nil => exact .nil
  | cons t _ ih => exact .cons _ t ih
theorem stL_le (ad : Str) : ∀ (l : List (Nat × Str)) (st : Nat) (op : Option Nat) (rs : List Str), (∀ y ∈ rs, y.length ≤ ad.length) → (∀ y ∈ (stL ad st op rs l).2, y.length ≤ ad.length) ∧ (stL ad st op rs l).2.length ≤ rs.length + l.length := by
  intro l
  induction l with
  | nil => intro st op rs h; exact ⟨h, by simp [stL]⟩
  | cons a r ih =>
    intro st op rs h
    obtain ⟨p, x⟩ := a
    simp only [stL]
    by_cases hx : x = Str.ofString "\""
    · rw [if_pos hx]
      cases op with
      | none => have := ih st (some p) rs h; exact ⟨this.1, by simp only [List.length_cons]; omega⟩
      | some o =>
        (try dsimp only)
        by_cases hs : st = o
        · rw [if_pos hs]; have := ih (p + 1) none rs h; exact ⟨this.1, by simp only [List.length_cons]; omega⟩
        · rw [if_neg hs]
          have := ih (p + 1) none (rs ++ [Txt.slice ad (some (st : Int)) (some (o : Int))]) (fun y hy => by
            rcases List.mem_append.mp hy with hy | hy
            · exact h y hy
            · rw [List.mem_singleton.mp hy]; exact Txt.slice_le ..)
          exact ⟨this.1, by have := this.2; simp only [List.length_append, List.length_cons, List.length_nil] at this ⊢; omega⟩
    · rw [if_neg hx]; have := ih st op rs h; exact ⟨this.1, by simp only [List.length_cons]; omega⟩
theorem sum_le (n : Nat) : ∀ l : List Str, (∀ y ∈ l, y.length ≤ n) → (l.map (·.length)).sum ≤ l.length * n := by
  intro l
  induction l with
  | nil => intro _; simp
  | cons a r ih =>
    intro h
    have h1 := h a (.head _)
    have h2 := ih fun y hy => h y (.tail _ hy)
    simp only [List.map_cons, List.sum_cons, List.length_cons, Nat.succ_mul]
    omega
noncomputable def stripS (ad : Str) : Str :=
  if (Builtin.Str.occurrences ad (Str.ofString "\"") 0 ad.length 1).isEmpty = true then ad
  else Txt.join (Str.ofString "") ((stL ad 0 none [] (yldL 0 false ad.cps.toList)).2 ++ (if (stL ad 0 none [] (yldL 0 false ad.cps.toList)).1 < ad.length then [Txt.slice ad (some ((stL ad 0 none [] (yldL 0 false ad.cps.toList)).1 : Int)) none] else []))
theorem yldL_pos : ∀ (cs : List Nat) (i : Nat) (esc : Bool), ∀ p ∈ yldL i esc cs, p.1 ≤ i + cs.length := by
  intro cs
  induction cs with
  | nil =>
    intro i esc p hp
    cases esc with
    | true => simp [yldL] at hp; subst hp; simp
    | false => simp [yldL] at hp
  | cons c r ih =>
    intro i esc p hp
    have step : ∀ e, p ∈ yldL (i + 1) e r → p.1 ≤ i + (c :: r).length := fun e h => by have := ih (i + 1) e p h; simp only [List.length_cons]; omega
    cases esc with
    | true =>
      simp only [yldL] at hp
      cases hp with
      | head => simp
      | tail _ hp => exact step _ hp
    | false =>
      simp only [yldL] at hp
      by_cases h : c = 92
      · rw [if_pos h] at hp; exact step _ hp
      · rw [if_neg h] at hp
        cases hp with
        | head => simp
        | tail _ hp => exact step _ hp
theorem stLoop (w : World) (ad : Str) (ta : Tok) (rl : Addr) (news0 : List (Addr × Obj)) (had : ad.length ≤ 400)
    (loose : List Str) (mean : ExcName → Option Value) (mg mb : Str → Option Value) (dp un : Nat) (gd : Option (List Code)) (cn : Str) (cs0 : Scope) (Lc a : Addr) (ccd : Value) (cl : List (Str × Addr)) (outer : List Env) (base h₀ : Heap) (L : Addr) (R : Result → Shared → Prop)
    (B : Below (ktrTop dp un gd cn cs0 Lc a ccd cl outer) base (envX cn cs0 Lc a ccd cl :: outer) h₀) (X : (KK w).In h₀) (Tp : Top VV loose mean mg mb h₀) (hd : dp + 60 < recursionLimit) (hu : un + 600 < cLine) (os : OsState)
    (Lg Gn : Addr) (oG oL : Obj) (g : Nat) (m : Str → Option Value) (s : Shared) (F : Fr h₀ L s.heap m) (ht : ∃ t, m (Str.ofString "start") = some (.int (0 : Nat) t)) (hm' : ∀ t y, m (Str.ofString "start") = some (.int (0 : Nat) t) → m y = stMap (.str ad ta) 0 t .none rl none none y)
    (N : News h₀ L s.heap ((Gn, oG) :: (Lg, oL) :: (rl, W.listOf #[] 0) :: news0)) (hG : ∀ h : Heap, h.get? Gn = some oG → h.IsGen Gn g) (hg : s.gens[g]? = some (.fresh (.func (fdBody itStmt) (itEnv Lg))))
    (hns : s.heap.Ns Lg (fun y => List.lookup y [(Str.ofString "addr", Value.str ad ta)])) (hrl : @LT.lt Nat _ rl Lg) (hlt : ∀ p ∈ news0, @LT.lt Nat _ p.1 rl) (hLG : @LT.lt Nat _ Lg Gn) (hLL : @LT.lt Nat _ L Lg) (hz : h₀.objs.size ≤ Lg) (hb : AllBare s.gens) (hos : s.os = os)
    (done : ∀ (m : Str → Option Value) (news : List (Addr × Obj)) (s : Shared), StInv ad ta rl news0 (yldL 0 false ad.cps.toList) (stL ad 0 none [] (yldL 0 false ad.cps.toList)) (yldL 0 false ad.cps.toList).length m news → Fr h₀ L s.heap m → News h₀ L s.heap news → AllBare s.gens → s.os = os → R (.ok .next) s) :
    codeAny (model PP w) ((ktrTop dp un gd cn cs0 Lc a ccd cl outer).deeper (stEnv L)) (.forLoop (forTarget stFor) (.ref Gn) (forBody stFor) [] (stEnv L)) R s := by
  have l9 : Mine.Lead9 := trivial
  have l0 : Mine.Lead0 := trivial
  revert had B X Tp hd hu F ht hm' N hG hg hns hrl hlt hLG hLL hz hb hos done
  revert w ad ta rl news0 loose mean mg mb dp un gd cn cs0 Lc a ccd cl outer base h₀ L R os Lg Gn oG oL g m s
  intro w ad ta rl news0 loose mean mg mb dp un gd cn cs0 Lc a ccd cl outer base h₀ L R os Lg Gn oG oL g m s
  intros had B X Tp hd hu F ht hm' N hG hg hns hrl hlt hLG hLL hz hb hos done
  rename Mine.Lead0 => l0; clear l0
  obtain ⟨t, ht⟩ := ht
  have hm := fun y => hm' t y ht
  have hlen : (yldL 0 false ad.cps.toList).length ≤ 401 := Nat.le_trans (yldL_len 0 false _) (by show ad.length + 1 ≤ 401; omega)
  have hlive : GLive w ((ktrTop dp un gd cn cs0 Lc a ccd cl outer).deeper (stEnv L)) (yldL 0 false ad.cps.toList) Lg s.heap g 0 [(Lg, oL)] s.gens :=
    gLive0 w (dp + 1) (un + 3) gd stName (fdScope stStmt) L 70 (.ref 69) [] (envX cn cs0 Lc a ccd cl :: outer) Lg ad ta loose mean mg mb h₀ s.heap g _ s.gens ⟨hns, F.keep, hz⟩ X Tp had (by omega) hg
  have alive : ∀ p ∈ ((Gn, oG) :: (Lg, oL) :: (rl, W.listOf #[] 0) :: news0 : List (Addr × Obj)), ∃ o, s.heap.get? p.1 = some o := fun p hp => ⟨_, (N p hp).1⟩
  refine for_gen (w := w) (all := yldL 0 false ad.cps.toList) (Lg := Lg) (g := g) (B := s.heap) (os := os) rfl (by show dp + 1 < _; omega) Tp.nolimit (StInv ad ta rl news0 (yldL 0 false ad.cps.toList) (stL ad 0 none [] (yldL 0 false ad.cps.toList))) oG hG (fun b o e => ⟨o, F.keep b o e⟩) (let ⟨o, _, _, e, _⟩ := F.ns; ⟨o, e⟩) (alive _ (.head _)) (neN (Nat.ne_of_lt hLL)) (neN (Nat.ne_of_gt hLG)) hz ?_ ⟨_, _, _, rfl⟩ ?_ done (yldL 0 false ad.cps.toList).length 0 m ((rl, W.listOf #[] 0) :: news0) [(Lg, oL)] s (by omega) (fun _ => rfl) ⟨0, 0, t, .none, none, [], [], none, none, rfl, hm, .none, .nil, by simp, by omega, (fun o e => by cases e), rfl⟩ ?_ F ?_ hb hos hlive
  · rintro i m news ⟨st, n1, t, ov, op, rv, rs, pv, cv, rfl, -⟩ p hp
    cases hp with
    | head => exact ⟨alive (rl, W.listOf #[] 0) (.tail _ (.tail _ (.head _))), neN (Nat.ne_of_lt hrl)⟩
    | tail _ hp => exact ⟨alive p (.tail _ (.tail _ (.tail _ hp))), neN (Nat.ne_of_lt (Nat.lt_trans (hlt p hp) hrl))⟩
  · intro i pos txt t1 t2 c T m news rest s' hi hj hrest F' N' hTn hb' hos'
    refine stTurn w ad ta rl news0 _ _ (by omega) (fun p hp => ?_) had loose mean mg mb dp un gd cn cs0 Lc a ccd cl outer base h₀ L R B X Tp hd hu os i pos txt t1 t2 c T m news rest s' hi hj ?_ hTn F' N' hos' _ _
    · have := yldL_pos _ _ _ p hp
      have h2 : ad.cps.toList.length ≤ 400 := had
      omega
    · intro p hp
      rcases List.mem_append.mp hp with hp | hp
      · exact neN (Nat.ne_of_lt (hlt p hp))
      · rcases hrest p hp with h | h | h
        · rw [h]; exact neN (Nat.ne_of_gt (Nat.lt_trans hrl hLG))
        · rw [h]; exact neN (Nat.ne_of_gt hrl)
        · rintro rfl
          obtain ⟨o, ho⟩ := alive (p.1, W.listOf #[] 0) (.tail _ (.tail _ (.head _)))
          rw [h] at ho; cases ho
  · intro p hp
    exact .inl (by rw [List.mem_singleton.mp hp])
  · intro p hp
    refine N p ?_
    first
      | ((revert p hp); (repeat' (first | with_reducible refine List.forall_mem_cons.mpr ⟨?_, ?_⟩ | with_reducible refine List.forall_mem_append.mpr ⟨?_, ?_⟩ | with_reducible exact List.forall_mem_nil _ | (intro _ _; ((repeat (first | with_reducible assumption | with_reducible exact List.mem_cons_self | (with_reducible refine List.mem_append_left _ ?_; (repeat (first | with_reducible exact List.mem_cons_self | with_reducible refine List.mem_cons_of_mem _ ?_ | with_reducible assumption)); done) | with_reducible refine List.mem_append_right _ ?_ | with_reducible refine List.mem_cons_of_mem _ ?_)); done)) | ((repeat (first | with_reducible assumption | with_reducible exact List.mem_cons_self | (with_reducible refine List.mem_append_left _ ?_; (repeat (first | with_reducible exact List.mem_cons_self | with_reducible refine List.mem_cons_of_mem _ ?_ | with_reducible assumption)); done) | with_reducible refine List.mem_append_right _ ?_ | with_reducible refine List.mem_cons_of_mem _ ?_)); done))); done)
      | (simp only [List.mem_append, List.mem_cons, List.not_mem_nil, or_false] at hp ⊢; rcases hp with (h | h) | h | h <;> simp [h])
set_option maxHeartbeats 8000000 in
theorem c_strip (w : World) (ad : Str) (ta : Tok) (news : List (Addr × Obj)) :
   CC 70 w 70 news (ad.length ≤ 400) [.str ad ta] (fun v news' => news' = news ∧ ∃ t, v = .str (stripS ad) t) := by
  have l9 : Mine.Lead9 := trivial
  have l0 : Mine.Lead0 := trivial
  revert w ad ta news
  intro w ad ta news
  rename Mine.Lead0 => l0; clear l0
  dsimp only [CC, PP, KK]
  k_fill
  intro loose mean mg mb dp un gd cn cs a ccd cl outer A₀ base h₀ L m s Q B F X N T hk had hd hu hb hret
  k_dflt cell_enter
  k_steps
  · (with_reducible rename (List.isEmpty _) = true => hq9)
    exact hret _ _ _ ⟨rfl, ta, by unfold stripS; rw [if_pos hq9]⟩ (by k_asm) (by k_asm) hb rfl
  (with_reducible rename News _ _ _ _ => N9)
  (with_reducible rename Fr _ _ _ _ => F9)
  (with_reducible rename Below _ _ _ _ => B9)
  (with_reducible rename Top _ _ _ _ _ _ => T9)
  (with_reducible rename Frag.In _ _ => X9)
  (with_reducible rename ∀ p ∈ news, p.1 < _ => l9)
  refine Halt.mk (wpAny_call ?_)
  refine' code_gen ?k1 ?k3 ?k2 ?k4 ?k6 ?k7 ?k8 ?k9 ?kB ?c2 ?c3 ?c4 ?c5 ?_
  case k1 => exact F9
  case k2 => exact N9
  case k3 => exact X9
  case k4 => exact T9
  case k6 => k_is
  case k7 => k_is
  case k8 => ktr_room
  case k9 => exact BindsTo.of_eq rfl
  case kB => exact locs rfl
  case c2 => exact rfl
  case c3 => exact rfl
  case c4 => exact rfl
  case c5 => decide
  intro Lg Gn h1 oG oL tk1 F10 N10 hG hns hlt hLG hLL hz
  clear N9 F9
  (try dsimp only)
  refine Halt.mk (wpAny_pyIter_gen (hG _ (N10 _ (.head _)).1) ?_)
  have hbg : AllBare (s.gens.push (.fresh (.func (fdBody itStmt) (itEnv Lg)))) := hb.push rfl
  refine stLoop w ad ta _ news had loose mean mg mb dp un gd cn cs L a ccd cl outer base _ _ _ B9 X9 T9 (by omega) (by omega) s.os Lg Gn oG oL s.gens.size _ _ F10 ⟨_, rfl⟩ ?hm N10 hG ?hg ?hns (hlt _ (.head _)) l9 hLG hLL hz hbg rfl ?hd
  case hg => exact Array.getElem?_push_size
  case hns => exact hns
  case hm =>
    intro t9 y e9
    show (if y = Str.ofString "result" then _ else if y = Str.ofString "open_pos" then _ else if y = Str.ofString "start" then _ else List.lookup y [(Str.ofString "addr", Value.str ad ta)]) = _
    simp only [List.lookup]
    by_cases h1 : y = Str.ofString "ch"
    · subst h1; rfl
    by_cases h2 : y = Str.ofString "pos"
    · subst h2; rfl
    by_cases h3 : y = Str.ofString "start"
    · subst h3; exact e9
    by_cases h4 : y = Str.ofString "open_pos"
    · subst h4; rfl
    by_cases h5 : y = Str.ofString "result"
    · subst h5; rfl
    by_cases h6 : y = Str.ofString "addr"
    · subst h6; rfl
    simp only [stMap, if_neg h1, if_neg h2, if_neg h3, if_neg h4, if_neg h5, if_neg h6, beq_eq_false_iff_ne.mpr h6]
  case hd =>
    rintro m12 news12 s12 ⟨st, n1, t, ov, op, rv, rs, pv, cv, rfl, hm, hov, hrv, hrl, hst, hop, hck⟩ F12 N12 hb12 ho12
    obtain ⟨heap12, gens12, drawn12, toks12, os12⟩ := s12
    have F13 := fr_cast F12 hm
    clear F12 F10 N10 hm
    have l9n := fun p hp => neN (Nat.ne_of_lt (l9 p hp))
    rw [List.drop_length] at hck
    simp only [stL] at hck
    have hlen : (yldL 0 false ad.cps.toList).length ≤ 401 := Nat.le_trans (yldL_len 0 false _) (by show ad.length + 1 ≤ 401; omega)
    have hrz : rv.toArray.size < 1000 := by rw [List.size_toArray]; omega
    have hle := stL_le ad (yldL 0 false ad.cps.toList) 0 none [] (fun _ h => nomatch h)
    rw [← hck] at hle
    dsimp only at hle
    obtain ⟨hle1, hle2⟩ := hle
    (with_reducible rename (List.isEmpty _) = false => hq9)
    have hst9 : stripS ad = Txt.join (Str.ofString "") (rs ++ if st < ad.length then [Txt.slice ad (some (st : Int)) none] else []) := by
      unfold stripS
      rw [if_neg (by rw [hq9]; exact Bool.false_ne_true), ← hck]
    (try dsimp only)
    k_steps
    · (with_reducible rename News _ _ _ _ => N9)
      (with_reducible rename (st : Int) < _ => hlt9)
      rw [push_arr'] at N9
      have hlt8 : st < ad.length := by omega
      rw [if_pos hlt8] at hst9
      refine Halt.mk (join_listW (ys := rs ++ [Txt.slice ad (some (st : Int)) none]) (News.isList N9 (.head _)) (by rw [List.toList_toArray]; exact (hrv.append (.cons _ .nil)).strs) (by decide +kernel) ?_ fun t9 k9 => ?_)
      · have h1 := sum_le ad.length (rs ++ [Txt.slice ad (some (st : Int)) none]) (fun y hy => by
          rcases List.mem_append.mp hy with hy | hy
          · exact hle1 y hy
          · rw [List.mem_singleton.mp hy]; exact Txt.slice_le ..)
        have h2 : (rs ++ [Txt.slice ad (some (st : Int)) none]).length * ad.length ≤ 402 * 400 := Nat.mul_le_mul (by simp only [List.length_append, List.length_cons, List.length_nil] at hle2 ⊢; omega) had
        simp only [List.length_append, List.length_cons, List.length_nil] at hle2 h1 h2 ⊢
        omega
      · k_steps
        exact hret _ _ _ ⟨rfl, t9, by rw [hst9]⟩ (by k_asm) (cb_drop (by k_asm) fun p hp => .tail _ hp) hb12 ho12
    · (with_reducible rename News _ _ _ _ => N9)
      (with_reducible rename ¬ ((st : Int) < _) => hlt9)
      have hlt8 : ¬ st < ad.length := by omega
      rw [if_neg hlt8, List.append_nil] at hst9
      refine Halt.mk (join_listW (ys := rs) (News.isList N9 (.head _)) (by rw [List.toList_toArray]; exact hrv.strs) (by decide +kernel) ?_ fun t9 k9 => ?_)
      · have h1 := sum_le ad.length rs hle1
        have h2 : rs.length * ad.length ≤ 402 * 400 := Nat.mul_le_mul (by simp only [List.length_nil] at hle2; omega) had
        simp only [List.length_nil] at hle2
        omega
      · k_steps
        exact hret _ _ _ ⟨rfl, t9, by rw [hst9]⟩ (by k_asm) (cb_drop (by k_asm) fun p hp => .tail _ hp) hb12 ho12
end Mine
end
theorem Mine.calmCCheck2 : True := by w_top off; first | walk1 | trivial
section
open PySem PySem.W PyProof.Rows PySem.Calls PySem.Spec
set_option maxRecDepth 100000
namespace Mine
def m9k14 : Lean.MacroM (Lean.TSyntax `tactic) := Mine.t9first [Mine.t9seq [Mine.t9call "63", Mine.m9e23], Mine.t9seq [Mine.t9call "70", Mine.m9e23]]
local macro_rules | `(tactic| walk_at $s) => Mine.mw s [("call ref", Mine.m9k14), ("exec For Tuple Call", Mine.m9e24), ("exec For Tuple Call cons nil", Mine.m9e24), ("pyIter ref", Mine.m9e23), ("ite", Mine.m9k6)]
theorem ckLoop (w : World) (ad : Str) (ta : Tok) (news0 : List (Addr × Obj)) (had : ad.length ≤ 400)
    (loose : List Str) (mean : ExcName → Option Value) (mg mb : Str → Option Value) (dp un : Nat) (gd : Option (List Code)) (cn : Str) (cs0 : Scope) (Lc a : Addr) (ccd : Value) (cl : List (Str × Addr)) (outer : List Env) (base h₀ : Heap) (L : Addr) (R : Result → Shared → Prop)
    (B : Below (ktrTop dp un gd cn cs0 Lc a ccd cl outer) base (envX cn cs0 Lc a ccd cl :: outer) h₀) (X : (KK w).In h₀) (Tp : Top VV loose mean mg mb h₀) (hd : dp + 60 < recursionLimit) (hu : un + 600 < cLine) (os : OsState)
    (Lg Gn : Addr) (oG oL : Obj) (g : Nat) (m : Str → Option Value) (s : Shared) (F : Fr h₀ L s.heap m) (ht : ∃ t, m (Str.ofString "opens") = some (.int 0 t)) (hm' : ∀ t y, m (Str.ofString "opens") = some (.int 0 t) → m y = ckMap (.str ad ta) 0 t none none y)
    (N : News h₀ L s.heap ((Gn, oG) :: (Lg, oL) :: news0)) (hG : ∀ h : Heap, h.get? Gn = some oG → h.IsGen Gn g) (hg : s.gens[g]? = some (.fresh (.func (fdBody itStmt) (itEnv Lg))))
    (hns : s.heap.Ns Lg (fun y => List.lookup y [(Str.ofString "addr", Value.str ad ta)])) (hlt : ∀ p ∈ news0, @LT.lt Nat _ p.1 Lg) (hLG : @LT.lt Nat _ Lg Gn) (hLL : @LT.lt Nat _ L Lg) (hz : h₀.objs.size ≤ Lg) (hb : AllBare s.gens) (hos : s.os = os)
    (hfalse : chkL 0 (yldL 0 false ad.cps.toList) = false → ∀ (m : Str → Option Value) (s' : Shared), Fr h₀ L s'.heap m → News h₀ L s'.heap news0 → AllBare s'.gens → s'.os = os → R (.ok (.ret (.bool false))) s')
    (done : ∀ (m : Str → Option Value) (news : List (Addr × Obj)) (s : Shared), CkInv (.str ad ta) news0 (yldL 0 false ad.cps.toList) (chkL 0 (yldL 0 false ad.cps.toList)) (yldL 0 false ad.cps.toList).length m news → Fr h₀ L s.heap m → News h₀ L s.heap news → AllBare s.gens → s.os = os → R (.ok .next) s) :
    codeAny (model PP w) ((ktrTop dp un gd cn cs0 Lc a ccd cl outer).deeper (ckEnv L)) (.forLoop (forTarget ckFor) (.ref Gn) (forBody ckFor) [] (ckEnv L)) R s := by
  have l9 : Mine.Lead9 := trivial
  have l0 : Mine.Lead0 := trivial
  revert had B X Tp hd hu F ht hm' N hG hg hns hlt hLG hLL hz hb hos hfalse done
  revert w ad ta news0 loose mean mg mb dp un gd cn cs0 Lc a ccd cl outer base h₀ L R os Lg Gn oG oL g m s
  intro w ad ta news0 loose mean mg mb dp un gd cn cs0 Lc a ccd cl outer base h₀ L R os Lg Gn oG oL g m s
  intros had B X Tp hd hu F ht hm' N hG hg hns hlt hLG hLL hz hb hos hfalse done
  rename Mine.Lead0 => l0; clear l0
  obtain ⟨t, ht⟩ := ht
  have hm := fun y => hm' t y ht
  have hlen : (yldL 0 false ad.cps.toList).length ≤ 401 := Nat.le_trans (yldL_len 0 false _) (by show ad.length + 1 ≤ 401; omega)
  have hlive : GLive w ((ktrTop dp un gd cn cs0 Lc a ccd cl outer).deeper (ckEnv L)) (yldL 0 false ad.cps.toList) Lg s.heap g 0 [(Lg, oL)] s.gens :=
    gLive0 w (dp + 1) (un + 3) gd ckName (fdScope ckStmt) L 77 (.ref 76) [] (envX cn cs0 Lc a ccd cl :: outer) Lg ad ta loose mean mg mb h₀ s.heap g _ s.gens ⟨hns, F.keep, hz⟩ X Tp had (by omega) hg
  have alive : ∀ p ∈ ((Gn, oG) :: (Lg, oL) :: news0 : List (Addr × Obj)), ∃ o, s.heap.get? p.1 = some o := fun p hp => ⟨_, (N p hp).1⟩
  refine for_gen (w := w) (all := yldL 0 false ad.cps.toList) (Lg := Lg) (g := g) (B := s.heap) (os := os) rfl (by show dp + 1 < _; omega) Tp.nolimit (CkInv (.str ad ta) news0 (yldL 0 false ad.cps.toList) (chkL 0 (yldL 0 false ad.cps.toList))) oG hG (fun b o e => ⟨o, F.keep b o e⟩) (let ⟨o, _, _, e, _⟩ := F.ns; ⟨o, e⟩) (alive _ (.head _)) (neN (Nat.ne_of_lt hLL)) (neN (Nat.ne_of_gt hLG)) hz ?_ ⟨_, _, _, rfl⟩ ?_ done (yldL 0 false ad.cps.toList).length 0 m news0 [(Lg, oL)] s (by omega) (fun _ => rfl) ⟨0, t, none, none, rfl, hm, by omega, by omega, rfl⟩ ?_ F ?_ hb hos hlive
  · rintro i m news ⟨n, t, pv, cv, rfl, -⟩ p hp
    exact ⟨alive p (.tail _ (.tail _ hp)), neN (Nat.ne_of_lt (hlt p hp))⟩
  · intro i pos txt t1 t2 c T m news rest s' hi hj hrest F' N' hTn hb' hos'
    exact ckTurn w (.str ad ta) news0 _ _ (by omega) loose mean mg mb dp un gd cn cs0 Lc a ccd cl outer base h₀ L R B X Tp hd hu os hfalse i pos txt t1 t2 c T m news rest s' hi hj F' N' hb' hos' _ _
  · intro p hp
    exact .inl (by rw [List.mem_singleton.mp hp])
  · intro p hp
    refine N p ?_
    first
      | ((revert p hp); (repeat' (first | with_reducible refine List.forall_mem_cons.mpr ⟨?_, ?_⟩ | with_reducible refine List.forall_mem_append.mpr ⟨?_, ?_⟩ | with_reducible exact List.forall_mem_nil _ | (intro _ _; ((repeat (first | with_reducible assumption | with_reducible exact List.mem_cons_self | (with_reducible refine List.mem_append_left _ ?_; (repeat (first | with_reducible exact List.mem_cons_self | with_reducible refine List.mem_cons_of_mem _ ?_ | with_reducible assumption)); done) | with_reducible refine List.mem_append_right _ ?_ | with_reducible refine List.mem_cons_of_mem _ ?_)); done)) | ((repeat (first | with_reducible assumption | with_reducible exact List.mem_cons_self | (with_reducible refine List.mem_append_left _ ?_; (repeat (first | with_reducible exact List.mem_cons_self | with_reducible refine List.mem_cons_of_mem _ ?_ | with_reducible assumption)); done) | with_reducible refine List.mem_append_right _ ?_ | with_reducible refine List.mem_cons_of_mem _ ?_)); done))); done)
      | (simp only [List.mem_append, List.mem_cons, List.not_mem_nil, or_false] at hp ⊢; rcases hp with h | h | h <;> simp [h])
set_option maxHeartbeats 8000000 in
theorem c_check (w : World) (ad : Str) (ta : Tok) (news : List (Addr × Obj)) :
   CC 80 w 77 news (ad.length ≤ 400 ∧ (stripS ad).length ≤ 400) [.str ad ta] (fun v news' => news' = news ∧ v = .bool (chkL 0 (yldL 0 false (stripS ad).cps.toList))) := by
  have l9 : Mine.Lead9 := trivial
  have l0 : Mine.Lead0 := trivial
  revert w ad ta news
  intro w ad ta news
  rename Mine.Lead0 => l0; clear l0
  dsimp only [CC, PP, KK]
  k_fill
  intro loose mean mg mb dp un gd cn cs a ccd cl outer A₀ base h₀ L m s Q B F X N T hk had hd hu hb hret
  obtain ⟨had, had2⟩ := had
  k_dflt cell_enter
  k_steps
  (with_reducible rename News _ _ _ _ => N9)
  (with_reducible rename Fr _ _ _ _ => F9)
  (with_reducible rename Below _ _ _ _ => B9)
  (with_reducible rename Top _ _ _ _ _ _ => T9)
  (with_reducible rename Frag.In _ _ => X9)
  refine Halt.mk (CC.cl (c_strip w ad ta news) loose mean mg mb (dp + 1) (un + 3) gd ckName _ 77 (.ref 76) [] (envX cn cs L a ccd cl :: outer) (ktrTop dp un gd cn cs L a ccd cl outer) base _ _ _ _ _ _ B9 F9 X9 N9 T9 rfl had (by omega) (by omega) hb ?_)
  rintro v1 news1 s1 ⟨rfl, t1, rfl⟩ F1 N1 hb1 ho1
  clear N9 F9
  obtain ⟨heap2, gens2, drawn2, toks2, os2⟩ := s1
  (try dsimp only)
  k_steps
  (with_reducible rename News _ _ _ _ => N9)
  (with_reducible rename Fr _ _ _ _ => F9)
  refine Halt.mk (wpAny_call ?_)
  refine' code_gen ?k1 ?k3 ?k2 ?k4 ?k6 ?k7 ?k8 ?k9 ?kB ?c2 ?c3 ?c4 ?c5 ?_
  case k1 => exact F9
  case k2 => exact N9
  case k3 => exact X9
  case k4 => exact T9
  case k6 => k_is
  case k7 => k_is
  case k8 => ktr_room
  case k9 => exact BindsTo.of_eq rfl
  case kB => exact locs rfl
  case c2 => exact rfl
  case c3 => exact rfl
  case c4 => exact rfl
  case c5 => decide
  intro Lg Gn h1 oG oL tk1 F10 N10 hG hns hlt hLG hLL hz
  clear N9 F9
  (try dsimp only)
  refine Halt.mk (wpAny_pyIter_gen (hG _ (N10 _ (.head _)).1) ?_)
  have hbg : AllBare (gens2.push (.fresh (.func (fdBody itStmt) (itEnv Lg)))) := AllBare.push hb1 rfl
  refine ckLoop w (stripS ad) t1 _ had2 loose mean mg mb dp un gd cn cs L a ccd cl outer base _ _ _ B9 X9 T9 (by omega) (by omega) s.os Lg Gn oG oL gens2.size _ _ F10 ⟨_, rfl⟩ ?hm N10 hG ?hg ?hns hlt hLG hLL hz hbg ho1 ?hf ?hd
  case hg => exact Array.getElem?_push_size
  case hns => exact hns
  case hm =>
    intro t9 y e9
    show (if y = Str.ofString "opens" then _ else if y = Str.ofString "addr" then _ else List.lookup y [(Str.ofString "addr", Value.str ad ta)]) = _
    simp only [List.lookup]
    by_cases h1 : y = Str.ofString "ch"
    · subst h1; rfl
    by_cases h2 : y = Str.ofString "pos"
    · subst h2; rfl
    by_cases h3 : y = Str.ofString "opens"
    · subst h3; exact e9
    by_cases h6 : y = Str.ofString "addr"
    · subst h6; rfl
    simp only [ckMap, if_neg h1, if_neg h2, if_neg h3, if_neg h6, beq_eq_false_iff_ne.mpr h6]
  case hf =>
    intro hc m12 s12 F12 N12 hb12 ho12
    obtain ⟨heap12, gens12, drawn12, toks12, os12⟩ := s12
    clear F10 N10
    (try dsimp only)
    k_steps
    exact hret _ _ _ ⟨rfl, by rw [hc]⟩ (by k_asm) (by k_asm) hb12 ho12
  case hd =>
    rintro m12 news12 s12 ⟨n, t, pv, cv, rfl, hm, hn0, hn1, hck⟩ F12 N12 hb12 ho12
    obtain ⟨heap12, gens12, drawn12, toks12, os12⟩ := s12
    have F13 := fr_cast F12 hm
    clear F12 F10 N10 hm
    rw [List.drop_length] at hck
    simp only [chkL] at hck
    (try dsimp only)
    k_steps
    exact hret _ _ _ ⟨rfl, by rw [← hck]⟩ (by k_asm) (by k_asm) hb12 ho12
end Mine
end
section
open PySem PySem.W PyProof.Rows PySem.Calls PySem.Spec PyProof.Rows.LCg
set_option maxRecDepth 100000
namespace Mine
section
variable {prog : Program} {w : World} {A : Around} {E : Value → Shared → Prop} {s : Shared} {h₀ : Heap} {L l : Addr} {m : Str → Option Value} {news : List (Addr × Obj)} {value slice : PySem.Expr} {vs : List Value} {ss : List Str} {c : Nat} {vl vu : Value} {Q : Value → Shared → Prop}
theorem StrV.take {a : List Value} {x : List Str} (h : StrV a x) : ∀ k, StrV (a.take k) (x.take k) := by
  induction h with
  | nil => intro k; simp; exact .nil
  | cons t _ ih => intro k; cases k with
    | zero => exact .nil
    | succ k => exact .cons t (ih k)
theorem StrV.drop {a : List Value} {x : List Str} (h : StrV a x) : ∀ k, StrV (a.drop k) (x.drop k) := by
  induction h with
  | nil => intro k; simp; exact .nil
  | cons t h ih => intro k; cases k with
    | zero => exact .cons t h
    | succ k => exact ih k
theorem StrV.strsAre {a : List Value} {x : List Str} (h : StrV a x) : StrsAre a x := by
  induction h with
  | nil => exact .nil
  | cons t _ ih => exact .cons _ _ ih
theorem clip_nat {x : Int} (hx : 0 ≤ x) (n : Nat) : max 0 (min x (n : Int)) = ((min x.toNat n : Nat) : Int) := by
  obtain ⟨m, rfl⟩ := Int.eq_ofNat_of_zero_le hx
  rw [Int.toNat_natCast]
  rcases Nat.le_total m n with h | h
  · rw [Nat.min_eq_left h, Int.min_eq_left (Int.ofNat_le.mpr h), Int.max_eq_right (Int.natCast_nonneg m)]
  · rw [Nat.min_eq_right h, Int.min_eq_right (Int.ofNat_le.mpr h), Int.max_eq_right (Int.natCast_nonneg n)]
theorem sl_from (F : Fr h₀ L s.heap m) (N : News h₀ L s.heap news) (hl : (l, W.listOf vs.toArray c) ∈ news) (hv : StrV vs ss) {x : Int} (hx : 0 ≤ x) {t : Tok}
    (h : ∀ D us h', Fr h₀ L h' m → News h₀ L h' ((D, W.listOf (List.toArray us) 0) :: news) → (∀ p ∈ news, p.1 < D) → StrV us (ss.drop x.toNat) → Q (.ref D) { s with heap := h' })
    (hs : subscripted slice false (.ref l) (.ref s.heap.objs.size) = operate [.ref s.heap.objs.size, .ref l] (getItem (.ref l) (.ref s.heap.objs.size))) (ht : ∀ r, letTemporaryGo value (.ref l) r = pure ()) (hz : vs.length ≤ 1000) :
    wpAny (model prog w) A (subscriptTail value slice (.ref l) (.ref s.heap.objs.size)) Q E { s with heap := s.heap.push { cls := .type "slice", data := .fields #[.int x t, .none, .none] } } := by
  refine kmk_slice F N (N.isList hl) (IsPart.int _ _) IsPart.none (fun D h' F' N' l1 => h D (vs.drop x.toNat) h' F' ?_ l1 (hv.drop _)) hs ht (by rw [List.size_toArray]; exact Nat.le_trans hz (by decide))
  have e : sliceBounds (some x) none none vs.toArray.size = (((min x.toNat vs.toArray.size : Nat) : Int), ((vs.toArray.size : Nat) : Int), 1) := by
    simp only [sliceBounds, Option.getD_none, show (1 : Int) > 0 by decide, if_true, if_neg (Int.not_lt.mpr hx)]
    congr 1
    first | exact clip_nat hx _ | omega
  rw [kmk_pick_nat _ e] at N'
  rw [List.size_toArray] at N'
  have e2 : (vs.toArray.toList.drop (min x.toNat vs.length)).take (vs.length - min x.toNat vs.length) = vs.drop x.toNat := by
    show (vs.drop (min x.toNat vs.length)).take _ = _
    rw [kmk_drop_min, List.take_of_length_le (by rw [List.length_drop]; omega)]
  rw [e2] at N'
  exact N'
theorem sl_upto (F : Fr h₀ L s.heap m) (N : News h₀ L s.heap news) (hl : (l, W.listOf vs.toArray c) ∈ news) (hv : StrV vs ss) {y : Int} (hy : 0 ≤ y) {t : Tok}
    (h : ∀ D us h', Fr h₀ L h' m → News h₀ L h' ((D, W.listOf (List.toArray us) 0) :: news) → (∀ p ∈ news, p.1 < D) → StrV us (ss.take y.toNat) → Q (.ref D) { s with heap := h' })
    (hs : subscripted slice false (.ref l) (.ref s.heap.objs.size) = operate [.ref s.heap.objs.size, .ref l] (getItem (.ref l) (.ref s.heap.objs.size))) (ht : ∀ r, letTemporaryGo value (.ref l) r = pure ()) (hz : vs.length ≤ 1000) :
    wpAny (model prog w) A (subscriptTail value slice (.ref l) (.ref s.heap.objs.size)) Q E { s with heap := s.heap.push { cls := .type "slice", data := .fields #[.none, .int y t, .none] } } := by
  refine kmk_slice F N (N.isList hl) IsPart.none (IsPart.int _ _) (fun D h' F' N' l1 => h D (vs.take y.toNat) h' F' ?_ l1 (hv.take _)) hs ht (by rw [List.size_toArray]; exact Nat.le_trans hz (by decide))
  have e : sliceBounds none (some y) none vs.toArray.size = (((0 : Nat) : Int), ((min y.toNat vs.toArray.size : Nat) : Int), 1) := by
    simp only [sliceBounds, Option.getD_none, show (1 : Int) > 0 by decide, if_true, if_neg (Int.not_lt.mpr hy)]
    congr 1
    congr 1
    first | exact clip_nat hy _ | omega
  rw [kmk_pick_nat _ e] at N'
  rw [List.size_toArray] at N'
  have e2 : (vs.toArray.toList.drop 0).take (min y.toNat vs.length - 0) = vs.take y.toNat := by
    show (vs.drop 0).take _ = _
    rw [List.drop_zero, Nat.sub_zero, kmk_take_min]
  rw [e2] at N'
  exact N'
theorem min_sub_min (a b n : Nat) : min b n - min a n = min b n - a := by
  rcases Nat.le_total a n with h | h
  · rw [Nat.min_eq_left h]
  · rw [Nat.min_eq_right h, Nat.sub_eq_zero_of_le (Nat.min_le_right _ _), Nat.sub_eq_zero_of_le (Nat.le_trans (Nat.min_le_right _ _) h)]
theorem sl_run (F : Fr h₀ L s.heap m) (N : News h₀ L s.heap news) (hl : (l, W.listOf vs.toArray c) ∈ news) (hv : StrV vs ss) {x y : Int} (hx : 0 ≤ x) (hy : 0 ≤ y) {t u : Tok}
    (h : ∀ D us h', Fr h₀ L h' m → News h₀ L h' ((D, W.listOf (List.toArray us) 0) :: news) → (∀ p ∈ news, p.1 < D) → StrV us ((ss.drop x.toNat).take (min y.toNat ss.length - x.toNat)) → Q (.ref D) { s with heap := h' })
    (hs : subscripted slice false (.ref l) (.ref s.heap.objs.size) = operate [.ref s.heap.objs.size, .ref l] (getItem (.ref l) (.ref s.heap.objs.size))) (ht : ∀ r, letTemporaryGo value (.ref l) r = pure ()) (hz : vs.length ≤ 1000) :
    wpAny (model prog w) A (subscriptTail value slice (.ref l) (.ref s.heap.objs.size)) Q E { s with heap := s.heap.push { cls := .type "slice", data := .fields #[.int x t, .int y u, .none] } } := by
  refine kmk_slice F N (N.isList hl) (IsPart.int _ _) (IsPart.int _ _) (fun D h' F' N' l1 => h D ((vs.drop x.toNat).take (min y.toNat ss.length - x.toNat)) h' F' ?_ l1 ((hv.drop _).take _)) hs ht (by rw [List.size_toArray]; exact Nat.le_trans hz (by decide))
  have e : sliceBounds (some x) (some y) none vs.toArray.size = (((min x.toNat vs.toArray.size : Nat) : Int), ((min y.toNat vs.toArray.size : Nat) : Int), 1) := by
    simp only [sliceBounds, Option.getD_none, show (1 : Int) > 0 by decide, if_true, if_neg (Int.not_lt.mpr hx), if_neg (Int.not_lt.mpr hy)]
    congr 1
    · first | exact clip_nat hx _ | omega
    · congr 1
      first | exact clip_nat hy _ | omega
  rw [kmk_pick_nat _ e] at N'
  rw [List.size_toArray] at N'
  have e2 : (vs.toArray.toList.drop (min x.toNat vs.length)).take (min y.toNat vs.length - min x.toNat vs.length) = (vs.drop x.toNat).take (min y.toNat ss.length - x.toNat) := by
    show (vs.drop (min x.toNat vs.length)).take _ = _
    rw [kmk_drop_min, hv.length, min_sub_min]
  rw [e2] at N'
  exact N'
theorem ad_SV {a b : Addr} {us : List Value} {rs : List Str} {c2 : Nat} (F : Fr h₀ L s.heap m) (N : News h₀ L s.heap news) (ha : (a, W.listOf vs.toArray c) ∈ news) (hb : (b, W.listOf us.toArray c2) ∈ news) (hv : StrV vs ss) (hu : StrV us rs) (hz : ss.length ≤ 1000) (hz2 : rs.length ≤ 1000)
    (h : ∀ D zs h', Fr h₀ L h' m → News h₀ L h' ((D, W.listOf (List.toArray zs) 0) :: news) → (∀ p ∈ news, p.1 < D) → StrV zs (ss ++ rs) → Q (.ref D) { s with heap := h' }) :
    wpAny (model prog w) A (binaryOp .Add (.ref a) (.ref b)) Q E s :=
  kmk_add_lit F N (N.isList ha) (N.isList hb) rfl (fun D h' F' N' l1 => h D (vs ++ us) h' F' N' l1 (hv.append hu)) (Nat.le_trans (show vs.length + us.length ≤ 2000 by rw [hv.length, hu.length]; omega) (by decide))
theorem jn_SV {x : Str} {t : Tok} {D : Addr} (N : News h₀ L s.heap news) (hl : (D, W.listOf vs.toArray c) ∈ news) (hv : StrV vs ss) (hx : x.length ≤ 16) (hw : (ss.map (·.length)).sum + ss.length ≤ 1048576)
    (h : ∀ t' k, Q (.str (Txt.join x ss) t') { s with toks := k }) : wpAny (model prog w) A (call (.builtin "str.join") [.str x t, .ref D]) Q E s :=
  join_listW (N.isList hl) hv.strsAre hx hw h
end
theorem sum_small : ∀ (l : List Str), (∀ p ∈ l, p.length ≤ 10) → (l.map (·.length)).sum ≤ 10 * l.length := by
  intro l
  induction l with
  | nil => intro _; simp
  | cons a r ih =>
    intro h
    have h1 := h a (.head _)
    have h2 := ih fun p hp => h p (.tail _ hp)
    simp only [List.map_cons, List.sum_cons, List.length_cons]
    first | exact clip_nat hy _ | omega
theorem jn_ok {ps ss : List Str} (pz : ∀ p ∈ ps, p.length ≤ 10) (h : ∀ p ∈ ss, p ∈ ps) (hl : ss.length ≤ 1000) : (ss.map (·.length)).sum + ss.length ≤ 1048576 := by
  have := sum_small ss fun p hp => pz p (h p hp)
  omega
noncomputable def brStmt : Stmt := sAt PP.main.body 18
noncomputable def brFor : Stmt := sAt (fdBody brStmt) 1
noncomputable abbrev brName : Str := Str.ofString "_law_by_brackets"
noncomputable abbrev brEnv (L : Addr) : Env := envOf brName (fdScope brStmt) L 168 (.ref 167)
noncomputable def takenB (t : Str) : Bool := chkL 0 (yldL 0 false (stripS t).cps.toList)
noncomputable def rowT (ps : List Str) (i : Nat) : Str := Txt.join (Str.ofString "") (ps.drop i ++ ps.take i)
noncomputable def segT (ps : List Str) (j i : Nat) : Str := Txt.join (Str.ofString "") ((ps.drop j).take (i + 1 - j))
noncomputable def heldL : Nat → List (Bool × Int) → List (Str × Int) → List (Nat × (Str × Int))
  | k, (true, _) :: t, r :: up => (k, r) :: heldL (k + 1) t up
  | k, (false, _) :: t, up => heldL (k + 1) t up
  | _, _, _ => []
inductive HeldR : List (Int × Value) → List (Nat × (Str × Int)) → Prop
  | nil : HeldR [] []
  | cons {j : Nat} {r : Str} {n : Int} {kvs : List (Int × Value)} {hl : List (Nat × (Str × Int))} (t : Tok) : RepF r n → 0 ≤ n → n ≤ 400 → HeldR kvs hl → HeldR (((j : Int), .str r t) :: kvs) ((j, (r, n)) :: hl)
theorem HeldR.append {a b : List (Int × Value)} {x y : List (Nat × (Str × Int))} (h : HeldR a x) (k : HeldR b y) : HeldR (a ++ b) (x ++ y) := by
  induction h with
  | nil => exact k
  | cons t h1 h2 h3 _ ih => exact .cons t h1 h2 h3 ih
theorem HeldR.length {a : List (Int × Value)} {x : List (Nat × (Str × Int))} (h : HeldR a x) : a.length = x.length := by
  induction h with
  | nil => rfl
  | cons t h1 h2 h3 _ ih => simp [ih]
theorem HeldR.at {a : List (Int × Value)} {x : List (Nat × (Str × Int))} (h : HeldR a x) {j : Nat} {r : Str} {n : Int} (hx : x.lookup j = some (r, n)) : ∃ t, valueAt a (j : Int) = some (.str r t) ∧ RepF r n ∧ 0 ≤ n ∧ n ≤ 400 := by
  induction h with
  | nil => simp at hx
  | @cons j' r' n' kvs hl t h1 h2 h3 _ ih =>
    by_cases e : j = j'
    · subst e
      simp [List.lookup] at hx
      obtain ⟨rfl, rfl⟩ := hx
      exact ⟨t, by simp [valueAt], h1, h2, h3⟩
    · have hb : (j == j') = false := by simpa using e
      simp only [List.lookup, hb] at hx
      obtain ⟨t', e1, e2⟩ := ih hx
      refine ⟨t', ?_, e2⟩
      rw [← e1]
      have : ¬ ((j' : Int) = (j : Int)) := fun q => e (by omega)
      simp [valueAt, List.find?, this]
theorem HeldR.none {a : List (Int × Value)} {x : List (Nat × (Str × Int))} (h : HeldR a x) {j : Nat} (hx : ∀ p ∈ x, p.1 ≠ j) : valueAt a (j : Int) = none := by
  induction h with
  | nil => rfl
  | @cons j' r' n' kvs hl t h1 h2 h3 _ ih =>
    have e : j' ≠ j := hx _ (.head _)
    have : ¬ ((j' : Int) = (j : Int)) := fun q => e (by omega)
    have := ih fun p hp => hx p (.tail _ hp)
    simp only [valueAt, List.find?] at this ⊢
    rw [decide_eq_false ‹_›]
    exact this
theorem heldL_lt : ∀ (hs : List (Bool × Int)) (k : Nat) (up : List (Str × Int)), ∀ p ∈ heldL k hs up, k ≤ p.1 ∧ p.1 < k + hs.length := by
  intro hs
  induction hs with
  | nil => intro k up p hp; simp [heldL] at hp
  | cons h t ih =>
    intro k up p hp
    obtain ⟨b, n⟩ := h
    cases b with
    | true =>
      cases up with
      | nil => simp [heldL] at hp
      | cons r up =>
        simp only [heldL, List.mem_cons] at hp
        rcases hp with rfl | hp
        · simp
        · have := ih _ _ p hp; simp only [List.length_cons]; omega
    | false =>
      simp only [heldL] at hp
      have := ih _ _ p hp
      simp only [List.length_cons]; omega
end Mine
end
theorem Mine.calmCWait : True := by w_top off; first | walk1 | trivial
section
open PySem PySem.W PyProof.Rows PySem.Calls PySem.Spec
set_option maxRecDepth 100000
namespace Mine
def m9l5 : Lean.MacroM (Lean.TSyntax `tactic) := `(tactic| simp [Txt.item, Str.length])
def m9e29 : Lean.MacroM (Lean.TSyntax `tactic) := Mine.t9rf "KSpl.split1 %0 %1 %2 ?_ ?hsz" [(Mine.m9e13), (Mine.m9e13), (Mine.m9l5)]
def m9e30 : Lean.MacroM (Lean.TSyntax `tactic) := Mine.t9kw "tacticSize_fits size_fits"
def m9l6 : Lean.MacroM (Lean.TSyntax `tactic) := `(tactic| replace e' := split_use (by assumption) e')
def m9e31 : Lean.MacroM (Lean.TSyntax `tactic) := Mine.t9kw "PySem.W.tacticKspl_open_ kspl_open ~e'"
def m9l7 : Lean.MacroM (Lean.TSyntax `tactic) := `(tactic| simp only [strValues, List.map_cons, List.map_nil] at N' a')
def m9k15 : Lean.MacroM (Lean.TSyntax `tactic) := Mine.t9seq [Mine.m9e29, Mine.t9case "hsz" (Mine.m9e30), Mine.t9intro "D' l' h' k' e' a' F' N' l1", Mine.t9try (Mine.m9e27), Mine.m9l6, Mine.m9e31, Mine.m9l7]
local macro_rules | `(tactic| walk_at $s) => Mine.mw s [("ite", Mine.m9k6), ("call builtin:str.split", Mine.m9k15)]
set_option maxHeartbeats 8000000 in
theorem c_wait (w : World) (resp : Str) (t : Tok) (now : Int) (ot : Tok) (news : List (Addr × Obj)) (n : Int) :
   CC 30 w 154 news (RepF resp n ∧ 0 ≤ now ∧ now ≤ 400 ∧ 0 ≤ n ∧ n ≤ 400) [.str resp t, .int now ot] (fun v news' => news' = news ∧ ∃ t, v = .int (now - n) t) := by
  have l9 : Mine.Lead9 := trivial
  have l0 : Mine.Lead0 := trivial
  revert w resp t now ot news n
  intro w resp t now ot news n
  rename Mine.Lead0 => l0; clear l0
  dsimp only [CC, PP, KK]
  k_fill
  intro loose mean mg mb dp un gd cn cs a ccd cl outer A₀ base h₀ L m s Q B F X N T hk hp hd hu hb hret
  obtain ⟨hr9, h0, h4, n0, n4⟩ := hp
  obtain ⟨lo, hi, sl, f1, f3, ne, hd9⟩ := hr9
  obtain ⟨d, sp, hint, dl⟩ := hd9
  k_dflt cell_enter
  k_steps
  all_goals (refine hret _ _ _ ⟨rfl, _, rfl⟩ ?_ ?_ hb rfl)
  all_goals first | k_asm | (refine cb_drop (by assumption) ?_; kcj_all)
end Mine
end
section
open PySem PySem.W PyProof.Rows PySem.Calls PySem.Spec PyProof.Rows.LCg
set_option maxRecDepth 100000
namespace Mine
open PySem.Sem (wp)
theorem z3_typeCall (a b c : Value) : checkTypeCall "zip" ⟨[a, b, c], []⟩ = pure () := by kernel_rfl
theorem z3_newCall (a b c : Value) : checkBuiltinCall "zip.__new__" ⟨[.type "zip", a, b, c], []⟩ = pure () := by kernel_rfl
theorem z3_init (a b c d : Value) : argsOk "object.__init__" ⟨[a, b, c, d], []⟩ := by
  unfold argsOk; rw [signature?_of (id := "object.__init__") (n := ['_', '_', 't', 'i', 'n', 'i', '_', '_']) (o := ['t', 'c', 'e', 'j', 'b', 'o']) (by kernel_rfl) F.owner_object]; kernel_rfl
noncomputable abbrev zObj (f0 : Value) (n : Addr) : Obj := { cls := .type "zip", dict := none, data := .fields #[f0, .bool false, .bool false, .ref (n + 3), .ref (n + 4)], slots := #[] }
noncomputable abbrev tup3 (a b c : Value) : Obj := { cls := .type "tuple", data := .seq #[a, b, c] }
noncomputable abbrev z3H1 (h : Heap) (l1 : Addr) : Heap := h.push { cls := .type "list_iterator", data := .fields #[.ref l1, .int 0 0] }
noncomputable abbrev z3H2 (h : Heap) (l1 l2 : Addr) : Heap := (z3H1 h l1).push { cls := .type "list_iterator", data := .fields #[.ref l2, .int 0 0] }
noncomputable abbrev z3H3 (h : Heap) (l1 l2 l3 : Addr) : Heap := (z3H2 h l1 l2).push { cls := .type "list_iterator", data := .fields #[.ref l3, .int 0 0] }
noncomputable abbrev z3H4 (h : Heap) (l1 l2 l3 : Addr) : Heap := (z3H3 h l1 l2 l3).push { cls := .type "tuple", data := .seq #[.ref h.objs.size, .ref (z3H1 h l1).objs.size, .ref (z3H2 h l1 l2).objs.size] }
noncomputable abbrev z3H5 (h : Heap) (l1 l2 l3 : Addr) : Heap := (z3H4 h l1 l2 l3).push { cls := .type "tuple", data := .seq #[.none, .none, .none] }
noncomputable abbrev z3H6 (h : Heap) (l1 l2 l3 : Addr) : Heap := (z3H5 h l1 l2 l3).push { cls := .type "zip", data := .fields #[.none, .bool false, .bool false, .ref (z3H3 h l1 l2 l3).objs.size, .ref (z3H4 h l1 l2 l3).objs.size] }
set_option maxHeartbeats 8000000 in
theorem z3_new (l1 l2 l3 : Addr) (xs ys zs : Array Value) :
    Meets (Builtin.«zip.__new__» ⟨[.type "zip", .ref l1, .ref l2, .ref l3], []⟩) (fun _ R s => s.heap.IsList l1 xs ∧ s.heap.IsList l2 ys ∧ s.heap.IsList l3 zs ∧
      R (.ok (.ret (.ref (z3H5 s.heap l1 l2 l3).objs.size))) { s with heap := z3H6 s.heap l1 l2 l3 }) :=
  .of_wp fun prog w A R s h => by
    obtain ⟨hp, g, d, tk, os⟩ := s; obtain ⟨hl1, hl2, hl3, h⟩ := h
    have hsub := sub_zip
    have hL1 : Heap.IsList (Shared.heap ⟨hp, g, d, tk, os⟩) l1 xs := hl1
    have hL2 : Heap.IsList (Shared.heap ⟨z3H1 hp l1, g, d, tk, os⟩) l2 ys := Heap.IsList.push hl2 _
    have hL3 : Heap.IsList (Shared.heap ⟨z3H2 hp l1 l2, g, d, tk, os⟩) l3 zs := Heap.IsList.push (Heap.IsList.push hl3 _) _
    wp_walk using wpAny_pyIter_list hL1, wpAny_pyIter_list hL2, wpAny_pyIter_list hL3
    exact ⟨_, rfl, h⟩
structure Z3 (h : Heap) (n : Addr) (f0 t0 t1 t2 : Value) (l1 l2 l3 : Addr) (k1 k2 k3 : Nat) : Prop where
  z : h.get? (n + 5) = some (zObj f0 n)
  ti : h.get? (n + 3) = some (tup3 (.ref n) (.ref (n + 1)) (.ref (n + 2)))
  to : h.get? (n + 4) = some (tup3 t0 t1 t2)
  i1 : h.IsListIter n l1 k1
  i2 : h.IsListIter (n + 1) l2 k2
  i3 : h.IsListIter (n + 2) l3 k3
noncomputable def Off6 (n : Addr) (h h' : Heap) : Prop := ∀ c o, (∀ j, j < 6 → c ≠ n + j) → h.get? c = some o → h'.get? c = some o
section
variable {prog : Program} {w : World} {A : Around} {E : Value → Shared → Prop} {s : Shared} {n l1 l2 l3 : Addr} {k1 k2 k3 : Nat} {xs ys zs : Array Value} {f0 t0 t1 t2 x y z : Value}
theorem neA {a b : Nat} (h : a ≠ b) (n : Addr) : @Ne Addr (n + a) (n + b) := fun e => h (Nat.add_left_cancel e)
theorem neA0 {a : Nat} (h : 0 ≠ a) (n : Addr) : @Ne Addr n (n + a) := fun e => h (Nat.add_left_cancel (k := a) (show n + 0 = n + a from e))
theorem Z3.setZ {h h' : Heap} {f1 : Value} (H : Z3 h n f0 t0 t1 t2 l1 l2 l3 k1 k2 k3) (e : h'.get? (n + 5) = some (zObj f1 n)) (hs : Heap.SameBut (n + 5) h h') : Z3 h' n f1 t0 t1 t2 l1 l2 l3 k1 k2 k3 :=
  ⟨e, hs.extBut _ _ (neA (by decide) n) H.ti, hs.extBut _ _ (neA (by decide) n) H.to, H.i1.extBut hs.extBut (neA0 (by decide) n), H.i2.extBut hs.extBut (neA (by decide) n), H.i3.extBut hs.extBut (neA (by decide) n)⟩
theorem Z3.setT {h h' : Heap} {u0 u1 u2 : Value} (H : Z3 h n f0 t0 t1 t2 l1 l2 l3 k1 k2 k3) (e : h'.get? (n + 4) = some (tup3 u0 u1 u2)) (hs : Heap.SameBut (n + 4) h h') : Z3 h' n f0 u0 u1 u2 l1 l2 l3 k1 k2 k3 :=
  ⟨hs.extBut _ _ (neA (by decide) n) H.z, hs.extBut _ _ (neA (by decide) n) H.ti, e, H.i1.extBut hs.extBut (neA0 (by decide) n), H.i2.extBut hs.extBut (neA (by decide) n), H.i3.extBut hs.extBut (neA (by decide) n)⟩
theorem Z3.set1 {h h' : Heap} (H : Z3 h n f0 t0 t1 t2 l1 l2 l3 k1 k2 k3) (e : h'.IsListIter n l1 (k1 + 1)) (hs : Heap.SameBut n h h') : Z3 h' n f0 t0 t1 t2 l1 l2 l3 (k1 + 1) k2 k3 :=
  ⟨hs.extBut _ _ (Ne.symm (neA0 (by decide) n)) H.z, hs.extBut _ _ (Ne.symm (neA0 (by decide) n)) H.ti, hs.extBut _ _ (Ne.symm (neA0 (by decide) n)) H.to, e, H.i2.extBut hs.extBut (Ne.symm (neA0 (by decide) n)), H.i3.extBut hs.extBut (Ne.symm (neA0 (by decide) n))⟩
theorem Z3.set2 {h h' : Heap} (H : Z3 h n f0 t0 t1 t2 l1 l2 l3 k1 k2 k3) (e : h'.IsListIter (n + 1) l2 (k2 + 1)) (hs : Heap.SameBut (n + 1) h h') : Z3 h' n f0 t0 t1 t2 l1 l2 l3 k1 (k2 + 1) k3 :=
  ⟨hs.extBut _ _ (neA (by decide) n) H.z, hs.extBut _ _ (neA (by decide) n) H.ti, hs.extBut _ _ (neA (by decide) n) H.to, H.i1.extBut hs.extBut (neA0 (by decide) n), e, H.i3.extBut hs.extBut (neA (by decide) n)⟩
theorem Z3.set3 {h h' : Heap} (H : Z3 h n f0 t0 t1 t2 l1 l2 l3 k1 k2 k3) (e : h'.IsListIter (n + 2) l3 (k3 + 1)) (hs : Heap.SameBut (n + 2) h h') : Z3 h' n f0 t0 t1 t2 l1 l2 l3 k1 k2 (k3 + 1) :=
  ⟨hs.extBut _ _ (neA (by decide) n) H.z, hs.extBut _ _ (neA (by decide) n) H.ti, hs.extBut _ _ (neA (by decide) n) H.to, H.i1.extBut hs.extBut (neA0 (by decide) n), H.i2.extBut hs.extBut (neA (by decide) n), e⟩
theorem Off6.trans {h h' h'' : Heap} (a : Off6 n h h') (b : Off6 n h' h'') : Off6 n h h'' := fun c o hc e => b c o hc (a c o hc e)
theorem Off6.of {h h' : Heap} {j : Nat} (hj : j < 6) (hs : Heap.SameBut (n + j) h h') : Off6 n h h' := fun c o hc e => hs.extBut c o (hc j hj) e
theorem z3_call {Q : Value → Shared → Prop} (hl1 : s.heap.IsList l1 xs) (hl2 : s.heap.IsList l2 ys) (hl3 : s.heap.IsList l3 zs)
    (h : ∀ h', Z3 h' s.heap.objs.size .none .none .none .none l1 l2 l3 0 0 0 → h'.objs.size = s.heap.objs.size + 6 → (∀ c o, s.heap.get? c = some o → h'.get? c = some o) → Q (.ref (s.heap.objs.size + 5)) { s with heap := h' }) :
    wpAny (model prog w) A (call (.type "zip") [.ref l1, .ref l2, .ref l3]) Q E s := by
  refine callType_new F.called_zip (by decide) (z3_typeCall _ _ _) (z3_newCall _ _ _) (fun obj => z3_init obj _ _ _) F.entry_zip_new (z3_new l1 l2 l3 xs ys zs) ⟨hl1, hl2, hl3, ?_⟩
  have e1 : (z3H1 s.heap l1).objs.size = s.heap.objs.size + 1 := Heap.size_push ..
  have e2 : (z3H2 s.heap l1 l2).objs.size = s.heap.objs.size + 2 := by rw [Heap.size_push, e1]
  have e3 : (z3H3 s.heap l1 l2 l3).objs.size = s.heap.objs.size + 3 := by rw [Heap.size_push, e2]
  have e4 : (z3H4 s.heap l1 l2 l3).objs.size = s.heap.objs.size + 4 := by rw [Heap.size_push, e3]
  have e5 : (z3H5 s.heap l1 l2 l3).objs.size = s.heap.objs.size + 5 := by rw [Heap.size_push, e4]
  have e6 : (z3H6 s.heap l1 l2 l3).objs.size = s.heap.objs.size + 6 := by rw [Heap.size_push, e5]
  have g6 : (z3H6 s.heap l1 l2 l3).get? (z3H5 s.heap l1 l2 l3).objs.size = some _ := Heap.get?_push_size _ rfl
  have g5 : (z3H6 s.heap l1 l2 l3).get? (z3H4 s.heap l1 l2 l3).objs.size = some _ := Heap.get?_push_of_some _ (Heap.get?_push_size _ rfl)
  have g4 : (z3H6 s.heap l1 l2 l3).get? (z3H3 s.heap l1 l2 l3).objs.size = some _ := Heap.get?_push_of_some _ (Heap.get?_push_of_some _ (Heap.get?_push_size _ rfl))
  have g3 : (z3H6 s.heap l1 l2 l3).get? (z3H2 s.heap l1 l2).objs.size = some _ := Heap.get?_push_of_some _ (Heap.get?_push_of_some _ (Heap.get?_push_of_some _ (Heap.get?_push_size _ rfl)))
  have g2 : (z3H6 s.heap l1 l2 l3).get? (z3H1 s.heap l1).objs.size = some _ := Heap.get?_push_of_some _ (Heap.get?_push_of_some _ (Heap.get?_push_of_some _ (Heap.get?_push_of_some _ (Heap.get?_push_size _ rfl))))
  have g1 : (z3H6 s.heap l1 l2 l3).get? s.heap.objs.size = some _ := Heap.get?_push_of_some _ (Heap.get?_push_of_some _ (Heap.get?_push_of_some _ (Heap.get?_push_of_some _ (Heap.get?_push_of_some _ (Heap.get?_push_size _ rfl)))))
  show _ ∧ _
  rw [e3, e4, e5] at g6
  rw [e1, e2, e3] at g4
  rw [e4] at g5
  rw [e2] at g3
  rw [e1] at g2
  rw [e5]
  exact ⟨⟨_, g6, rfl⟩, h _ ⟨g6, g4, g5, ⟨_, g1, rfl, rfl⟩, ⟨_, g2, rfl, rfl⟩, ⟨_, g3, rfl, rfl⟩⟩ e6 fun c o x =>
    Heap.get?_push_of_some _ (Heap.get?_push_of_some _ (Heap.get?_push_of_some _ (Heap.get?_push_of_some _ (Heap.get?_push_of_some _ (Heap.get?_push_of_some _ x)))))⟩
theorem Off6.list {h h' : Heap} {l : Addr} {xs : Array Value} (a : Off6 n h h') (hl : @LT.lt Nat _ l n) (H : h.IsList l xs) : h'.IsList l xs :=
  H.at fun o e => a l o (fun j _ => neN (Nat.ne_of_lt (Nat.lt_of_lt_of_le hl (Nat.le_add_right _ _)))) e
theorem wpAny_updateSeq_3 {T : Addr} {a b c x : Value} {k : Nat} {Q : Unit → Shared → Prop} (hT : s.heap.get? T = some (tup3 a b c))
    (h : ∀ h', h'.get? T = some { cls := .type "tuple", data := .seq ((#[a, b, c] : Array Value).setIfInBounds k x) } → Heap.SameBut T s.heap h' → Q () { s with heap := h' }) :
    wpAny (model prog w) A (updateSeq T (·.setIfInBounds k x)) Q E s := by
  refine wpAny_updateSeq hT rfl (h _ ?_ (Heap.SameBut.update ..))
  rw [Heap.get?_update_self _ hT rfl]
  simp [Obj.mapSeq]
theorem z3_next_item {Q : Value → Shared → Prop} (b1 : @LT.lt Nat _ l1 n) (b2 : @LT.lt Nat _ l2 n) (b3 : @LT.lt Nat _ l3 n) (H : Z3 s.heap n .none t0 t1 t2 l1 l2 l3 k1 k2 k3)
    (hl1 : s.heap.IsList l1 xs) (hl2 : s.heap.IsList l2 ys) (hl3 : s.heap.IsList l3 zs) (hx : xs[k1]? = some x) (hy : ys[k2]? = some y) (hz : zs[k3]? = some z)
    (hQ : ∀ h', Z3 h' n (rawInt s.heap.objs.size) x y z l1 l2 l3 (k1 + 1) (k2 + 1) (k3 + 1) → h'.get? s.heap.objs.size = some (tup3 x y z) → h'.objs.size = s.heap.objs.size + 1 → Off6 n s.heap h' → Q (.ref s.heap.objs.size) { s with heap := h' }) :
    wpAny (model prog w) A (Builtin.«zip.__next__» ⟨[.ref (n + 5)], []⟩) (fun fin s' => ∃ v, fin = .done (.ret v) ∧ Q v s') E s := by
  show wpAny _ _ (field (.ref (n + 5)) 2 >>= _) _ _ _
  refine wpAny_bind (wpAny_field H.z rfl (x := .bool false) rfl ?_)
  show wpAny _ _ (field (.ref (n + 5)) 3 >>= _) _ _ _
  refine wpAny_bind (wpAny_field H.z rfl (x := .ref (n + 3)) rfl ?_)
  refine wpAny_bind (wpAny_seqItems H.ti rfl ?_)
  show wpAny _ _ (Builtin.SmallTypes.ownedTupleIsFree (.ref (n + 5)) >>= _) _ _ _
  refine wpAny_bind ?_
  unfold Builtin.SmallTypes.ownedTupleIsFree
  refine wpAny_bind (wpAny_field H.z rfl (x := .none) rfl (wpAny_pure ?_))
  simp only [if_true]
  refine wpAny_bind (wpAny_rule ?_)
  refine wpAny_bind (wpAny_field H.z rfl (x := .ref (n + 4)) rfl ?_)
  refine wpAny_bind (wpAny_setField_rec H.z (by simp) fun h₁ hz₁ hs₁ => ?_)
  have H1 := H.setZ (f1 := .ellipsis) hz₁ hs₁
  have O1 := Off6.of (n := n) (j := 5) (by decide) hs₁
  refine wpAny_bind ?_
  simp only [List.zipIdx_cons, List.zipIdx_nil, List.forIn_cons, List.forIn_nil]
  refine wpAny_bind (wpAny_bind (wpAny_onRaise ?_))
  show wpAny _ _ (Builtin.SmallTypes.nextOf (.ref n) >>= _) _ _ _
  refine wpAny_bind (wpAny_nextOf_list_item H1.i1 (O1.list b1 hl1) hx fun h₂ e₂ hs₂ => wpAny_pure ?_)
  have H2 := H1.set1 e₂ hs₂
  have O2 := O1.trans (Off6.of (n := n) (j := 0) (by decide) hs₂)
  refine wpAny_bind (wpAny_seqItems H2.to rfl ?_)
  refine wpAny_bind (wpAny_updateSeq_3 H2.to fun h₃ e₃ hs₃ => ?_)
  have H3 := H2.setT (u0 := x) (u1 := t1) (u2 := t2) e₃ hs₃
  have O3 := O2.trans (Off6.of (n := n) (j := 4) (by decide) hs₃)
  refine wpAny_bind (wpAny_letGo (wpAny_pure ?_))
  refine wpAny_bind (wpAny_bind (wpAny_onRaise ?_))
  show wpAny _ _ (Builtin.SmallTypes.nextOf (.ref (n + 1)) >>= _) _ _ _
  refine wpAny_bind (wpAny_nextOf_list_item H3.i2 (O3.list b2 hl2) hy fun h₄ e₄ hs₄ => wpAny_pure ?_)
  have H4 := H3.set2 e₄ hs₄
  have O4 := O3.trans (Off6.of (n := n) (j := 1) (by decide) hs₄)
  refine wpAny_bind (wpAny_seqItems H4.to rfl ?_)
  refine wpAny_bind (wpAny_updateSeq_3 H4.to fun h₅ e₅ hs₅ => ?_)
  have H5 := H4.setT (u0 := x) (u1 := y) (u2 := t2) e₅ hs₅
  have O5 := O4.trans (Off6.of (n := n) (j := 4) (by decide) hs₅)
  refine wpAny_bind (wpAny_letGo (wpAny_pure ?_))
  refine wpAny_bind (wpAny_bind (wpAny_onRaise ?_))
  show wpAny _ _ (Builtin.SmallTypes.nextOf (.ref (n + 2)) >>= _) _ _ _
  refine wpAny_bind (wpAny_nextOf_list_item H5.i3 (O5.list b3 hl3) hz fun h₆ e₆ hs₆ => wpAny_pure ?_)
  have H6 := H5.set3 e₆ hs₆
  have O6 := O5.trans (Off6.of (n := n) (j := 2) (by decide) hs₆)
  refine wpAny_bind (wpAny_seqItems H6.to rfl ?_)
  refine wpAny_bind (wpAny_updateSeq_3 H6.to fun h₇ e₇ hs₇ => ?_)
  have H7 := H6.setT (u0 := x) (u1 := y) (u2 := z) e₇ hs₇
  have O7 := O6.trans (Off6.of (n := n) (j := 4) (by decide) hs₇)
  refine wpAny_bind (wpAny_letGo (wpAny_pure (wpAny_pure ?_)))
  refine wpAny_bind (wpAny_seqItems H7.to rfl ?_)
  refine wpAny_bind (wpAny_newTuple ?_)
  have hsz : h₇.objs.size = s.heap.objs.size := by rw [hs₇.1, hs₆.1, hs₅.1, hs₄.1, hs₃.1, hs₂.1, hs₁.1]
  have hlt : @LT.lt Nat _ (n + 5) h₇.objs.size := Heap.lt_size H7.z
  show wpAny _ _ (Builtin.SmallTypes.ownedTupleHandOut (.ref (n + 5)) (.ref h₇.objs.size) >>= _) _ _ _
  refine wpAny_bind ?_
  unfold Builtin.SmallTypes.ownedTupleHandOut
  have z8 : (h₇.push (tup3 x y z)).get? (n + 5) = some (zObj .ellipsis n) := Heap.get?_push_of_some _ H7.z
  refine wpAny_bind (wpAny_setField_rec z8 (by simp) fun h₈ hz₈ hs₈ => ?_)
  replace hz₈ : h₈.get? (n + 5) = some (zObj (rawInt h₇.objs.size) n) := hz₈
  refine wpAny_setField_rec hz₈ (by simp) fun h₉ hz₉ hs₉ => ?_
  replace hz₉ : h₉.get? (n + 5) = some (zObj (rawInt h₇.objs.size) n) := hz₉
  have up : ∀ c o, c ≠ n + 5 → h₇.get? c = some o → h₉.get? c = some o := fun c o c1 e => hs₉.extBut _ _ c1 (hs₈.extBut _ _ c1 (Heap.get?_push_of_some _ e))
  have hne : @Ne Addr h₇.objs.size (n + 5) := neN (Nat.ne_of_gt hlt)
  have hT₉ : h₉.get? h₇.objs.size = some (tup3 x y z) := hs₉.extBut _ _ hne (hs₈.extBut _ _ hne (Heap.get?_push_size _ rfl))
  have hz9 : h₉.objs.size = h₇.objs.size + 1 := by rw [hs₉.1, hs₈.1, Heap.size_push]
  have H9 : Z3 h₉ n (rawInt h₇.objs.size) x y z l1 l2 l3 (k1 + 1) (k2 + 1) (k3 + 1) :=
    ⟨hz₉, up _ _ (neA (by decide) n) H7.ti, up _ _ (neA (by decide) n) H7.to, H7.i1.at fun o e => up _ o (neA0 (by decide) n) e, H7.i2.at fun o e => up _ o (neA (by decide) n) e, H7.i3.at fun o e => up _ o (neA (by decide) n) e⟩
  rw [hsz] at hT₉ hz9 H9
  refine wpAny_pure ⟨_, rfl, ?_⟩
  show Q (.ref h₇.objs.size) _
  rw [hsz]
  exact hQ h₉ H9 hT₉ hz9 fun c o hc e => up c o (hc 5 (by decide)) (O7 c o hc e)
theorem z3_next_end {Q : Fin → Shared → Prop} (hh : A.handled = none) (b1 : @LT.lt Nat _ l1 n) (H : Z3 s.heap n .none t0 t1 t2 l1 l2 l3 k1 k2 k3)
    (hl1 : s.heap.IsList l1 xs) (hx : xs[k1]? = none)
    (hE : ∀ h' e, Off6 n s.heap h' → (∃ o, h'.get? e = some o ∧ o.cls = .type "StopIteration") → E (.ref e) { s with heap := h' }) :
    wpAny (model prog w) A (Builtin.«zip.__next__» ⟨[.ref (n + 5)], []⟩) Q E s := by
  show wpAny _ _ (field (.ref (n + 5)) 2 >>= _) _ _ _
  refine wpAny_bind (wpAny_field H.z rfl (x := .bool false) rfl ?_)
  show wpAny _ _ (field (.ref (n + 5)) 3 >>= _) _ _ _
  refine wpAny_bind (wpAny_field H.z rfl (x := .ref (n + 3)) rfl ?_)
  refine wpAny_bind (wpAny_seqItems H.ti rfl ?_)
  show wpAny _ _ (Builtin.SmallTypes.ownedTupleIsFree (.ref (n + 5)) >>= _) _ _ _
  refine wpAny_bind ?_
  unfold Builtin.SmallTypes.ownedTupleIsFree
  refine wpAny_bind (wpAny_field H.z rfl (x := .none) rfl (wpAny_pure ?_))
  simp only [if_true]
  refine wpAny_bind (wpAny_rule ?_)
  refine wpAny_bind (wpAny_field H.z rfl (x := .ref (n + 4)) rfl ?_)
  refine wpAny_bind (wpAny_setField_rec H.z (by simp) fun h₁ hz₁ hs₁ => ?_)
  have H1 := H.setZ (f1 := .ellipsis) hz₁ hs₁
  have O1 := Off6.of (n := n) (j := 5) (by decide) hs₁
  refine wpAny_bind ?_
  simp only [List.zipIdx_cons, List.zipIdx_nil, List.forIn_cons, List.forIn_nil]
  refine wpAny_bind (wpAny_bind (wpAny_onRaise ?_))
  show wpAny _ _ (Builtin.SmallTypes.nextOf (.ref n) >>= _) _ _ _
  refine wpAny_bind (wpAny_nextOf_list_end hh H1.i1 (O1.list b1 hl1) hx fun h₂ e hs₂ he => ?_)
  obtain ⟨oe, hoe, hce⟩ := he
  have hz₂ : h₂.get? (n + 5) = some (zObj .ellipsis n) := hs₂ _ _ (Ne.symm (neA0 (by decide) n)) H1.z
  have hez : e ≠ n + 5 := fun x => by subst x; rw [hz₂] at hoe; cases hoe; simp at hce
  refine wpAny_setField_rec hz₂ (by simp) fun h₃ _ hs₃ => hE h₃ e (fun c o hc x => hs₃.extBut _ _ (hc 5 (by decide)) (hs₂ _ _ (hc 0 (by decide)) (O1 c o hc x))) ⟨oe, hs₃.extBut _ _ hez hoe, hce⟩
theorem z3_pyNext_item {Q : Option Value → Shared → Prop} (b1 : @LT.lt Nat _ l1 n) (b2 : @LT.lt Nat _ l2 n) (b3 : @LT.lt Nat _ l3 n) (H : Z3 s.heap n .none t0 t1 t2 l1 l2 l3 k1 k2 k3)
    (hl1 : s.heap.IsList l1 xs) (hl2 : s.heap.IsList l2 ys) (hl3 : s.heap.IsList l3 zs) (hx : xs[k1]? = some x) (hy : ys[k2]? = some y) (hz : zs[k3]? = some z)
    (hQ : ∀ h', Z3 h' n (rawInt s.heap.objs.size) x y z l1 l2 l3 (k1 + 1) (k2 + 1) (k3 + 1) → h'.get? s.heap.objs.size = some (tup3 x y z) → h'.objs.size = s.heap.objs.size + 1 → Off6 n s.heap h' → Q (some (.ref s.heap.objs.size)) { s with heap := h' }) :
    wpAny (model prog w) A (pyNext (.ref (n + 5))) Q E s := by
  have hT : s.TypeIs (.ref (n + 5)) "zip" := ⟨_, H.z, rfl⟩
  unfold pyNext
  exact wpAny_bind (wpAny_attempt (wpAny_callSpecial?_slot (name := Str.ofString "__next__") hT F.slot_zip_next
    (wpAny_call_entry F.slot_zip_next hT F.entry_zip_next
      (z3_next_item b1 b2 b3 H hl1 hl2 hl3 hx hy hz fun h' a1 a2 a3 a4 => wpAny_pure (hQ h' a1 a2 a3 a4)) (F.args_zip_next_1 _))))
theorem z3_pyNext_end {Q : Option Value → Shared → Prop} (hh : A.handled = none) (b1 : @LT.lt Nat _ l1 n) (H : Z3 s.heap n .none t0 t1 t2 l1 l2 l3 k1 k2 k3)
    (hl1 : s.heap.IsList l1 xs) (hx : xs[k1]? = none) (hQ : ∀ h', Off6 n s.heap h' → Q none { s with heap := h' }) : wpAny (model prog w) A (pyNext (.ref (n + 5))) Q E s := by
  have hT : s.TypeIs (.ref (n + 5)) "zip" := ⟨_, H.z, rfl⟩
  unfold pyNext
  refine wpAny_bind (wpAny_attempt (wpAny_callSpecial?_slot (name := Str.ofString "__next__") hT F.slot_zip_next
    (wpAny_call_entry F.slot_zip_next hT F.entry_zip_next (z3_next_end hh b1 H hl1 hx fun h' e hk he => ?_) (F.args_zip_next_1 _))))
  obtain ⟨o, ho, hc⟩ := he
  refine wpAny_bind (wpAny_isInstance (T := "StopIteration") (b := true) ⟨o, ho, hc⟩ isSubtype_stop ?_)
  exact wpAny_pure (hQ _ hk)
end
end Mine
end
section
open PySem PySem.W PyProof.Rows PySem.Calls PySem.Spec PyProof.Rows.LCg
set_option maxRecDepth 100000
namespace Mine
section
variable {prog : Program} {w : World} {A : Around} {E : Value → Shared → Prop} {s : Shared} {elt target iter : PySem.Expr} {ifs : List PySem.Expr} {scope : Scope} {pos : Pos} {env : Env} {cl : List (Str × Addr)} {g : Heap} {L C : Addr} {m : Str → Option Value}
theorem z3_letGo {elts : List Expr} {x1} {tp : Pos} {n T : Addr} {Q : Unit → Shared → Prop} (hz : s.heap.get? (n + 5) = some (zObj (rawInt T) n))
    (hQ : ∀ h', h'.get? (n + 5) = some (zObj .none n) → Heap.SameBut (n + 5) s.heap h' → Q () { s with heap := h' }) :
    wpAny (model prog w) A (letOwnedTupleGo (.Tuple elts x1 tp) (.ref (n + 5)) (.ref T)) Q E s :=
  wpAny_letOwnedTupleGo_zip (TI := n + 3) (TO := n + 4) hz hQ
noncomputable def SZ3 (n l1 l2 l3 : Addr) (i : Nat) (its : List (Addr × Obj)) : Prop := ∃ (a b c : Value) (o1 o2 o3 : Obj), LIter o1 l1 i ∧ LIter o2 l2 i ∧ LIter o3 l3 i ∧
  its = [(n + 5, zObj .none n), (n + 3, tup3 (.ref n) (.ref (n + 1)) (.ref (n + 2))), (n + 4, tup3 a b c), (n, o1), (n + 1, o2), (n + 2, o3)]
noncomputable def VZ3 (xs ys zs : List Value) (i : Nat) (v : Value) (new : List (Addr × Obj)) : Prop := ∃ (x y z : Value) (T : Addr), xs[i]? = some x ∧ ys[i]? = some y ∧ zs[i]? = some z ∧ v = .ref T ∧ new = [(T, tup3 x y z)]
theorem sz3_z3 {n l1 l2 l3 : Addr} {i : Nat} {rest : List (Addr × Obj)} {a b c : Value} {o1 o2 o3 : Obj} {h : Heap} (h1 : LIter o1 l1 i) (h2 : LIter o2 l2 i) (h3 : LIter o3 l3 i)
    (N : News g C h ([(n + 5, zObj .none n), (n + 3, tup3 (.ref n) (.ref (n + 1)) (.ref (n + 2))), (n + 4, tup3 a b c), (n, o1), (n + 1, o2), (n + 2, o3)] ++ rest)) :
    Z3 h n .none a b c l1 l2 l3 i i i ∧ (∀ j, j < 6 → n + j ≠ C ∧ g.get? (n + j) = none) ∧ News g C h rest := by
  have Nz := N _ (.head _)
  have NTI := N _ (.tail _ (.head _))
  have NTO := N _ (.tail _ (.tail _ (.head _)))
  have N1 := N _ (.tail _ (.tail _ (.tail _ (.head _))))
  have N2 := N _ (.tail _ (.tail _ (.tail _ (.tail _ (.head _)))))
  have N3 := N _ (.tail _ (.tail _ (.tail _ (.tail _ (.tail _ (.head _))))))
  refine ⟨⟨Nz.1, NTI.1, NTO.1, ⟨o1, N1.1, h1.1, h1.2⟩, ⟨o2, N2.1, h2.1, h2.2⟩, ⟨o3, N3.1, h3.1, h3.2⟩⟩, fun j hj => ?_, fun p hp => N p (List.mem_append_right _ hp)⟩
  match j, hj with
  | 0, _ => exact N1.2
  | 1, _ => exact N2.2
  | 2, _ => exact N3.2
  | 3, _ => exact NTI.2
  | 4, _ => exact NTO.2
  | 5, _ => exact Nz.2
  | j + 6, h => exact absurd h (Nat.not_lt.mpr (Nat.le_add_left 6 j))
theorem sz3_off {n : Addr} {p : Addr × Obj} {a b c : Value} {o1 o2 o3 : Obj}
    (h : ∀ q ∈ [(n + 5, zObj .none n), (n + 3, tup3 (.ref n) (.ref (n + 1)) (.ref (n + 2))), (n + 4, tup3 a b c), (n, o1), (n + 1, o2), (n + 2, o3)], p.1 ≠ q.1) : ∀ j, j < 6 → p.1 ≠ n + j := by
  intro j hj
  match j, hj with
  | 0, _ => exact h _ (.tail _ (.tail _ (.tail _ (.head _))))
  | 1, _ => exact h _ (.tail _ (.tail _ (.tail _ (.tail _ (.head _)))))
  | 2, _ => exact h _ (.tail _ (.tail _ (.tail _ (.tail _ (.tail _ (.head _))))))
  | 3, _ => exact h _ (.tail _ (.head _))
  | 4, _ => exact h _ (.tail _ (.tail _ (.head _)))
  | 5, _ => exact h _ (.head _)
  | j + 6, h => exact absurd h (Nat.not_lt.mpr (Nat.le_add_left 6 j))
theorem fr_off6 {n : Addr} {h h' : Heap} (F : Fr g C h m) (off : ∀ j, j < 6 → n + j ≠ C ∧ g.get? (n + j) = none) (O : Off6 n h h') : Fr g C h' m :=
  ⟨F.ns.at' fun o e => O _ _ (fun j hj => Ne.symm (off j hj).1) e, fun b o e => O _ _ (fun j hj q => (by rw [q, (off j hj).2] at e; cases e)) (F.keep b o e), F.above⟩
theorem src_zip3 {elts : List PySem.Expr} {x1} {tp : Pos} {n l1 l2 l3 : Addr} {xs ys zs : List Value} {c1 c2 c3 k : Nat} (hh : A.handled = none) (b1 : @LT.lt Nat _ l1 n) (b2 : @LT.lt Nat _ l2 n) (b3 : @LT.lt Nat _ l3 n) (h1 : xs.length = k) (h2 : ys.length = k) (h3 : zs.length = k) :
    CSrc prog w A (.Tuple elts x1 tp) g C (.ref (n + 5)) k [(l1, W.listOf xs.toArray c1), (l2, W.listOf ys.toArray c2), (l3, W.listOf zs.toArray c3)] (SZ3 n l1 l2 l3) (VZ3 xs ys zs) where
  step := by
    rintro i its s m rest Q E hi ⟨a, b, c, o1, o2, o3, ho1, ho2, ho3, rfl⟩ hk hoff F N h
    obtain ⟨H, off, Nr⟩ := sz3_z3 ho1 ho2 ho3 N
    have hx : xs[i]? = some (xs[i]'(by omega)) := by simp
    have hy : ys[i]? = some (ys[i]'(by omega)) := by simp
    have hz : zs[i]? = some (zs[i]'(by omega)) := by simp
    refine z3_pyNext_item b1 b2 b3 H (Nr.isList (hk _ (.head _))) (Nr.isList (hk _ (.tail _ (.head _)))) (Nr.isList (hk _ (.tail _ (.tail _ (.head _))))) (by rw [List.getElem?_toArray]; exact hx) (by rw [List.getElem?_toArray]; exact hy) (by rw [List.getElem?_toArray]; exact hz) fun h' H' hT hsz O => ?_
    refine z3_letGo H'.z fun h2' e8 e9 => ?_
    have hs : ∀ (b : Addr) (o : Obj), s.heap.get? b = some o → b ≠ s.heap.objs.size := fun b o e => Nat.ne_of_lt (Heap.lt_size e)
    have O2 : Off6 n s.heap h2' := O.trans (Off6.of (j := 5) (by decide) e9)
    have H2 := H'.setZ e8 e9
    have hTz : s.heap.objs.size ≠ n + 5 := Ne.symm (hs _ _ H.z)
    have gN : ∀ c, s.heap.objs.size ≤ c → g.get? c = none := fun c hc => by
      cases e : g.get? c with
      | none => rfl
      | some o => exact absurd (Heap.lt_size (F.keep c o e)) (Nat.not_lt.mpr hc)
    have hC : C ≠ s.heap.objs.size := Nat.ne_of_lt F.ns.lt
    have F' : Fr g C h2' m := fr_off6 F off O2
    obtain ⟨p1, g1, q1, r1⟩ := H2.i1
    obtain ⟨p2, g2, q2, r2⟩ := H2.i2
    obtain ⟨p3, g3, q3, r3⟩ := H2.i3
    have hlt : ∀ j, j < 6 → n + j ≠ s.heap.objs.size := fun j hj => Nat.ne_of_lt (Nat.lt_of_le_of_lt (Nat.add_le_add_left (show j ≤ 5 from Nat.le_of_lt_succ hj) n) (Heap.lt_size H.z))
    refine h _ [(n + 5, zObj .none n), (n + 3, tup3 (.ref n) (.ref (n + 1)) (.ref (n + 2))), (n + 4, tup3 (xs[i]'(by omega)) (ys[i]'(by omega)) (zs[i]'(by omega))), (n, p1), (n + 1, p2), (n + 2, p3)] [(s.heap.objs.size, tup3 (xs[i]'(by omega)) (ys[i]'(by omega)) (zs[i]'(by omega)))] h2' _ ⟨_, _, _, _, hx, hy, hz, rfl, rfl⟩ ⟨_, _, _, p1, p2, p3, ⟨q1, r1⟩, ⟨q2, r2⟩, ⟨q3, r3⟩, rfl⟩ ?_ F' ?_
    · intro p hp
      obtain rfl := List.mem_singleton.mp hp
      refine ⟨F.ns.lt, ?_, fun q hq => Heap.lt_size (Nr q hq).1⟩
      intro q hq
      rcases List.mem_cons.mp hq with rfl | hq
      · exact hlt 5 (by decide)
      rcases List.mem_cons.mp hq with rfl | hq
      · exact hlt 3 (by decide)
      rcases List.mem_cons.mp hq with rfl | hq
      · exact hlt 4 (by decide)
      rcases List.mem_cons.mp hq with rfl | hq
      · exact hlt 0 (by decide)
      rcases List.mem_cons.mp hq with rfl | hq
      · exact hlt 1 (by decide)
      rcases List.mem_cons.mp hq with rfl | hq
      · exact hlt 2 (by decide)
      · cases hq
    · intro p hp
      rcases List.mem_cons.mp hp with rfl | hp
      · exact ⟨H2.z, off 5 (by decide)⟩
      rcases List.mem_cons.mp hp with rfl | hp
      · exact ⟨H2.ti, off 3 (by decide)⟩
      rcases List.mem_cons.mp hp with rfl | hp
      · exact ⟨H2.to, off 4 (by decide)⟩
      rcases List.mem_cons.mp hp with rfl | hp
      · exact ⟨g1, off 0 (by decide)⟩
      rcases List.mem_cons.mp hp with rfl | hp
      · exact ⟨g2, off 1 (by decide)⟩
      rcases List.mem_cons.mp hp with rfl | hp
      · exact ⟨g3, off 2 (by decide)⟩
      rcases List.mem_cons.mp hp with rfl | hp
      · exact ⟨e9.extBut _ _ hTz hT, Ne.symm hC, gN _ (Nat.le_refl _)⟩
      exact ⟨O2 _ _ (sz3_off (hoff p hp)) (Nr p hp).1, (Nr p hp).2⟩
  fin := by
    rintro its s m rest Q E ⟨a, b, c, o1, o2, o3, ho1, ho2, ho3, rfl⟩ hk hoff F N h
    obtain ⟨H, off, Nr⟩ := sz3_z3 ho1 ho2 ho3 N
    refine z3_pyNext_end hh b1 H (Nr.isList (hk _ (.head _))) (by simp [h1]) fun h' O => ?_
    exact h h' _ (fr_off6 F off O) fun p hp => ⟨O _ _ (sz3_off (hoff p hp)) (Nr p hp).1, (Nr p hp).2⟩
theorem zip3_list_K {l1 l2 l3 : Addr} {xs ys zs : List Value} {c1 c2 c3 : Nat} {news : List (Addr × Obj)} {Q : Value → Shared → Prop} (F : Fr g L s.heap m) (N : News g L s.heap news) (h1 : (l1, W.listOf xs.toArray c1) ∈ news) (h2 : (l2, W.listOf ys.toArray c2) ∈ news) (h3 : (l3, W.listOf zs.toArray c3) ∈ news)
    (h : ∀ n its h', @LT.lt Nat _ l1 n → @LT.lt Nat _ l2 n → @LT.lt Nat _ l3 n → SZ3 n l1 l2 l3 0 its → Fr g L h' m → News g L h' (its ++ news) → @LT.lt Nat _ L n → (∀ p ∈ news, @LT.lt Nat _ p.1 n) → Q (.ref (n + 5)) { s with heap := h' }) :
    wpAny (model prog w) A (call (.type "zip") [.ref l1, .ref l2, .ref l3]) Q E s := by
  refine z3_call (N.isList h1) (N.isList h2) (N.isList h3) fun h' H hsz hk => ?_
  obtain ⟨o1, e1, q1, r1⟩ := H.i1
  obtain ⟨o2, e2, q2, r2⟩ := H.i2
  obtain ⟨o3, e3, q3, r3⟩ := H.i3
  have gN : ∀ c, s.heap.objs.size ≤ c → g.get? c = none := fun c hc => by
    cases e : g.get? c with
    | none => rfl
    | some o => exact absurd (Heap.lt_size (F.keep c o e)) (Nat.not_lt.mpr hc)
  have hC : L < s.heap.objs.size := F.ns.lt
  have big : ∀ q, s.heap.objs.size ≤ q → q ≠ L ∧ g.get? q = none := fun q hq => ⟨neN (Nat.ne_of_gt (Nat.lt_of_lt_of_le hC hq)), gN q hq⟩
  refine h _ _ h' (Heap.lt_size (N _ h1).1) (Heap.lt_size (N _ h2).1) (Heap.lt_size (N _ h3).1) ⟨.none, .none, .none, o1, o2, o3, ⟨q1, r1⟩, ⟨q2, r2⟩, ⟨q3, r3⟩, rfl⟩ (F.keeps hk) ?_ hC fun p hp => Heap.lt_size (N p hp).1
  refine List.forall_mem_cons.mpr ⟨⟨H.z, big _ (Nat.le_add_right _ _)⟩, List.forall_mem_cons.mpr ⟨⟨H.ti, big _ (Nat.le_add_right _ _)⟩, List.forall_mem_cons.mpr ⟨⟨H.to, big _ (Nat.le_add_right _ _)⟩, List.forall_mem_cons.mpr ⟨⟨e1, big _ (Nat.le_refl _)⟩, List.forall_mem_cons.mpr ⟨⟨e2, big _ (Nat.le_add_right _ _)⟩, List.forall_mem_cons.mpr ⟨⟨e3, big _ (Nat.le_add_right _ _)⟩, fun p h => ⟨hk _ _ (N p h).1, (N p h).2⟩⟩⟩⟩⟩⟩⟩
theorem z3_pyIter {n : Addr} {f0 : Value} {Q : Value → Shared → Prop} (hz : s.heap.get? (n + 5) = some (zObj f0 n)) (h : Q (.ref (n + 5)) s) : wpAny (model prog w) A (pyIter (.ref (n + 5))) Q E s :=
  wpAny_pyIter_zip (TI := n + 3) (TO := n + 4) hz h
theorem h_zip3 {elts : List PySem.Expr} {x1} {tp : Pos} {n0 l1 l2 l3 : Addr} {xs ys zs : List Value} {c1 c2 c3 n : Nat} {its0 : List (Addr × Obj)} {os : OsState} {news0 : List (Addr × Obj)} (hh : A.handled = none) (b1 : @LT.lt Nat _ l1 n0) (b2 : @LT.lt Nat _ l2 n0) (b3 : @LT.lt Nat _ l3 n0) (hz0 : SZ3 n0 l1 l2 l3 0 its0)
    (h1 : xs.length = n) (h2 : ys.length = n) (h3 : zs.length = n) (hl1 : (l1, W.listOf xs.toArray c1) ∈ news0) (hl2 : (l2, W.listOf ys.toArray c2) ∈ news0) (hl3 : (l3, W.listOf zs.toArray c3) ∈ news0) (hLn : @LT.lt Nat _ L n0) (hnn : ∀ p ∈ news0, @LT.lt Nat _ p.1 n0) (hsz : n < 100000) (F : Fr g L s.heap m) (N : News g L s.heap (its0 ++ news0)) (hb : AllBare s.gens) (hos : s.os = os)
    (K : Nat → List Value → List (Addr × Obj) → Prop) (K0 : K 0 [] []) (turn : TurnG prog w A elt (.Tuple elts x1 tp) ifs scope env cl g L m os news0 n (VZ3 xs ys zs) K) :
    wpAny (model prog w) A (pyIter (.ref (n0 + 5))) (CompH prog w A elt (.Tuple elts x1 tp) iter ifs scope pos env cl g L m os news0 (K n)) E₀ s := by
  have hz9 := hz0
  obtain ⟨a0, b0, c0, o1, o2, o3, ho1, ho2, ho3, rfl⟩ := hz0
  have hNL : ∀ p ∈ news0, p.1 ≠ L := fun p hp => (N p (List.mem_append_right _ hp)).2.1
  refine z3_pyIter (N _ (.head _)).1 ?_
  refine ⟨_, F, N, (fun p hp => List.mem_append_right _ hp), fun D C oL h2' tk mC hLD hDC hn0 hoL FC NC => ?_⟩
  have h5D : @LT.lt Nat _ (n0 + 5) D := hn0 _ (.head _)
  have hfst : ∀ i its, SZ3 n0 l1 l2 l3 i its → ∀ q ∈ its, ∃ j, j < 6 ∧ q.1 = n0 + j := by
    rintro i its ⟨a, b, c, p1, p2, p3, -, -, -, rfl⟩ q hq
    simp only [List.mem_cons, List.mem_nil_iff, or_false] at hq
    rcases hq with h | h | h | h | h | h <;> subst h
    · exact ⟨5, by decide, rfl⟩
    · exact ⟨3, by decide, rfl⟩
    · exact ⟨4, by decide, rfl⟩
    · exact ⟨0, by decide, rfl⟩
    · exact ⟨1, by decide, rfl⟩
    · exact ⟨2, by decide, rfl⟩
  have loop := compX_loop (m := m) (prog := prog) (w := w) (A := A) (elt := elt) (iter := iter) (ifs := ifs) (scope := scope) (pos := pos) (env := compEnvC scope cl C env) (g := g) (C := C) (L := L) (D := D) (os := os) (news0 := news0) (K := K) (src_zip3 (elts := elts) (x1 := x1) (tp := tp) (c1 := c1) (c2 := c2) (c3 := c3) hh b1 b2 b3 h1 h2 h3) hsz
    (by
      exact List.forall_mem_cons.mpr ⟨hl1, List.forall_mem_cons.mpr ⟨hl2, List.forall_mem_cons.mpr ⟨hl3, List.forall_mem_nil _⟩⟩⟩) hDC hLD (fun p hp => hn0 p (List.mem_append_right _ hp)) (fun p hp => (N p (List.mem_append_right _ hp)).2.1)
    (fun i its hS q hq => by
      obtain ⟨j, hj, e⟩ := hfst i its hS q hq
      have e1 : @LE.le Nat _ n0 q.1 := e ▸ Nat.le_add_right _ _
      have e2 : @LE.le Nat _ q.1 (n0 + 5) := e ▸ Nat.add_le_add_left (show j ≤ 5 from Nat.le_of_lt_succ hj) n0
      exact ⟨Nat.lt_of_le_of_lt e2 h5D, neN (Nat.ne_of_gt (Nat.lt_of_lt_of_le hLn e1)), fun p hp => neN (Nat.ne_of_lt (Nat.lt_of_lt_of_le (hnn p hp) e1))⟩)
    (fun oL i v its new tus mC ys s E hoL hi hv hS hK ht hnew hoff F9 N hb hos => turn D C oL its i v new tus mC ys s E hoL F.above hLD hDC (fun p hp => hn0 p (List.mem_append_right _ hp)) hi hv hK ht (fun p hp => ⟨Nat.lt_trans hDC (hnew p hp).1, (hnew p hp).2⟩) hoff hNL F9 N hb hos)
    n 0 oL _ [] mC [] ⟨h2', s.gens, s.drawn, tk, s.os⟩ hoL (by omega) (Nat.le_refl _) hz9 K0 (fun _ h => absurd h List.not_mem_nil) FC (cb_drop NC (by
      intro p hp
      first
        | ((revert p hp); (try dsimp only [List.cons_append, List.nil_append]); (repeat' (first | with_reducible refine List.forall_mem_cons.mpr ⟨?_, ?_⟩ | with_reducible refine List.forall_mem_append.mpr ⟨?_, ?_⟩ | with_reducible exact List.forall_mem_nil _ | (intro _ _; ((repeat (first | with_reducible assumption | with_reducible exact List.mem_cons_self | (with_reducible refine List.mem_append_left _ ?_; (repeat (first | with_reducible exact List.mem_cons_self | with_reducible refine List.mem_cons_of_mem _ ?_ | with_reducible assumption)); done) | with_reducible refine List.mem_append_right _ ?_ | with_reducible refine List.mem_cons_of_mem _ ?_)); done)) | ((repeat (first | with_reducible assumption | with_reducible exact List.mem_cons_self | (with_reducible refine List.mem_append_left _ ?_; (repeat (first | with_reducible exact List.mem_cons_self | with_reducible refine List.mem_cons_of_mem _ ?_ | with_reducible assumption)); done) | with_reducible refine List.mem_append_right _ ?_ | with_reducible refine List.mem_cons_of_mem _ ?_)); done))); done)
        | (simp only [List.cons_append, List.nil_append, List.mem_cons] at hp ⊢; rcases hp with h | h | h | h | h | h | h | h | h <;> simp [h]))) hb hos
  exact codeAny_compStart_list loop (z3_pyIter (NC _ (.tail _ (.tail _ (.head _)))).1 loop)
end
end Mine
end
theorem Mine.calmCWritten : True := by w_top off; first | walk1 | trivial
section
open PySem PySem.W PyProof.Rows PySem.Calls PySem.Spec
set_option maxRecDepth 100000
namespace Mine
local macro_rules | `(tactic| walk_at $s) => Mine.mw s [("ite", Mine.m9k6)]
theorem empty_is : Str.ofString "" = ⟨#[]⟩ := by decide +kernel
noncomputable def escL (cs : List Nat) : List Nat := cs.flatMap fun c => [92, c]
theorem join_esc (cs : List Nat) : Txt.join (Str.ofString "") (cs.map (fun c => (⟨#[92, c]⟩ : Str))) = ⟨(escL cs).toArray⟩ := by
  unfold Txt.join
  rw [StrLaws.glued_eq_join, empty_is]
  induction cs with
  | nil => rfl
  | cons c r ih =>
    cases r with
    | nil => rfl
    | cons d r =>
      show Str.append (Str.append (⟨#[92, c]⟩ : Str) ⟨#[]⟩) (Str.join ⟨#[]⟩ ((d :: r).map (fun c => (⟨#[92, c]⟩ : Str)))) = _
      rw [ih]
      unfold Str.append escL
      simp
theorem escL_len (cs : List Nat) : (escL cs).length = 2 * cs.length := by
  induction cs with
  | nil => rfl
  | cons c r ih => unfold escL at *; simp [List.flatMap_cons, ih]; omega
theorem fold_len (l : List Str) (n : Nat) (hl : ∀ x ∈ l, x.length = 2) : l.toArray.foldl (fun a x => a + x.length + (Str.ofString "").length) n = n + 2 * l.length := by
  rw [List.foldl_toArray']
  · induction l generalizing n with
    | nil => rfl
    | cons x r ih =>
      rw [List.foldl_cons, ih _ (fun y hy => hl y (.tail _ hy)), hl x (.head _), empty_is, List.length_cons]
      show n + 2 + 0 + _ = _
      omega
  · rfl
theorem join_ok (cs : List Nat) (h : cs.length ≤ 1000) : JoinOk (Str.ofString "") (cs.map (fun c => (⟨#[92, c]⟩ : Str))) = true := by
  unfold JoinOk
  rw [fold_len _ _ (by intro x hx; obtain ⟨c, _, rfl⟩ := List.mem_map.mp hx; rfl), List.length_map]
  unfold Builtin.Str.tooLong
  have h2 : ¬ (0 + 2 * cs.length > sizeLine) := by rw [sizeLine_eq]; omega
  simp only [h2, decide_false, Bool.not_false]
def m9l8 : Lean.MacroM (Lean.TSyntax `tactic) := `(tactic| rfl)
def m9l9 : Lean.MacroM (Lean.TSyntax `tactic) := `(tactic| decide)
def m9k16 : Lean.MacroM (Lean.TSyntax `tactic) := Mine.t9seq [Mine.t9dflt (Mine.t9seq [Mine.t9ref "esc_comp_K" "hh F N r x ck cl a b c d e _", Mine.t9case "hh" (Mine.m9l8), Mine.t9case "F" (Mine.m9e13), Mine.t9case "N" (Mine.m9e13), Mine.t9case "r" (Mine.m9l8), Mine.t9case "x" (Mine.m9l4), Mine.t9case "ck" (Mine.m9l8), Mine.t9case "cl" (Mine.m9l8), Mine.t9case "a" (Mine.m9l9), Mine.t9case "b" (Mine.m9l9), Mine.t9case "c" (Mine.m9l8), Mine.t9case "d" (Mine.m9l9), Mine.t9case "e" (Mine.m9l8)]), Mine.t9intro "D' l' h' tk' e9 hl9 F' N'"]
local macro_rules | `(tactic| walk_at $s) => Mine.mw s [("eval ListComp", Mine.m9k16)]
theorem join_K {prog : Program} {w : World} {A : Around} {E : Value → Shared → Prop} {s : Shared} {t : Tok} {D : Addr} {l : List (Str × Tok)} {cs : List Nat} {Q : Value → Shared → Prop} (hl : s.heap.IsList D (strValues l).toArray) (ht : l.map (·.1) = cs.map (fun c => (⟨#[92, c]⟩ : Str))) (hc : cs.length ≤ 1000)
    (hq : ∀ t' k, (⟨(escL cs).toArray⟩ : Str).length ≤ 2000 → Q (.str ⟨(escL cs).toArray⟩ t') { s with toks := k }) : wpAny (model prog w) A (call (.builtin "str.join") [.str (Str.ofString "") t, .ref D]) Q E s :=
  SC.join hl ht (join_ok cs hc) (fun t' k => by rw [join_esc]; exact hq t' k (by show ((escL cs).toArray).size ≤ _; rw [List.size_toArray, escL_len]; omega))
def m9e32 : Lean.MacroM (Lean.TSyntax `tactic) := Mine.t9rw "Array.length_toList"
def m9e33 : Lean.MacroM (Lean.TSyntax `tactic) := Mine.t9simp "Str.length" "*"
def m9k17 : Lean.MacroM (Lean.TSyntax `tactic) := Mine.t9seq [Mine.t9dflt (Mine.t9seq [Mine.t9ref "join_K" "a b c _", Mine.t9case "a" (Mine.m9l3), Mine.t9case "b" (Mine.m9l3), Mine.t9case "c" (Mine.t9seq [Mine.m9e32, Mine.m9e33, Mine.m9l4])]), Mine.t9intro "t' k' hX9"]
local macro_rules | `(tactic| walk_at $s) => Mine.mw s [("call builtin:str.join", Mine.m9k17)]
theorem replace_T {prog : Program} {w : World} {A : Around} {E : Value → Shared → Prop} {s : Shared} {x y z : Str} {t u v : Tok} {Q : Value → Shared → Prop} (hu : @Ne Nat u 0) (hv : @Ne Nat v 0) (huv : @Ne Nat u v) (hyz : (y == z) = false) (hx : x.length ≤ 1048576) (hz : z.length ≤ 14)
    (hq : ∀ t' k, @LE.le Nat _ s.toks k → Q (.str (Txt.replace x y z) t') { s with toks := k }) : wpAny (model prog w) A (call (.builtin "str.replace") [.str x t, .str y u, .str z v]) Q E s :=
  wpAny_with_toks (Nat.le_refl _) (SC.replaceW hu hv huv hyz hx hz (fun t' k h => hq t' k h))
def m9e34 : Lean.MacroM (Lean.TSyntax `tactic) := Mine.t9dsimp "*"
def m9l10 : Lean.MacroM (Lean.TSyntax `tactic) := `(tactic| decide +kernel)
def m9e35 : Lean.MacroM (Lean.TSyntax `tactic) := Mine.t9dsimp "~hk'"
def m9k18 : Lean.MacroM (Lean.TSyntax `tactic) := Mine.t9seq [Mine.t9dflt (Mine.t9seq [Mine.t9ref "replace_T" "a b c d e f _", Mine.t9case "a" (Mine.t9seq [Mine.t9try (Mine.m9e34), Mine.m9l4]), Mine.t9case "b" (Mine.t9seq [Mine.t9try (Mine.m9e34), Mine.m9l4]), Mine.t9case "c" (Mine.t9seq [Mine.t9try (Mine.m9e34), Mine.m9l4]), Mine.t9case "d" (Mine.m9l10), Mine.t9case "e" (Mine.m9l4), Mine.t9case "f" (Mine.m9l10)]), Mine.t9intro "t' k' hk'", Mine.t9try (Mine.m9e35)]
local macro_rules | `(tactic| walk_at $s) => Mine.mw s [("call builtin:str.replace", Mine.m9k18)]
noncomputable def writtenS (cell : Int) (resp : Str) : Str :=
  if (cell.fdiv 320).fmod 2 ≠ 0 then Str.ofString "\"" ++ Txt.replace (Txt.replace resp (Str.ofString "\\") (Str.ofString "\\\\")) (Str.ofString "\"") (Str.ofString "\\\"") ++ Str.ofString "\"\n"
  else (⟨(escL resp.cps.toList).toArray⟩ : Str) ++ Str.ofString "\n"
set_option maxHeartbeats 8000000 in
theorem c_written (w : World) (cell : Int) (t : Tok) (resp : Str) (ot : Tok) (news : List (Addr × Obj)) :
   CC 20 w 147 news (resp.length ≤ 14 ∧ (Txt.replace resp (Str.ofString "\\") (Str.ofString "\\\\")).length ≤ 60 ∧ (Txt.replace (Txt.replace resp (Str.ofString "\\") (Str.ofString "\\\\")) (Str.ofString "\"") (Str.ofString "\\\"")).length ≤ 200 ∧ 0 ≤ cell ∧ cell < 1000000) [.int cell t, .str resp ot]
     (fun v news2 => news2 = news ∧ ∃ t, v = .str (writtenS cell resp) t) := by
  have l9 : Mine.Lead9 := trivial
  have l0 : Mine.Lead0 := trivial
  revert w cell t resp ot news
  intro w cell t resp ot news
  rename Mine.Lead0 => l0; clear l0
  dsimp only [CC, PP, KK]
  k_fill
  intro loose mean mg mb dp un gd cn cs' a ccd cl outer A₀ base h₀ L m s Q B F X N T hk hp hd hu hb hret
  obtain ⟨hl, hl2, hl3, c0, c1⟩ := hp
  have key : ∀ (Y : Str) (t : Tok) (s' : Shared), Y = writtenS cell resp → Fr h₀ L s'.heap m → News h₀ L s'.heap news → s'.gens = s.gens → s'.os = s.os → Q (.ok (.ret (.str Y t))) s' :=
    fun Y t s' e F' N' hg ho => hret _ _ s' ⟨rfl, t, by rw [e]⟩ F' N' (hg ▸ hb) ho
  clear hret
  k_dflt cell_enter
  k_steps
  all_goals first
    | exact key _ _ _ (by unfold writtenS; rw [if_pos (by assumption)]) (by k_asm) (by k_asm) rfl rfl
    | exact key _ _ _ (by unfold writtenS; rw [if_neg (not_not_intro (by assumption))]) (by k_asm) (by k_asm) rfl rfl
end Mine
end
theorem Mine.calmCReply : True := by w_top off; first | walk1 | trivial
section
open PySem PySem.W PyProof.Rows PySem.Calls PySem.Spec
set_option maxRecDepth 100000
namespace Mine
noncomputable def markS (cell : Int) : Str := Txt.item (Str.ofString "|\"\\ ") ((cell.fdiv 80).fmod 4)
noncomputable def replyS (cell now : Int) : Str := Str.ofString "229 (" ++ Txt.mul (markS cell) 3 ++ Str.ofString (toString now) ++ markS cell ++ Str.ofString ")"
set_option maxHeartbeats 8000000 in
theorem c_reply (w : World) (cell : Int) (t : Tok) (now : Int) (ot : Tok) (news : List (Addr × Obj)) :
   CC 20 w 142 news (0 ≤ cell ∧ cell < 1000000 ∧ 1 ≤ now ∧ now ≤ 320) [.int cell t, .int now ot]
     (fun v news2 => news2 = news ∧ ∃ t, v = .str (replyS cell now) t) := by
  have l9 : Mine.Lead9 := trivial
  have l0 : Mine.Lead0 := trivial
  revert w cell t now ot news
  intro w cell t now ot news
  rename Mine.Lead0 => l0; clear l0
  dsimp only [CC, PP, KK]
  k_fill
  intro loose mean mg mb dp un gd cn cs' a ccd cl outer A₀ base h₀ L m s Q B F X N T hk hp hd hu hb hret
  obtain ⟨c0, c1, n0, n1⟩ := hp
  have key : ∀ (t : Tok) (s' : Shared), Fr h₀ L s'.heap m → News h₀ L s'.heap news → s'.gens = s.gens → s'.os = s.os → Q (.ok (.ret (.str (replyS cell now) t))) s' :=
    fun t s' F' N' hg ho => hret _ _ s' ⟨rfl, t, rfl⟩ F' N' (hg ▸ hb) ho
  clear hret
  k_dflt cell_enter
  k_steps
  all_goals (try w_report)
  all_goals exact key _ _ (by k_asm) (by k_asm) rfl rfl
end Mine
end
theorem Mine.calmCHours : True := by w_top off; first | walk1 | trivial
section
open PySem PySem.W PyProof.Rows PySem.Calls PySem.Spec
set_option maxRecDepth 100000
namespace Mine
local macro_rules | `(tactic| walk_at $s) => Mine.mw s [("ite", Mine.m9k6)]
noncomputable def hoStmt : Stmt := sAt PP.main.body 13
noncomputable def hoFor : Stmt := sAt (fdBody hoStmt) 1
noncomputable abbrev hoName : Str := Str.ofString "_law_hours"
noncomputable abbrev hoEnv (L : Addr) : Env := envOf hoName (fdScope hoStmt) L 135 (.ref 134)
noncomputable def comesB (lacking inside cell : Int) : Bool := decide (0 < lacking) && (inside == 0 || cell.fmod 2 == 0)
noncomputable def hoursL : Int → Int → Int → List Int → List (Bool × Int)
  | _, _, _, [] => []
  | now, lacking, inside, c :: r => (comesB lacking inside c, now + (1 + (c.fdiv 2).fmod 40)) :: hoursL (now + (1 + (c.fdiv 2).fmod 40)) (lacking - if comesB lacking inside c then 1 else 0) (inside + if comesB lacking inside c then 1 else -1) r
noncomputable abbrev hoMap (cl : Addr) (hl : Addr) (now lacking inside : Int) (t1 t2 t3 : Tok) (v1 v2 : Option Value) : Str → Option Value := fun y =>
  if y = Str.ofString "comes" then v2 else if y = Str.ofString "cell" then v1 else if y = Str.ofString "inside" then some (.int inside t3) else if y = Str.ofString "lacking" then some (.int lacking t2) else if y = Str.ofString "now" then some (.int now t1) else if y = Str.ofString "hours" then some (.ref hl) else if y = Str.ofString "cells" then some (.ref cl) else none
structure HoInv (cl hl : Addr) (news0 : List (Addr × Obj)) (fin : List (Bool × Int)) (cells : List Int) (i : Nat) (m : Str → Option Value) (news : List (Addr × Obj)) : Prop where
  out : ∃ (now lacking inside : Int) (t1 t2 t3 : Tok) (v1 v2 : Option Value) (hv : List Value) (hs : List (Bool × Int)) (n1 : Nat) (tus : List (Addr × Obj)),
    news = (hl, W.listOf hv.toArray n1) :: (tus ++ news0) ∧ (∀ y, m y = hoMap cl hl now lacking inside t1 t2 t3 v1 v2 y) ∧ HrAt tus hv hs ∧ (∀ p ∈ tus, @LT.lt Nat _ hl p.1) ∧ 0 ≤ now ∧ now ≤ 40 * i ∧ 0 ≤ lacking ∧ lacking ≤ 4 ∧ -(i : Int) ≤ inside ∧ inside ≤ i ∧ hv.length = i ∧ hs ++ hoursL now lacking inside (cells.drop i) = fin
theorem push_ho (a : List Value) (v : Value) : a.toArray.push v = (a ++ [v]).toArray := by simp
theorem HrAt.append {news : List (Addr × Obj)} {a b : List Value} {x y : List (Bool × Int)} (h : HrAt news a x) (k : HrAt news b y) : HrAt news (a ++ b) (x ++ y) := by
  induction h with
  | nil => exact k
  | cons t c hm h1 h2 _ ih => exact .cons t c hm h1 h2 ih
theorem fdm (c : Int) (h : 0 ≤ c) : 0 ≤ (c.fdiv 2).fmod 40 ∧ (c.fdiv 2).fmod 40 ≤ 39 := by
  rw [Int.fmod_eq_emod_of_nonneg _ (by decide)]
  have h1 := Int.emod_nonneg (c.fdiv 2) (show (40 : Int) ≠ 0 by decide)
  have h2 := Int.emod_lt_of_pos (c.fdiv 2) (show (0 : Int) < 40 by decide)
  omega
theorem hoEnd_mk {cl hl I D : Addr} {news0 tus nr : List (Addr × Obj)} {fin : List (Bool × Int)} {cells : List Int} {i n1 c : Nat} {g : Heap} {L : Addr} {o' : Obj} {os : OsState} {s₃ : Shared} {m : Str → Option Value} {hv : List Value} {hs : List (Bool × Int)} {now lacking inside cell : Int} {tn : Tok} (v1 : Option Value) (b : Bool) (lac' ins' : Int)
    (hbe : b = comesB lacking inside cell) (hla : lac' = lacking - if b then 1 else 0) (hin : ins' = inside + if b then 1 else -1)
    (ho : ∃ t1 t2 t3, m (Str.ofString "now") = some (.int (now + (1 + (cell.fdiv 2).fmod 40)) t1) ∧ m (Str.ofString "lacking") = some (.int lac' t2) ∧ m (Str.ofString "inside") = some (.int ins' t3))
    (hm : ∀ t1 t2 t3 y, m (Str.ofString "now") = some (.int (now + (1 + (cell.fdiv 2).fmod 40)) t1) → m (Str.ofString "lacking") = some (.int lac' t2) → m (Str.ofString "inside") = some (.int ins' t3) → m y = hoMap cl hl (now + (1 + (cell.fdiv 2).fmod 40)) lac' ins' t1 t2 t3 v1 (some (.bool b)) y)
    (F : Fr g L s₃.heap m) (N : News g L s₃.heap ((D, ({ cls := .type "tuple", data := .seq #[.bool b, .int (now + (1 + (cell.fdiv 2).fmod 40)) tn] c } : Obj)) :: (I, o') :: (hl, W.listOf (hv.toArray.push (.ref D)) (n1 + 1)) :: nr)) (hnr : tus ++ news0 = nr)
    (hH : HrAt tus hv hs) (htu : ∀ p ∈ tus, @LT.lt Nat _ hl p.1) (hID : @LT.lt Nat _ I D) (hlI : @LT.lt Nat _ hl I) (hIn : ∀ p ∈ nr, p.1 ≠ I) (h0 : 0 ≤ now) (h4 : now ≤ 40 * i) (hl0 : 0 ≤ lacking) (hl4 : lacking ≤ 4) (hi0 : -(i : Int) ≤ inside) (hi4 : inside ≤ i) (hvl : hv.length = i) (hi8 : i < 8) (hc0 : 0 ≤ cell)
    (hf : hs ++ hoursL now lacking inside (cell :: cells.drop (i + 1)) = fin) (hb : AllBare s₃.gens) (hos : s₃.os = os) :
    EndAt (fun m news => HoInv cl hl news0 fin cells (i + 1) m news ∧ ∀ p ∈ news, p.1 ≠ I) g L I o' os s₃ := by
  obtain ⟨t1, t2, t3, e1, e2, e3⟩ := ho
  subst hnr hla hin
  obtain ⟨f1, f2⟩ := fdm cell hc0
  have hlac : b = true → 0 < lacking := by intro h; rw [hbe] at h; simp [comesB] at h; exact h.1
  refine ⟨_, _, ⟨⟨_, _, _, t1, t2, t3, v1, some (.bool b), hv ++ [.ref D], hs ++ [(b, now + (1 + (cell.fdiv 2).fmod 40))], n1 + 1, (D, { cls := .type "tuple", data := .seq #[.bool b, .int (now + (1 + (cell.fdiv 2).fmod 40)) tn] c }) :: tus, rfl, fun y => hm t1 t2 t3 y e1 e2 e3, (hH.mono fun p hp => .tail _ hp).append (.cons tn c (.head _) (by omega) (by omega) .nil), ?_, by omega, by omega, ?_, ?_, ?_, ?_, by simp; omega, ?_⟩, ?_⟩, F, ?_, hb, hos⟩
  · exact List.forall_mem_cons.mpr ⟨Nat.lt_trans hlI hID, htu⟩
  · cases b with
    | true => have := hlac rfl; simp; omega
    | false => simp; omega
  · cases b <;> simp <;> omega
  · cases b <;> simp <;> omega
  · cases b <;> simp <;> omega
  · rw [← hf, hoursL, ← hbe]; cases b <;> simp
  · refine List.forall_mem_cons.mpr ⟨neN (Nat.ne_of_lt hlI), ?_⟩
    exact List.forall_mem_cons.mpr ⟨neN (Nat.ne_of_gt hID), hIn⟩
  · rw [push_ho] at N
    intro p hp
    refine N p ?_
    first
      | ((revert p hp); (try dsimp only [List.cons_append]); (repeat' (first | with_reducible refine List.forall_mem_cons.mpr ⟨?_, ?_⟩ | with_reducible refine List.forall_mem_append.mpr ⟨?_, ?_⟩ | with_reducible exact List.forall_mem_nil _ | (intro _ _; ((repeat (first | with_reducible assumption | with_reducible exact List.mem_cons_self | (with_reducible refine List.mem_append_left _ ?_; (repeat (first | with_reducible exact List.mem_cons_self | with_reducible refine List.mem_cons_of_mem _ ?_ | with_reducible assumption)); done) | with_reducible refine List.mem_append_right _ ?_ | with_reducible refine List.mem_cons_of_mem _ ?_)); done)) | ((repeat (first | with_reducible assumption | with_reducible exact List.mem_cons_self | (with_reducible refine List.mem_append_left _ ?_; (repeat (first | with_reducible exact List.mem_cons_self | with_reducible refine List.mem_cons_of_mem _ ?_ | with_reducible assumption)); done) | with_reducible refine List.mem_append_right _ ?_ | with_reducible refine List.mem_cons_of_mem _ ?_)); done))); done)
      | (simp only [List.mem_cons, List.cons_append] at hp ⊢; rcases hp with h | h | h | h <;> simp [h])
set_option maxHeartbeats 8000000 in
theorem hoTurn (w : World) (cl hl I : Addr) (news0 : List (Addr × Obj)) (fin : List (Bool × Int)) (cells : List Int) (h8 : cells.length ≤ 8) (hcell : ∀ c ∈ cells, 0 ≤ c ∧ c < 1000000)
    (loose : List Str) (mean : ExcName → Option Value) (mg mb : Str → Option Value) (dp un : Nat) (gd : Option (List Code)) (cn : Str) (cs0 : Scope) (Lc a : Addr) (ccd : Value) (cls : List (Str × Addr)) (outer : List Env) (base g : Heap) (L : Addr) (R : Result → Shared → Prop)
    (B : Below (ktrTop dp un gd cn cs0 Lc a ccd cls outer) base (envX cn cs0 Lc a ccd cls :: outer) g) (X : (KK w).In g) (T : Top VV loose mean mg mb g) (hd : dp + 60 < recursionLimit) (hu : un + 600 < cLine) (os : OsState)
    (hn0 : ∀ p ∈ news0, @LT.lt Nat _ p.1 hl) (hlI : @LT.lt Nat _ hl I)
    (i : Nat) (cell : Int) (tc : Tok) (o' : Obj) (m : Str → Option Value) (news : List (Addr × Obj)) (s : Shared) (hi : cells[i]? = some cell) (hj : HoInv cl hl news0 fin cells i m news) (hIn : ∀ p ∈ news, p.1 ≠ I) (F : Fr g L s.heap m) (N : News g L s.heap ((I, o') :: news)) (hb : AllBare s.gens) (hos : s.os = os)
    (E E2 : Value → Shared → Prop) :
      wpAny (model PP w) ((ktrTop dp un gd cn cs0 Lc a ccd cls outer).deeper (hoEnv L)) (assign (forTarget hoFor) (hoEnv L) (.int cell tc)) (fun _ s₂ => wpAny (model PP w) ((ktrTop dp un gd cn cs0 Lc a ccd cls outer).deeper (hoEnv L)) (execs (forBody hoFor) (hoEnv L)) (fun f s₃ => match f with
          | .next | .cont => EndAt (fun m news => HoInv cl hl news0 fin cells (i + 1) m news ∧ ∀ p ∈ news, p.1 ≠ I) g L I o' os s₃
          | .brk => R (.ok .next) s₃
          | .ret v => R (.ok (.ret v)) s₃) E s₂) E2 s := by
  have l9 : Mine.Lead9 := trivial
  have l0 : Mine.Lead0 := trivial
  revert h8 hcell B X T hd hu hn0 hlI hi hj hIn F N hb hos
  revert w cl hl I news0 fin cells loose mean mg mb dp un gd cn cs0 Lc a ccd cls outer base g L R os i cell tc o' m news s E E2
  intro w cl hl I news0 fin cells loose mean mg mb dp un gd cn cs0 Lc a ccd cls outer base g L R os i cell tc o' m news s E E2
  intros h8 hcell B X T hd hu hn0 hlI hi hj hIn F N hb hos
  rename Mine.Lead0 => l0; clear l0
  dsimp only [PP, KK] at *
  revert X; k_fill; intro X
  obtain ⟨now, lacking, inside, t1, t2, t3, v1, v2, hv, hs, n1, tus, rfl, hm, hH, htu, hw0, hw4, hl0, hl4, hi0, hi4, hvl, hfin⟩ := hj
  have F0 := fr_cast F hm
  clear F hm
  have hlt := (List.getElem?_eq_some_iff.mp hi).1
  have hdrop : cells.drop i = cell :: cells.drop (i + 1) := by
    obtain ⟨h1, h2⟩ := List.getElem?_eq_some_iff.mp hi
    rw [List.drop_eq_getElem_cons h1, h2]
  rw [hdrop] at hfin
  obtain ⟨hc0, hc1⟩ := hcell cell (List.mem_of_getElem? hi)
  dsimp only [hoEnv] at *
  generalize hb1 : forBody hoFor = body
  generalize hb2 : forTarget hoFor = target
  generalize hb3 : fdScope hoStmt = scope
  conv at hb1 => { lhs; whnf }
  conv at hb2 => { lhs; whnf }
  conv at hb3 => { lhs; whnf }
  subst hb1 hb2 hb3
  obtain ⟨heap', gens', drawn', toks', os'⟩ := s
  have hne : ∀ p ∈ tus ++ news0, p.1 ≠ hl := fun p hp => (List.mem_append.mp hp).elim (fun h => neN (Nat.ne_of_gt (htu p h))) (fun h => neN (Nat.ne_of_lt (hn0 p h)))
  have hrz : hv.toArray.size < 1000 := by rw [List.size_toArray]; omega
  generalize hnr : tus ++ news0 = nr at *
  k_steps
  all_goals (with_reducible rename News _ _ _ _ => N9)
  all_goals (with_reducible rename Fr _ _ _ _ => F9)
  all_goals (with_reducible rename _ ∧ _ => l9)
  all_goals refine hoEnd_mk (hs := hs) (tus := tus) (cells := cells) (cell := cell) (lacking := lacking) (inside := inside) (some (.int cell tc)) _ _ _ ?_ ?_ ?_ ⟨_, _, _, rfl, rfl, rfl⟩ ?_ F9 N9 hnr hH htu l9.1 hlI (fun p hp => hIn p (.tail _ hp)) hw0 hw4 hl0 hl4 hi0 hi4 hvl (by omega) hc0 hfin hb hos
  all_goals first
    | (intro t1 t2 t3 y e1 e2 e3; by_cases h1 : y = Str.ofString "comes"; (focus (subst h1; rfl)); by_cases h2 : y = Str.ofString "cell"; (focus (subst h2; rfl)); by_cases h3 : y = Str.ofString "inside"; (focus (subst h3; exact e3)); by_cases h4 : y = Str.ofString "lacking"; (focus (subst h4; exact e2)); by_cases h5 : y = Str.ofString "now"; (focus (subst h5; exact e1)); simp only [hoMap, if_neg h1, if_neg h2, if_neg h3, if_neg h4, if_neg h5]; done)
    | (simp_all [comesB]; done)
    | (have e9 : decide (0 < lacking) = false := decide_eq_false (by assumption); rw [comesB, e9]; done)
    | (have e9 : decide (0 < lacking) = false := decide_eq_false (by assumption); rw [comesB, e9]; rfl)
    | (have e9 : decide (0 < lacking) = false := decide_eq_false (by assumption); rw [e9]; simp; done)
    | (have e9 : decide (0 < lacking) = false := decide_eq_false (by assumption); rw [e9]; rfl)
end Mine
end
theorem Mine.calmCLongest : True := by w_top off; first | walk1 | trivial
section
open PySem PySem.W PyProof.Rows PySem.Calls PySem.Spec
set_option maxRecDepth 100000
namespace Mine
local macro_rules | `(tactic| walk_at $s) => Mine.mw s [("exec For Name Call cons nil", Mine.m9e23), ("call builtin:sorted", Mine.m9e23), ("pyIter ref", Mine.m9e23)]
theorem ints_atL {vs : List Value} {ns : List Int} (h : IntsAre vs ns) : ∀ {i : Nat} {v : Value}, vs[i]? = some v → ∃ n t, v = .int n t ∧ ns[i]? = some n := by
  induction h with
  | nil => intro i v hv; simp at hv
  | cons n t _ ih =>
    intro i v hv
    cases i with
    | zero => simp at hv; exact ⟨n, t, hv.symm, by simp⟩
    | succ i => exact ih (by simpa using hv)
theorem ints_lenL {vs : List Value} {ns : List Int} (h : IntsAre vs ns) : vs.length = ns.length := by
  induction h with
  | nil => rfl
  | cons n t _ ih => simp [ih]
theorem loLoop (w : World) (wa sl al I : Addr) (news0 : List (Addr × Obj)) (cv : List Value) (nc : Nat) (srt : List Int) (h8 : srt.length ≤ 8) (hcv : IntsAre cv srt) (hcl : (al, W.listOf cv.toArray nc) ∈ news0)
    (loose : List Str) (mean : ExcName → Option Value) (mg mb : Str → Option Value) (dp un : Nat) (gd : Option (List Code)) (cn : Str) (cs0 : Scope) (Lc a : Addr) (ccd : Value) (cls : List (Str × Addr)) (outer : List Env) (base g : Heap) (L : Addr) (R : Result → Shared → Prop)
    (B : Below (ktrTop dp un gd cn cs0 Lc a ccd cls outer) base (envX cn cs0 Lc a ccd cls :: outer) g) (X : (KK w).In g) (T : Top VV loose mean mg mb g) (hd : dp + 30 < recursionLimit) (hu : un + 300 < cLine) (os : OsState)
    (hn0 : ∀ p ∈ news0, p.1 ≠ sl) (hlI : @LT.lt Nat _ sl I) (hIn : ∀ p ∈ news0, p.1 ≠ I)
    (m : Str → Option Value) (o' : Obj) (s : Shared) (ho : LIter o' al 0) (ht : ∃ t1 : Tok, m (Str.ofString "total") = some (.int 0 t1)) (hm' : ∀ t1 y, m (Str.ofString "total") = some (.int 0 t1) → m y = loMap wa sl 0 t1 none y) (F : Fr g L s.heap m) (N : News g L s.heap ((I, o') :: (sl, W.listOf #[] 0) :: news0)) (hb : AllBare s.gens) (hos : s.os = os)
    (done : ∀ (m : Str → Option Value) (news : List (Addr × Obj)) (s : Shared), LoInv wa sl news0 (sumsL 0 srt) srt srt.length m news → Fr g L s.heap m → News g L s.heap news → AllBare s.gens → s.os = os → R (.ok .next) s) :
    codeAny (model PP w) ((ktrTop dp un gd cn cs0 Lc a ccd cls outer).deeper (loEnv L)) (.forLoop (forTarget loFor) (.ref I) (forBody loFor) [] (loEnv L)) R s := by
  have hlen := ints_lenL hcv
  obtain ⟨t1, e1⟩ := ht
  have hm := fun y => hm' t1 y e1
  refine for_list (l := al) (items := cv) (c := nc) (os := os) rfl (fun i m news => LoInv wa sl news0 (sumsL 0 srt) srt i m news ∧ ∀ p ∈ news, p.1 ≠ I) ?_ ?_ ?_ ?_ cv.length 0 m ((sl, W.listOf #[] 0) :: news0) o' s (by omega) ho ⟨⟨0, t1, none, [], [], 0, rfl, hm, .nil, rfl, rfl⟩, ?_⟩ F N hb hos
  · rintro i m news ⟨⟨total, t1, v1, sv, ss, n1, rfl, -⟩, hI⟩
    exact ⟨.tail _ hcl, hI⟩
  · intro i v s Q E hv hit hq
    exact wpAny_of_eq (by rfl) hq
  · intro i v o' m news s hi hj F N hb hos
    obtain ⟨c, t, rfl, hci⟩ := ints_atL hcv hi
    exact loTurn w wa sl I news0 _ srt h8 loose mean mg mb dp un gd cn cs0 Lc a ccd cls outer base g L R B X T hd hu os hn0 hlI i c t o' m news s hci hj.1 hj.2 F N hb hos _ _
  · rw [hlen]; exact fun m news s hj => done m news s hj.1
  · exact List.forall_mem_cons.mpr ⟨neN (Nat.ne_of_lt hlI), hIn⟩
set_option maxHeartbeats 8000000 in
theorem c_longest (w : World) (l : Addr) (cv : List Value) (cs : List Int) (nc : Nat) (news : List (Addr × Obj)) :
   CC 40 w 180 news ((l, W.listOf cv.toArray nc) ∈ news ∧ IntsAre cv cs ∧ cs.length ≤ 8) [.ref l]
    (fun v news2 => ∃ (sl : Addr) (sv : List Value) (n1 : Nat) (srt : List Int), v = .ref sl ∧ IntsAre sv (sumsL 0 srt) ∧ srt.Perm cs ∧ Ordered true srt ∧ (∀ p ∈ news, @LT.lt Nat _ p.1 sl) ∧ news2 = (sl, W.listOf sv.toArray n1) :: news) := by
  dsimp only [CC, PP, KK]
  k_fill
  intro loose mean mg mb dp un gd cn cs' a ccd cl outer A₀ base h₀ L m s Q B F X N T hk hp hd hu hb hret
  obtain ⟨hl, hI, h8⟩ := hp
  k_dflt cell_enter
  k_steps
  refine Halt.mk (wpAny_For ?_)
  k_steps
  (with_reducible rename News _ _ _ _ => N9)
  (with_reducible rename Fr _ _ _ _ => F9)
  (with_reducible rename Below _ _ _ _ => B9)
  (with_reducible rename Top _ _ _ _ _ _ => T9)
  (with_reducible rename Frag.In _ _ => X9)
  (with_reducible rename ∀ p ∈ news, p.1 < _ => l8)
  have N10 := cb_drop N9 (fun p hp => List.Mem.tail _ hp)
  clear N9
  refine Halt.mk (sorted_N_rev F9 N10 (N10.isList (.tail _ hl)) hI (by rw [ints_lenL hI]; omega) ?_)
  intro h10 vs10 ns10 e10 F10 N11 hI10 hp10 ho10
  have hlen10 : ns10.length ≤ 8 := by rw [hp10.length_eq]; exact h8
  have hlt10 : ∀ p ∈ news, p.1 ≠ _ := fun p hp => neN (Nat.ne_of_lt (l8 p hp))
  have hal := Heap.lt_size (N10 _ (.head _)).1
  k_steps
  refine Halt.mk (iter_list_K F10 N11 (.head _) ?_)
  intro I h12 o12 hI12 F12 N12 hlt
  generalize hal9 : { heap := _, gens := s.gens, drawn := s.drawn, toks := _, os := s.os : Shared }.heap.objs.size + 1 = al at *
  have N13 := cb_drop (news := (I, o12) :: (_, W.listOf #[] 0) :: (al, W.listOf vs10.toArray e10) :: news) N12 (by
    intro p hp
    rcases List.mem_cons.mp hp with rfl | hp
    · exact .head _
    rcases List.mem_cons.mp hp with rfl | hp
    · exact .tail _ (.tail _ (.head _))
    rcases List.mem_cons.mp hp with rfl | hp
    · exact .tail _ (.head _)
    exact .tail _ (.tail _ (.tail _ hp)))
  refine loLoop w l _ al I _ vs10 e10 ns10 hlen10 hI10 (.head _) loose mean mg mb dp un gd cn cs' L a ccd cl outer base _ _ _ B9 X9 T9 (by omega) (by omega) s.os (List.forall_mem_cons.mpr ⟨?_, hlt10⟩) (hlt _ (.tail _ (.head _))) (List.forall_mem_cons.mpr ⟨neN (Nat.ne_of_lt (hlt _ (.head _))), fun p hp => neN (Nat.ne_of_lt (hlt _ (.tail _ (.tail _ hp))))⟩) _ _ _ hI12 ⟨_, rfl⟩ ?_ F12 N13 hb rfl ?_
  · subst hal9; exact neN (Nat.ne_of_gt (Nat.lt_succ_of_lt hal))
  · intro t1 y e1
    show (if y = Str.ofString "sums" then _ else if y = Str.ofString "total" then _ else List.lookup y [(Str.ofString "waits", Value.ref l)]) = _
    simp only [List.lookup]
    by_cases h1 : y = Str.ofString "wait"
    · subst h1; rfl
    by_cases h2 : y = Str.ofString "total"
    · subst h2; exact e1
    by_cases h3 : y = Str.ofString "sums"
    · subst h3; rfl
    by_cases h4 : y = Str.ofString "waits"
    · subst h4; rfl
    simp only [loMap, if_neg h1, if_neg h2, if_neg h3, if_neg h4, beq_eq_false_iff_ne.mpr h4]
  · rintro m12 news12 s12 ⟨total, t1, v1, sv, ss, n1, rfl, hm, hI12, hvl, hfin⟩ F12 N12 hb12 ho12
    rw [List.drop_length] at hfin
    simp only [sumsL, List.append_nil] at hfin
    subst hfin
    obtain ⟨heap12, gens12, drawn12, toks12, os12⟩ := s12
    have F13 := fr_cast F12 hm
    clear F12 N13 F9 N10 F10 N11 hm
    (try dsimp only)
    k_steps
    exact hret _ _ _ ⟨_, sv, n1, ns10, rfl, hI12, hp10, ho10, l8, rfl⟩ (by k_asm) (by first | k_asm | (exact cb_drop (by k_asm) (fun p hp => by rcases List.mem_cons.mp hp with rfl | hp; exact .head _; exact .tail _ (.tail _ hp)))) hb12 ho12
end Mine
end
theorem Mine.calmCHours2 : True := by w_top off; first | walk1 | trivial
section
open PySem PySem.W PyProof.Rows PySem.Calls PySem.Spec
set_option maxRecDepth 100000
namespace Mine
local macro_rules | `(tactic| walk_at $s) => Mine.mw s [("exec For Name Name cons nil", Mine.m9e24), ("pyIter ref", Mine.m9e23)]
theorem ints_at {vs : List Value} {ns : List Int} (h : IntsAre vs ns) : ∀ {i : Nat} {v : Value}, vs[i]? = some v → ∃ n t, v = .int n t ∧ ns[i]? = some n := by
  induction h with
  | nil => intro i v hv; simp at hv
  | cons n t _ ih =>
    intro i v hv
    cases i with
    | zero => simp at hv; exact ⟨n, t, hv.symm, by simp⟩
    | succ i => exact ih (by simpa using hv)
theorem ints_len {vs : List Value} {ns : List Int} (h : IntsAre vs ns) : vs.length = ns.length := by
  induction h with
  | nil => rfl
  | cons n t _ ih => simp [ih]
theorem hoLoop (w : World) (cl hl I : Addr) (news0 : List (Addr × Obj)) (cv : List Value) (nc : Nat) (cells : List Int) (h8 : cells.length ≤ 8) (hcell : ∀ c ∈ cells, 0 ≤ c ∧ c < 1000000) (hcv : IntsAre cv cells) (hcl : (cl, W.listOf cv.toArray nc) ∈ news0)
    (loose : List Str) (mean : ExcName → Option Value) (mg mb : Str → Option Value) (dp un : Nat) (gd : Option (List Code)) (cn : Str) (cs0 : Scope) (Lc a : Addr) (ccd : Value) (cls : List (Str × Addr)) (outer : List Env) (base g : Heap) (L : Addr) (R : Result → Shared → Prop)
    (B : Below (ktrTop dp un gd cn cs0 Lc a ccd cls outer) base (envX cn cs0 Lc a ccd cls :: outer) g) (X : (KK w).In g) (T : Top VV loose mean mg mb g) (hd : dp + 60 < recursionLimit) (hu : un + 600 < cLine) (os : OsState)
    (hn0 : ∀ p ∈ news0, @LT.lt Nat _ p.1 hl) (hlI : @LT.lt Nat _ hl I)
    (m : Str → Option Value) (o' : Obj) (s : Shared) (ho : LIter o' cl 0) (ht : ∃ t1 t2 t3 : Tok, m (Str.ofString "now") = some (.int 0 t1) ∧ m (Str.ofString "lacking") = some (.int 4 t2) ∧ m (Str.ofString "inside") = some (.int 0 t3)) (hm' : ∀ t1 t2 t3 y, m (Str.ofString "now") = some (.int 0 t1) → m (Str.ofString "lacking") = some (.int 4 t2) → m (Str.ofString "inside") = some (.int 0 t3) → m y = hoMap cl hl 0 4 0 t1 t2 t3 none none y) (F : Fr g L s.heap m) (N : News g L s.heap ((I, o') :: (hl, W.listOf #[] 0) :: news0)) (hb : AllBare s.gens) (hos : s.os = os)
    (done : ∀ (m : Str → Option Value) (news : List (Addr × Obj)) (s : Shared), HoInv cl hl news0 (hoursL 0 4 0 cells) cells cells.length m news → Fr g L s.heap m → News g L s.heap news → AllBare s.gens → s.os = os → R (.ok .next) s) :
    codeAny (model PP w) ((ktrTop dp un gd cn cs0 Lc a ccd cls outer).deeper (hoEnv L)) (.forLoop (forTarget hoFor) (.ref I) (forBody hoFor) [] (hoEnv L)) R s := by
  have l9 : Mine.Lead9 := trivial
  have l0 : Mine.Lead0 := trivial
  revert h8 hcell hcv hcl B X T hd hu hn0 hlI ho ht hm' F N hb hos done
  revert w cl hl I news0 cv nc cells loose mean mg mb dp un gd cn cs0 Lc a ccd cls outer base g L R os m o' s
  intro w cl hl I news0 cv nc cells loose mean mg mb dp un gd cn cs0 Lc a ccd cls outer base g L R os m o' s
  intros h8 hcell hcv hcl B X T hd hu hn0 hlI ho ht hm' F N hb hos done
  rename Mine.Lead0 => l0; clear l0
  have hlen := ints_len hcv
  obtain ⟨t1, t2, t3, e1, e2, e3⟩ := ht
  have hm := fun y => hm' t1 t2 t3 y e1 e2 e3
  refine for_list (l := cl) (items := cv) (c := nc) (os := os) rfl (fun i m news => HoInv cl hl news0 (hoursL 0 4 0 cells) cells i m news ∧ ∀ p ∈ news, p.1 ≠ I) ?_ ?_ ?_ ?_ cv.length 0 m ((hl, W.listOf #[] 0) :: news0) o' s (by omega) ho ⟨⟨0, 4, 0, t1, t2, t3, none, none, [], [], 0, [], rfl, hm, .nil, (fun _ h => absurd h List.not_mem_nil), by omega, by omega, by omega, by omega, by omega, by omega, rfl, rfl⟩, ?_⟩ F N hb hos
  · rintro i m news ⟨⟨now, lacking, inside, t1, t2, t3, v1, v2, hv, hs, n1, tus, rfl, -⟩, hI⟩
    exact ⟨.tail _ (List.mem_append_right _ hcl), hI⟩
  · intro i v s Q E hv hit hq
    exact wpAny_of_eq (by rfl) hq
  · intro i v o' m news s hi hj F N hb hos
    obtain ⟨c, t, rfl, hci⟩ := ints_at hcv hi
    exact hoTurn w cl hl I news0 _ cells h8 hcell loose mean mg mb dp un gd cn cs0 Lc a ccd cls outer base g L R B X T hd hu os hn0 hlI i c t o' m news s hci hj.1 hj.2 F N hb hos _ _
  · rw [hlen]; exact fun m news s hj => done m news s hj.1
  · exact List.forall_mem_cons.mpr ⟨neN (Nat.ne_of_lt hlI), fun p hp => neN (Nat.ne_of_lt (Nat.lt_trans (hn0 p hp) hlI))⟩
set_option maxHeartbeats 8000000 in
theorem c_hours (w : World) (ca : Addr) (cv : List Value) (nc : Nat) (cells : List Int) (news : List (Addr × Obj)) :
   CC 70 w 135 news ((ca, W.listOf cv.toArray nc) ∈ news ∧ IntsAre cv cells ∧ cells.length ≤ 8 ∧ (∀ c ∈ cells, 0 ≤ c ∧ c < 1000000)) [.ref ca]
    (fun v news' => ∃ (hl : Addr) (hv : List Value) (n1 : Nat) (tus : List (Addr × Obj)), v = .ref hl ∧ HrAt tus hv (hoursL 0 4 0 cells) ∧ (∀ p ∈ tus, @LT.lt Nat _ hl p.1) ∧ (∀ p ∈ news, @LT.lt Nat _ p.1 hl) ∧ news' = (hl, W.listOf hv.toArray n1) :: (tus ++ news)) := by
  have l9 : Mine.Lead9 := trivial
  have l0 : Mine.Lead0 := trivial
  revert w ca cv nc cells news
  intro w ca cv nc cells news
  rename Mine.Lead0 => l0; clear l0
  dsimp only [CC, PP, KK]
  k_fill
  intro loose mean mg mb dp un gd cn cs a ccd cl outer A₀ base h₀ L m s Q B F X N T hk hp hd hu hb hret
  obtain ⟨hl, hI, h8, hc⟩ := hp
  k_dflt cell_enter
  k_steps
  (with_reducible rename News _ _ _ _ => N9)
  (with_reducible rename Fr _ _ _ _ => F9)
  (with_reducible rename Below _ _ _ _ => B9)
  (with_reducible rename Top _ _ _ _ _ _ => T9)
  (with_reducible rename Frag.In _ _ => X9)
  (with_reducible rename _ ∧ _ => l9)
  (with_reducible rename ∀ p ∈ news, p.1 < _ => l8)
  have N10 := cb_drop N9 (fun p hp => List.Mem.tail _ hp)
  clear N9
  refine Halt.mk (iter_list_K F9 N10 (.tail _ hl) ?_)
  intro I h10 o10 hI10 F11 N11 hlt
  refine hoLoop w ca _ I news cv nc cells h8 hc hI hl loose mean mg mb dp un gd cn cs L a ccd cl outer base _ _ _ B9 X9 T9 (by omega) (by omega) s.os l8 (hlt _ (.head _)) _ _ _ hI10 ⟨_, _, _, rfl, rfl, rfl⟩ ?_ F11 N11 hb rfl ?_
  · intro t1 t2 t3 y e1 e2 e3
    show (if y = Str.ofString "inside" then _ else if y = Str.ofString "lacking" then _ else if y = Str.ofString "now" then _ else if y = Str.ofString "hours" then _ else List.lookup y [(Str.ofString "cells", Value.ref ca)]) = _
    simp only [List.lookup]
    by_cases h1 : y = Str.ofString "comes"
    · subst h1; rfl
    by_cases h2 : y = Str.ofString "cell"
    · subst h2; rfl
    by_cases h3 : y = Str.ofString "inside"
    · subst h3; exact e3
    by_cases h4 : y = Str.ofString "lacking"
    · subst h4; exact e2
    by_cases h5 : y = Str.ofString "now"
    · subst h5; exact e1
    by_cases h6 : y = Str.ofString "hours"
    · subst h6; rfl
    by_cases h7 : y = Str.ofString "cells"
    · subst h7; rfl
    simp only [hoMap, if_neg h1, if_neg h2, if_neg h3, if_neg h4, if_neg h5, if_neg h6, if_neg h7, beq_eq_false_iff_ne.mpr h7]
  · rintro m12 news12 s12 ⟨now, lacking, inside, t1, t2, t3, v1, v2, hv, hs, n1, tus, rfl, hm, hH, htu, hw0, hw4, hl0, hl4, hi0, hi4, hvl, hfin⟩ F12 N12 hb12 ho12
    rw [List.drop_length] at hfin
    simp only [hoursL, List.append_nil] at hfin
    subst hfin
    obtain ⟨heap12, gens12, drawn12, toks12, os12⟩ := s12
    have F13 := fr_cast F12 hm
    clear F12 F9 N10 F11 N11 hm
    (try dsimp only)
    k_steps
    exact hret _ _ _ ⟨_, hv, n1, tus, rfl, hH, htu, l8, rfl⟩ (by k_asm) (by k_asm) hb12 ho12
end Mine
end
theorem Mine.calmCGet : True := by w_top off; first | walk1 | trivial
section
open PySem PySem.W PyProof.Rows PySem.Calls PySem.Spec
set_option maxRecDepth 100000
namespace Mine
def m9e36 : Lean.MacroM (Lean.TSyntax `tactic) := Mine.t9sh "wpAny _ _ ( call ( Value.builtin $iter$ ) ( List.cons _ ( List.cons _ List.nil ) ) ) _ _ _" []
def m9k19 : Lean.MacroM (Lean.TSyntax `tactic) := Mine.t9seq [Mine.t9red (Mine.m9e36), Mine.t9dflt (Mine.t9seq [Mine.t9ref "iter_ci_K" "F N m _", Mine.t9case "F" (Mine.m9e13), Mine.t9case "N" (Mine.m9e13), Mine.t9case "m" (Mine.m9e14)]), Mine.t9intro "D' h' F' N' l1", Mine.t9try (Mine.m9e27), Mine.t9try (Mine.m9e28)]
local macro_rules | `(tactic| walk_at $s) => Mine.mw s [("ite", Mine.m9k6), ("call ref", Mine.m9k7), ("inplaceOp Add str str", Mine.m9k8), ("exec For Name Name cons nil", Mine.m9e24), ("pyIter ref", Mine.m9k10), ("call builtin:iter", Mine.m9k19)]
theorem ne_fiter_token : (Str.ofString "fiter" = Str.ofString "token") = False := eq_false (by decide +kernel)
theorem ne_fiter_ch : (Str.ofString "fiter" = Str.ofString "ch") = False := eq_false (by decide +kernel)
theorem ne_fiter_self : (Str.ofString "fiter" = Str.ofString "self") = False := eq_false (by decide +kernel)
theorem ne_token_fiter : (Str.ofString "token" = Str.ofString "fiter") = False := eq_false (by decide +kernel)
theorem ne_token_ch : (Str.ofString "token" = Str.ofString "ch") = False := eq_false (by decide +kernel)
theorem ne_token_self : (Str.ofString "token" = Str.ofString "self") = False := eq_false (by decide +kernel)
theorem ne_ch_fiter : (Str.ofString "ch" = Str.ofString "fiter") = False := eq_false (by decide +kernel)
theorem ne_ch_token : (Str.ofString "ch" = Str.ofString "token") = False := eq_false (by decide +kernel)
theorem ne_ch_self : (Str.ofString "ch" = Str.ofString "self") = False := eq_false (by decide +kernel)
theorem ne_self_fiter : (Str.ofString "self" = Str.ofString "fiter") = False := eq_false (by decide +kernel)
theorem ne_self_token : (Str.ofString "self" = Str.ofString "token") = False := eq_false (by decide +kernel)
theorem ne_self_ch : (Str.ofString "self" = Str.ofString "ch") = False := eq_false (by decide +kernel)
theorem lookup1 (y k : Str) (v : Value) : List.lookup y [(k, v)] = if y = k then some v else none := by
  by_cases h : y = k
  · subst h; simp [List.lookup]
  · simp [List.lookup, h, beq_eq_false_iff_ne.mpr h]
theorem mem_drop1 {α : Type} {a : α} {l rest : List α} : ∀ p ∈ l ++ rest, p ∈ l ++ a :: rest := by
  intro p hp
  rcases List.mem_append.mp hp with h | h
  · exact List.mem_append_left _ h
  · exact List.mem_append_right _ (.tail _ h)
set_option maxHeartbeats 8000000 in
theorem c_get (w : World) (x : LxC) (vs : Array Value) (tq : Tok) (np : Nat) (ln : Int) (tl : Tok) (us : List Value) (ng : Nat) (rest : List (Addr × Obj)) (cs tok' rst : List Nat) :
   CC 40 w 42 (x.news w [] np ln tl us ng ++ rest) (x.Ok vs tq ∧ lexO cs = some (tok', rst) ∧ SV us cs.reverse ∧ cs.length < 400 ∧ 0 ≤ ln ∧ ln + cs.length < 1000 ∧ (∀ p ∈ rest, p.1 ≠ x.G) ∧ (∀ p ∈ rest, p.1 ≠ x.dD)) [.ref x.D]
     (fun v news' => ∃ t tl' us' ng', v = .str ⟨tok'.toArray⟩ t ∧ SV us' rst.reverse ∧ news' = x.news w [] np (ln + nls cs - nls rst) tl' us' ng' ++ rest) := by
  have l9 : Mine.Lead9 := trivial
  have l0 : Mine.Lead0 := trivial
  revert w x vs tq np ln tl us ng rest cs tok' rst
  intro w x vs tq np ln tl us ng rest cs tok' rst
  rename Mine.Lead0 => l0; clear l0
  dsimp only [CC, PP, KK]
  k_fill
  intro loose mean mg mb dp un gd cn cs' a ccd cl outer A₀ base h₀ L m s Q B F X N T hk hp hd hu hb hret
  obtain ⟨ok, hlex, sv, hlen, l0, l1, hG, hD⟩ := hp
  have key : ∀ (t tl' : Tok) (us' : List Value) (ng' : Nat) (s' : Shared), SV us' rst.reverse → Fr h₀ L s'.heap m →
      News h₀ L s'.heap (x.news w [] np (ln + nls cs - nls rst) tl' us' ng' ++ rest) → AllBare s'.gens → s'.os = s.os → Q (.ok (.ret (.str ⟨tok'.toArray⟩ t))) s' :=
    fun t tl' us' ng' s' sv' F' N' hb' ho' => hret _ _ s' ⟨t, tl', us', ng', rfl, sv', rfl⟩ F' N' hb' ho'
  clear hret
  simp only [LxC.news, List.cons_append, List.nil_append] at N
  k_dflt cell_enter
  k_steps
  (repeat ((with_reducible rename _ ∧ _ => hc); obtain ⟨_, _⟩ := hc))
  (with_reducible rename Fr _ _ _ _ => F9)
  (with_reducible rename News _ _ _ _ => N9)
  refine' loopO w x vs tq ok [] np rest _ _ _ loose mean mg mb dp un gd cn cs' L a ccd cl outer base _ _ _ (by assumption) (by assumption) (by assumption) (by omega) (by omega) rst tok' s.os _ (allne0 (by assumption)) cs.length cs us ng ln tl none _ (Nat.le_refl _) hlex ⟨sv, hlen, l0, l1, hG, hD, by omega, by omega⟩ (fr_cast F9 ?hF) (cb_drop N9 (mem_swap2 (l := x.news w [] np ln tl us ng) (rest := rest))) hb rfl ?hR ?hE
  case hF =>
    intro y
    show (if y = Str.ofString "fiter" then _ else if y = Str.ofString "token" then _ else List.lookup y [(Str.ofString "self", Value.ref x.D)]) = _
    rw [lookup1]
    simp only [gtMap]
    (repeat' split) <;> first | rfl | (exfalso; simp_all [ne_fiter_token, ne_fiter_ch, ne_fiter_self, ne_token_fiter, ne_token_ch, ne_token_self, ne_ch_fiter, ne_ch_token, ne_ch_self, ne_self_fiter, ne_self_token, ne_self_ch]; done)
  case hR =>
    intro s2 us2 ng2 tl2 t2 m2 sv2 F2 N2 hb2 ho2
    obtain ⟨heap2, gens2, drawn2, toks2, os2⟩ := s2
    (try dsimp only)
    k_steps
    exact key _ _ _ _ _ sv2 (by k_asm) (cb_drop (by k_asm) mem_drop1) hb2 ho2
  case hE =>
    intro e0 s2 us2 ng2 tl2 ch2 sv2 F2 N2 hb2 ho2
    obtain ⟨heap2, gens2, drawn2, toks2, os2⟩ := s2
    subst e0
    (try dsimp only)
    k_steps
    exact key _ _ _ _ _ sv2 (by k_asm) (cb_drop (by k_asm) mem_drop1) hb2 ho2
end Mine
end
theorem Mine.calmCGetP : True := by w_top off; first | walk1 | trivial
section
open PySem PySem.W PyProof.Rows PySem.Calls PySem.Spec
set_option maxRecDepth 100000
namespace Mine
theorem kl_cut_head (v : Value) (pb : List Value) : kl_cut (v :: pb).toArray.toList 0 = some ([], v, pb) := rfl
theorem popk {v : Value} {pb : List Value} : seqIndex? 0 (v :: pb).toArray.size = some 0 := by simp [seqIndex?]
theorem truthy_cons_K {prog : Program} {w : World} {A : Around} {E : Value → Shared → Prop} {s : Shared} {h₀ : Heap} {L : Addr} {news : List (Addr × Obj)} {l : Addr} {ws : List Value} {v : Value} {n : Nat} {Q : Bool → Shared → Prop} (N : News h₀ L s.heap news) (hm : (l, W.listOf (v :: ws).toArray n) ∈ news) (hz : ws.length < 1000000)
    (h : Q true { s with toks := s.toks + 1 + 1 }) : wpAny (model prog w) A (truthy (.ref l)) Q E s :=
  truthy_list_K N hm (by simp only [List.length_cons]; omega) h
def m9k20 : Lean.MacroM (Lean.TSyntax `tactic) := Mine.t9dflt (Mine.t9seq [Mine.t9ref "truthy_cons_K" "N m z _", Mine.t9case "N" (Mine.m9e13), Mine.t9case "m" (Mine.m9e14), Mine.t9case "z" (Mine.m9l4), Mine.m9e15])
def m9e37 : Lean.MacroM (Lean.TSyntax `tactic) := Mine.t9ex "popk" []
def m9e38 : Lean.MacroM (Lean.TSyntax `tactic) := Mine.t9ex "kl_cut_head _ _" []
def m9k21 : Lean.MacroM (Lean.TSyntax `tactic) := Mine.t9seq [Mine.t9dflt (Mine.t9seq [Mine.t9ref "kl_popAt" "F N f k e U z _", Mine.t9case "F" (Mine.m9e13), Mine.t9case "N" (Mine.m9e13), Mine.t9case "U" (Mine.m9e16), Mine.t9case "f" (Mine.m9l8), Mine.t9case "k" (Mine.m9e37), Mine.t9case "e" (Mine.m9e38), Mine.t9case "z" (Mine.t9seq [Mine.m9e18, Mine.m9e19, Mine.m9l4]), Mine.m9e15]), Mine.t9intro "h' F' N'", Mine.t9try (Mine.m9e20)]
local macro_rules | `(tactic| walk_at $s) => Mine.mw s [("truthy ref", Mine.m9k20), ("call builtin:list.pop", Mine.m9k21)]
set_option maxHeartbeats 8000000 in
theorem c_getP (w : World) (x : LxC) (vs : Array Value) (tq : Tok) (v : Value) (pb : List Value) (np : Nat) (ln : Int) (tl : Tok) (us : List Value) (ng : Nat) (rest : List (Addr × Obj)) :
   CC 40 w 42 (x.news w (v :: pb) np ln tl us ng ++ rest) (x.Ok vs tq ∧ pb.length < 100 ∧ (∀ p ∈ rest, p.1 ≠ x.P)) [.ref x.D]
     (fun v' news' => v' = v ∧ news' = x.news w pb (np + 1) ln tl us ng ++ rest) := by
  have l9 : Mine.Lead9 := trivial
  have l0 : Mine.Lead0 := trivial
  revert w x vs tq v pb np ln tl us ng rest
  intro w x vs tq v pb np ln tl us ng rest
  rename Mine.Lead0 => l0; clear l0
  dsimp only [CC, PP, KK]
  k_fill
  intro loose mean mg mb dp un gd cn cs' a ccd cl outer A₀ base h₀ L m s Q B F X N T hk hp hd hu hb hret
  obtain ⟨ok, hpl, hP⟩ := hp
  have key : ∀ (s' : Shared), Fr h₀ L s'.heap m →
      News h₀ L s'.heap (x.news w pb (np + 1) ln tl us ng ++ rest) → s'.gens = s.gens → s'.os = s.os → Q (.ok (.ret v)) s' :=
    fun s' F' N' hg ho' => hret _ _ s' ⟨rfl, rfl⟩ F' N' (hg ▸ hb) ho'
  clear hret
  obtain ⟨o1, o2, o3, o4, o5, o6, o7, o8, o9, cg, cell, code, qual⟩ := ok
  simp only [LxC.news, List.cons_append, List.nil_append] at N
  k_dflt cell_enter
  k_steps
  all_goals exact key _ (by k_asm) (by k_asm) rfl rfl
end Mine
end
theorem Mine.calmCPush : True := by w_top off; first | walk1 | trivial
section
open PySem PySem.W PyProof.Rows PySem.Calls PySem.Spec
set_option maxRecDepth 100000
namespace Mine
theorem push_arr (pb : List Value) (v : Value) : pb.toArray.push v = (pb ++ [v]).toArray := by simp
set_option maxHeartbeats 8000000 in
theorem c_push (w : World) (x : LxC) (vs : Array Value) (tq : Tok) (v : Value) (pb : List Value) (np : Nat) (ln : Int) (tl : Tok) (us : List Value) (ng : Nat) (rest : List (Addr × Obj)) :
   CC 20 w 49 (x.news w pb np ln tl us ng ++ rest) (x.Ok vs tq ∧ pb.length < 100 ∧ (∀ p ∈ rest, p.1 ≠ x.P)) [.ref x.D, v]
     (fun v' news' => v' = .none ∧ news' = x.news w (pb ++ [v]) (np + 1) ln tl us ng ++ rest) := by
  have l9 : Mine.Lead9 := trivial
  have l0 : Mine.Lead0 := trivial
  revert w x vs tq v pb np ln tl us ng rest
  intro w x vs tq v pb np ln tl us ng rest
  rename Mine.Lead0 => l0; clear l0
  dsimp only [CC, PP, KK]
  k_fill
  intro loose mean mg mb dp un gd cn cs' a ccd cl outer A₀ base h₀ L m s Q B F X N T hk hp hd hu hb hret
  obtain ⟨ok, hpl, hP⟩ := hp
  have key : ∀ (s' : Shared), Fr h₀ L s'.heap m →
      News h₀ L s'.heap (x.news w (pb ++ [v]) (np + 1) ln tl us ng ++ rest) → s'.gens = s.gens → s'.os = s.os → Q (.ok (.ret .none)) s' :=
    fun s' F' N' hg ho' => hret _ _ s' ⟨rfl, rfl⟩ F' N' (hg ▸ hb) ho'
  clear hret
  obtain ⟨o1, o2, o3, o4, o5, o6, o7, o8, o9, cg, cell, code, qual⟩ := ok
  simp only [LxC.news, List.cons_append, List.nil_append] at N
  simp only [LxC.news, List.cons_append, List.nil_append, ← push_arr] at key
  have hz9 : pb.toArray.size < 1000 := by rw [List.size_toArray]; omega
  k_dflt cell_enter
  k_steps
  all_goals exact key _ (by k_asm) (by k_asm) rfl rfl
end Mine
end
theorem Mine.calmCLexer : True := by w_top off; first | walk1 | trivial
section
open PySem PySem.W PyProof.Rows PySem.Calls PySem.Spec
set_option maxRecDepth 100000
namespace Mine
def m9e39 : Lean.MacroM (Lean.TSyntax `tactic) := Mine.t9sh "wpAny _ _ ( call ( Value.type $list$ ) ( List.cons ( Value.str _ _ ) List.nil ) ) _ _ _" []
def m9k22 : Lean.MacroM (Lean.TSyntax `tactic) := Mine.t9seq [Mine.t9red (Mine.m9e39), Mine.t9dflt (Mine.t9seq [Mine.t9ref "list_str_K" "rfl F N z _", Mine.t9case "F" (Mine.m9e13), Mine.t9case "N" (Mine.m9e13), Mine.t9case "z" (Mine.m9e30)]), Mine.t9intro "D' ys' c' h' tk' F' N' l1 sv'", Mine.t9try (Mine.m9e27), Mine.t9try (Mine.m9e28)]
def m9e40 : Lean.MacroM (Lean.TSyntax `tactic) := Mine.t9sh "wpAny _ _ ( subscriptTail _ ( PySem.Expr.Slice none none ( some _ ) _ ) ( Value.ref _ ) ( Value.ref _ ) ) _ _ _" []
def m9e41 : Lean.MacroM (Lean.TSyntax `tactic) := Mine.t9ex "IsPart.int _ _" []
def m9e42 : Lean.MacroM (Lean.TSyntax `tactic) := Mine.t9kw "PySem.W.tacticKmk_pure kmk_pure"
def m9e43 : Lean.MacroM (Lean.TSyntax `tactic) := Mine.t9simp "PySem.Str.length" "*"
def m9l11 : Lean.MacroM (Lean.TSyntax `tactic) := `(tactic| simpa using (by assumption))
def m9e44 : Lean.MacroM (Lean.TSyntax `tactic) := Mine.t9ex "Nat.le_trans ( Mine.sh9 ( LE.le ( List.length _ ) _ ) %0 ) %1" [(Mine.t9seq [Mine.m9e43, Mine.m9l11]), (Mine.t9seq [Mine.m9e18, Mine.m9l4])]
def m9k23 : Lean.MacroM (Lean.TSyntax `tactic) := Mine.t9seq [Mine.t9red (Mine.m9e40), Mine.t9dflt (Mine.t9seq [Mine.t9ref "rev_SV" "F N l k i z _ s t", Mine.t9case "F" (Mine.m9e13), Mine.t9case "N" (Mine.m9e13), Mine.t9case "l" (Mine.m9e14), Mine.t9case "k" (Mine.m9e41), Mine.t9case "i" (Mine.t9red (Mine.m9l3)), Mine.t9case "s" (Mine.t9unf (Mine.m9l8)), Mine.t9case "t" (Mine.m9e42), Mine.t9case "z" (Mine.m9e44)]), Mine.t9intro "D' us' h' F' N' l1 sv'", Mine.t9try (Mine.m9e27), Mine.t9try (Mine.m9e28)]
def m9l12 : Lean.MacroM (Lean.TSyntax `tactic) := `(tactic| walk_at "last subscriptTail")
def m9e45 : Lean.MacroM (Lean.TSyntax `tactic) := Mine.t9kw "tacticKernel_rfl kernel_rfl"
def m9e46 : Lean.MacroM (Lean.TSyntax `tactic) := Mine.t9ex "codeHd_of_K ( ^c 127 ) ( ^P 123 ) %0 %1" [(Mine.m9l3), (Mine.m9e45)]
def m9e47 : Lean.MacroM (Lean.TSyntax `tactic) := Mine.t9ex "rfl" []
def m9e48 : Lean.MacroM (Lean.TSyntax `tactic) := Mine.t9kw "PySem.W.tacticK_is k_is"
def m9e49 : Lean.MacroM (Lean.TSyntax `tactic) := Mine.t9ex "BindsTo.of_eq rfl" []
def m9e50 : Lean.MacroM (Lean.TSyntax `tactic) := Mine.t9kw "PySem.W.tacticK_cells_ k_cells ~Y'"
def m9e51 : Lean.MacroM (Lean.TSyntax `tactic) := Mine.t9simp "List.cons_append List.nil_append" "~N'"
def m9e52 : Lean.MacroM (Lean.TSyntax `tactic) := Mine.t9kw "PySem.W.tacticK_lift_ k_lift ~B'"
def m9e53 : Lean.MacroM (Lean.TSyntax `tactic) := Mine.t9kw "PySem.W.tacticK_fold k_fold"
def m9k26 : Lean.MacroM (Lean.TSyntax `tactic) := Mine.t9seq [Mine.t9ref "code_defC" "k1 k2 k3 k4 k5 kA kF kK k6 k7 k8 k9 kB kD _ c2 c3 c4", Mine.t9case "kA" (Mine.m9e47), Mine.t9case "kF" (Mine.m9e47), Mine.t9case "kK" (Mine.m9l3), Mine.t9case "k1" (Mine.m9e13), Mine.t9case "k2" (Mine.m9e13), Mine.t9case "k3" (Mine.m9e13), Mine.t9case "k4" (Mine.m9e13), Mine.t9case "k5" (Mine.m9e13), Mine.t9case "k6" (Mine.m9e48), Mine.t9case "k7" (Mine.m9e48), Mine.t9case "k8" (Mine.m9e0), Mine.t9case "k9" (Mine.m9e49), Mine.t9case "kB" (Mine.m9e47), Mine.t9case "kD" (Mine.m9l10), Mine.t9case "c2" (Mine.m9e47), Mine.t9case "c3" (Mine.m9e47), Mine.t9case "c4" (Mine.m9e47), Mine.m9e15, Mine.t9intro "g' L' h' tk' cells' FG' F' N' Y' B' X' T' l1", Mine.t9try (Mine.m9e27), Mine.m9e50, Mine.t9try (Mine.m9e51), Mine.t9try (Mine.m9e3), Mine.t9try (Mine.m9e52), Mine.t9try (Mine.m9e53)]
local macro_rules | `(tactic| kn_code) => Mine.m9e46
local macro_rules | `(tactic| walk_at $s) => Mine.mw s [("call type:list", Mine.m9k22), ("last subscriptTail", Mine.m9k23), ("subscriptTail Name Slice ref ref", Mine.m9l12), ("my enterC", Mine.m9k26)]
theorem lex_pack {w : World} {h₀ : Heap} {L : Addr} {m : Str → Option Value} {news old tab : List (Addr × Obj)} {Q : Result → Shared → Prop} {s s' : Shared} {vs : Array Value} {tq tl : Tok} {us : List Value} {cs : List Nat}
    {P D dD f c' P2 S dS G C : Addr} {doc pm ct : Value} {oc oC : Obj} {t1 t2 t3 t4 tw u1 u2 u3 u4 u5 ul uw : Tok}
    (hret : ∀ (v : Value) (news2 : List (Addr × Obj)) (s' : Shared), (∃ (x : LxC) (vs : Array Value) (tq tl : Tok) (us : List Value), v = .ref x.D ∧ x.Ok vs tq ∧ SV us cs.reverse ∧ @LT.lt Nat _ 123 x.C ∧ (∀ p ∈ old, @LT.lt Nat _ p.1 x.C) ∧ x.c' = c' ∧ x.oc = oc ∧ news2 = x.news w [] 0 1 tl us 0 ++ tab) → Fr h₀ L s'.heap m → News h₀ L s'.heap news2 → AllBare s'.gens → s'.os = s.os → Q (.ok (.ret v)) s')
    (N : News h₀ L s'.heap news) (F : Fr h₀ L s'.heap m)
    (sub : ∀ p ∈ [(P, W.listOf #[] 0), (D, instObj 52 dD), (dD, dictOf (dEnt w t1 t2 t3 t4 1 tl (.ref S) tw P) 4), (f, pieceFn C doc pm c' ct), (c', oc), (P2, W.listOf #[] 0), (S, instObj 52 dS), (dS, dictOf (sEnt w u1 u2 u3 u4 u5 ul uw P2 f) 5), (G, W.listOf us.toArray 0), (C, oC)] ++ tab, p ∈ news)
    (o1 : @LT.lt Nat _ C G) (o2 : @LT.lt Nat _ G dS) (o3 : @LT.lt Nat _ dS S) (o4 : @LT.lt Nat _ S P2) (o5 : @LT.lt Nat _ P2 f) (o6 : @LT.lt Nat _ c' f) (o7 : @LT.lt Nat _ f dD) (o8 : @LT.lt Nat _ dD D) (o9 : @LT.lt Nat _ D P) (cg : @Ne Nat c' G)
    (cell : oC.data = .cell (some (.ref G))) (code : oc.data = .fields vs) (qual : vs[1]? = some (.str "_law_lexer.<locals>._law_piece" tq)) (sv : SV us cs.reverse) (h1 : @LT.lt Nat _ 123 C) (h2 : ∀ p ∈ old, @LT.lt Nat _ p.1 C) (hg : s'.gens = s.gens) (hb : AllBare s.gens) (ho : s'.os = s.os) : Q (.ok (.ret (.ref D))) s' :=
  hret _ _ s' ⟨⟨P, D, dD, f, c', P2, S, dS, G, C, doc, pm, ct, oc, oC, t1, t2, t3, t4, tw, u1, u2, u3, u4, u5, ul, uw⟩, vs, tq, tl, us, rfl, ⟨o1, o2, o3, o4, o5, o6, o7, o8, o9, cg, cell, code, qual⟩, sv, h1, h2, rfl, rfl, rfl⟩ F (fun p hp => N p (sub p hp)) (hg ▸ hb) ho
theorem sub1 {α : Type} {a1 a2 a3 a4 a5 a6 a7 a8 a9 y a10 b : α} {r : List α} : ∀ p ∈ [a1, a2, a3, a4, a5, a6, a7, a8, a9, a10] ++ b :: r, p ∈ a1 :: a2 :: a3 :: a4 :: a5 :: a6 :: a7 :: a8 :: a9 :: y :: a10 :: b :: r := by
  intro p hp
  first
    | ((revert p hp); (try dsimp only [List.cons_append, List.nil_append]); (repeat' (first | with_reducible refine List.forall_mem_cons.mpr ⟨?_, ?_⟩ | with_reducible refine List.forall_mem_append.mpr ⟨?_, ?_⟩ | with_reducible exact List.forall_mem_nil _ | (intro _ _; ((repeat (first | with_reducible assumption | with_reducible exact List.mem_cons_self | (with_reducible refine List.mem_append_left _ ?_; (repeat (first | with_reducible exact List.mem_cons_self | with_reducible refine List.mem_cons_of_mem _ ?_ | with_reducible assumption)); done) | with_reducible refine List.mem_append_right _ ?_ | with_reducible refine List.mem_cons_of_mem _ ?_)); done)) | ((repeat (first | with_reducible assumption | with_reducible exact List.mem_cons_self | (with_reducible refine List.mem_append_left _ ?_; (repeat (first | with_reducible exact List.mem_cons_self | with_reducible refine List.mem_cons_of_mem _ ?_ | with_reducible assumption)); done) | with_reducible refine List.mem_append_right _ ?_ | with_reducible refine List.mem_cons_of_mem _ ?_)); done))); done)
    | (simp only [List.cons_append, List.nil_append, List.mem_cons] at hp ⊢; rcases hp with h | h | h | h | h | h | h | h | h | h | h | h <;> simp [h])
theorem allLt_of' {d : Addr} {l : List (Addr × Obj)} (h : AllLt d l) : ∀ p ∈ l, @LT.lt Nat _ p.1 (d + 1) := by
  induction l with
  | nil => intro p hp; cases hp
  | cons a r ih => intro p hp; cases hp with
    | head => exact Nat.lt_succ_of_lt h.1
    | tail _ hp => exact ih h.2 p hp
set_option maxHeartbeats 8000000 in
theorem c_lexer1 (w : World) (resp : Str) (t : Tok) (news : List (Addr × Obj)) :
   CC 30 w 128 ((123, tabObj #[]) :: news) (resp.length ≤ 399 ∧ (∀ p ∈ news, p.1 ≠ 123)) [.str resp t]
    (fun v news2 => ∃ (x : LxC) (vs : Array Value) (tq tl : Tok) (us : List Value), v = .ref x.D ∧ x.Ok vs tq ∧ SV us resp.cps.toList.reverse ∧ @LT.lt Nat _ 123 x.C ∧ (∀ p ∈ news, @LT.lt Nat _ p.1 x.C) ∧ news2 = x.news w [] 0 1 tl us 0 ++ (123, tabObj #[rawInt 117, rawInt 4, .ref x.c']) :: news) := by
  have l9 : Mine.Lead9 := trivial
  have l0 : Mine.Lead0 := trivial
  revert w resp t news
  intro w resp t news
  rename Mine.Lead0 => l0; clear l0
  dsimp only [CC, PP, KK]
  k_fill
  intro loose mean mg mb dp un gd cn cs a ccd cl outer A₀ base h₀ L m s Q B F X N T hk hp hd hu hb hret
  have C0 := codeHd_of_K (c := 127) (P := 123) X (by kernel_rfl)
  obtain ⟨hp, hne3⟩ := hp
  k_dflt (walk_at "my enterC")
  k_steps
  (repeat ((with_reducible rename _ ∧ _ => hc); obtain ⟨_, _⟩ := hc))
  (with_reducible rename Fr _ _ _ _ => F9)
  (with_reducible rename News _ _ _ _ => N9)
  refine lex_pack (old := news) (tab := (123, tabObj #[rawInt 117, rawInt 4, .ref _]) :: news) ?_ N9 F9 sub1 (by omega) (by omega) (by omega) (by omega) (by omega) (by omega) (by omega) (by omega) (by omega) (by omega) (by assumption) (by assumption) (by assumption) (by assumption) (by omega) (allLt_of' (by assumption)) rfl hb rfl
  rintro v news2 s' ⟨x, vs, tq, tl, us, e1, ok, sv, h1, h2, e2, e3, e4⟩ F' N' hb' ho'
  subst e2
  exact hret v news2 s' ⟨x, vs, tq, tl, us, e1, ok, sv, h1, h2, e4⟩ F' N' hb' ho'
end Mine
end
theorem Mine.calmCLexer2 : True := by w_top off; first | walk1 | trivial
section
open PySem PySem.W PyProof.Rows PySem.Calls PySem.Spec
set_option maxRecDepth 100000
namespace Mine
local macro_rules | `(tactic| kn_code) => Mine.m9e46
local macro_rules | `(tactic| walk_at $s) => Mine.mw s [("call type:list", Mine.m9k22), ("last subscriptTail", Mine.m9k23), ("subscriptTail Name Slice ref ref", Mine.m9l12), ("my enterC", Mine.m9k26)]
theorem sub2 {α : Type} {a1 a2 a3 a4 a5 a6 a7 a8 a9 y a10 b : α} {r : List α} : ∀ p ∈ [a1, a2, a3, a4, a5, a6, a7, a8, a9, a10] ++ b :: r, p ∈ a1 :: a2 :: a3 :: a4 :: a6 :: a7 :: a8 :: a9 :: y :: a10 :: b :: a5 :: r := by
  intro p hp
  first
    | ((revert p hp); (try dsimp only [List.cons_append, List.nil_append]); (repeat' (first | with_reducible refine List.forall_mem_cons.mpr ⟨?_, ?_⟩ | with_reducible refine List.forall_mem_append.mpr ⟨?_, ?_⟩ | with_reducible exact List.forall_mem_nil _ | (intro _ _; ((repeat (first | with_reducible assumption | with_reducible exact List.mem_cons_self | (with_reducible refine List.mem_append_left _ ?_; (repeat (first | with_reducible exact List.mem_cons_self | with_reducible refine List.mem_cons_of_mem _ ?_ | with_reducible assumption)); done) | with_reducible refine List.mem_append_right _ ?_ | with_reducible refine List.mem_cons_of_mem _ ?_)); done)) | ((repeat (first | with_reducible assumption | with_reducible exact List.mem_cons_self | (with_reducible refine List.mem_append_left _ ?_; (repeat (first | with_reducible exact List.mem_cons_self | with_reducible refine List.mem_cons_of_mem _ ?_ | with_reducible assumption)); done) | with_reducible refine List.mem_append_right _ ?_ | with_reducible refine List.mem_cons_of_mem _ ?_)); done))); done)
    | (simp only [List.cons_append, List.nil_append, List.mem_cons] at hp ⊢; rcases hp with h | h | h | h | h | h | h | h | h | h | h | h <;> simp [h])
set_option maxHeartbeats 8000000 in
theorem c_lexer2 (w : World) (resp : Str) (t : Tok) (c' : Addr) (oc : Obj) (vs : Array Value) (tq : Tok) (news : List (Addr × Obj)) :
   CC 30 w 128 ((123, tabObj #[rawInt 117, rawInt 4, .ref c']) :: (c', oc) :: news) (resp.length ≤ 399 ∧ oc.data = .fields vs ∧ vs[1]? = some (.str "_law_lexer.<locals>._law_piece" tq)) [.str resp t]
    (fun v news2 => ∃ (x : LxC) (vs : Array Value) (tq tl : Tok) (us : List Value), v = .ref x.D ∧ x.Ok vs tq ∧ SV us resp.cps.toList.reverse ∧ @LT.lt Nat _ 123 x.C ∧ @LT.lt Nat _ c' x.C ∧ (∀ p ∈ news, @LT.lt Nat _ p.1 x.C) ∧ x.c' = c' ∧ x.oc = oc ∧ news2 = x.news w [] 0 1 tl us 0 ++ (123, tabObj #[rawInt 117, rawInt 4, .ref c']) :: news) := by
  have l9 : Mine.Lead9 := trivial
  have l0 : Mine.Lead0 := trivial
  revert w resp t c' oc vs tq news
  intro w resp t c' oc vs tq news
  rename Mine.Lead0 => l0; clear l0
  dsimp only [CC, PP, KK]
  k_fill
  intro loose mean mg mb dp un gd cn cs a ccd cl outer A₀ base h₀ L m s Q B F X N T hk hp hd hu hb hret
  have C0 := codeHd_of_K (c := 127) (P := 123) X (by kernel_rfl)
  obtain ⟨hp, d1, d2⟩ := hp
  k_dflt (walk_at "my enterC")
  k_steps
  (repeat ((with_reducible rename _ ∧ _ => hc); obtain ⟨_, _⟩ := hc))
  (with_reducible rename Fr _ _ _ _ => F9)
  (with_reducible rename News _ _ _ _ => N9)
  refine lex_pack (old := (c', oc) :: news) (tab := (123, tabObj #[rawInt 117, rawInt 4, .ref c']) :: news) ?_ N9 F9 sub2 (by omega) (by omega) (by omega) (by omega) (by omega) (by omega) (by omega) (by omega) (by omega) (by omega) (by assumption) d1 d2 (by assumption) (by omega) (List.forall_mem_cons.mpr ⟨Nat.lt_succ_of_lt (by assumption), allLt_of' (by assumption)⟩) rfl hb rfl
  rintro v news2 s' ⟨x, vs, tq, tl, us, e1, ok, sv, h1, h2, e2, e3, e4⟩ F' N' hb' ho'
  exact hret v news2 s' ⟨x, vs, tq, tl, us, e1, ok, sv, h1, (List.forall_mem_cons.mp h2).1, (List.forall_mem_cons.mp h2).2, e2, e3, e4⟩ F' N' hb' ho'
end Mine
end
theorem Mine.calmByTurn : True := by w_top off; first | walk1 | trivial
section
open PySem PySem.W PyProof.Rows PySem.Calls PySem.Spec
set_option maxRecDepth 100000
namespace Mine
def m9e54 : Lean.MacroM (Lean.TSyntax `tactic) := Mine.t9rf "neN ?_" []
def m9e55 : Lean.MacroM (Lean.TSyntax `tactic) := Mine.t9ex "Nat.ne_of_lt %0" [(Mine.t9red (Mine.m9l3))]
def m9e56 : Lean.MacroM (Lean.TSyntax `tactic) := Mine.t9ex "Nat.ne_of_gt %0" [(Mine.t9red (Mine.m9l3))]
def m9k27 : Lean.MacroM (Lean.TSyntax `tactic) := Mine.t9seq [Mine.m9e54, Mine.t9try (Mine.m9e3), Mine.t9first [Mine.m9e55, Mine.m9e56, Mine.t9red (Mine.m9l3), Mine.m9l4]]
def m9k28 : Lean.MacroM (Lean.TSyntax `tactic) := Mine.t9first [Mine.t9seq [Mine.t9call "42", Mine.m9e23], Mine.t9seq [Mine.t9call "49", Mine.m9e23], Mine.t9seq [Mine.t9call "154", Mine.m9e23]]
local macro_rules | `(tactic| k_ne) => Mine.m9k27
local macro_rules | `(tactic| walk_at $s) => Mine.mw s [("ite", Mine.m9k6), ("call ref", Mine.m9k28), ("subscriptTail Name UnaryOp ref int", Mine.m9e23)]
set_option maxHeartbeats 8000000 in
theorem byTurn (w : World) (xd xl : LxC) (vsd vsl : Array Value) (tqd tql : Tok) (okd : xd.Ok vsd tqd) (okl : xl.Ok vsl tql) (rl wl lh I : Addr) (book : Value) (tl : List (Addr × Obj)) (hs : List (Bool × Int)) (bk0 : List Nat) (all : List Str) (ws : List Int) (items : List Value) (hc : Nat)
    (loose : List Str) (mean : ExcName → Option Value) (mg mb : Str → Option Value) (dp un : Nat) (gd : Option (List Code)) (cn : Str) (cs0 : Scope) (Lc a : Addr) (ccd : Value) (cl : List (Str × Addr)) (outer : List Env) (base g : Heap) (L : Addr) (R : Result → Shared → Prop)
    (B : Below (ktrTop dp un gd cn cs0 Lc a ccd cl outer) base (envX cn cs0 Lc a ccd cl :: outer) g) (X : (KK w).In g) (T : Top VV loose mean mg mb g) (hd : dp + 60 < recursionLimit) (hu : un + 600 < cLine) (os : OsState)
    (hbk : bk0.length < 400) (h8 : hs.length ≤ 8) (hH : HrAt tl items hs) (hl : (lh, W.listOf items.toArray hc) ∈ tl) (hcc : xl.c' = xd.c')
    (p1 : @LT.lt Nat _ xd.P xl.C) (p2 : @LT.lt Nat _ xl.P rl) (p3 : @LT.lt Nat _ rl wl) (p4 : @LT.lt Nat _ wl I) (ptl : ∀ p ∈ tl, @LT.lt Nat _ p.1 xd.C)
    (i : Nat) (v : Value) (o' : Obj) (m : Str → Option Value) (news : List (Addr × Obj)) (s : Shared) (hi : items[i]? = some v) (hj : BlInv w xd xl rl wl lh book tl hs bk0 all ws i m news) (F : Fr g L s.heap m) (N : News g L s.heap ((I, o') :: news)) (hb : AllBare s.gens) (hos : s.os = os)
    (E E2 : Value → Shared → Prop) :
      wpAny (model PP w) ((ktrTop dp un gd cn cs0 Lc a ccd cl outer).deeper (blEnv L)) (assign (forTarget blFor) (blEnv L) v) (fun _ s₂ => wpAny (model PP w) ((ktrTop dp un gd cn cs0 Lc a ccd cl outer).deeper (blEnv L)) (execs (forBody blFor) (blEnv L)) (fun f s₃ => match f with
          | .next | .cont => EndAt (BlInv w xd xl rl wl lh book tl hs bk0 all ws (i + 1)) g L I o' os s₃
          | .brk => R (.ok .next) s₃
          | .ret v => R (.ok (.ret v)) s₃) E s₂) E2 s := by
  have l9 : Mine.Lead9 := trivial
  have l0 : Mine.Lead0 := trivial
  revert okd okl B X T hd hu hbk h8 hH hl hcc p1 p2 p3 p4 ptl hi hj F N hb hos
  revert w xd xl vsd vsl tqd tql rl wl lh I book tl hs bk0 all ws items hc loose mean mg mb dp un gd cn cs0 Lc a ccd cl outer base g L R os i v o' m news s E E2
  intro w xd xl vsd vsl tqd tql rl wl lh I book tl hs bk0 all ws items hc loose mean mg mb dp un gd cn cs0 Lc a ccd cl outer base g L R os i v o' m news s E E2
  intros okd okl B X T hd hu hbk h8 hH hl hcc p1 p2 p3 p4 ptl hi hj F N hb hos
  rename Mine.Lead0 => l0; clear l0
  dsimp only [PP, KK] at *
  revert X; k_fill; intro X
  obtain ⟨npd, lnd, tld, usd, ngd, pb, npl, tll, ngl, rv, n1, wv, n2, bk, up, q, wsd, wsr, rd, cv, nv, rfl, hm, hbook, svd, hbl, hln1, hln2, hq, hup, hff, hwi, hws, hrv, hall, z1, z2, z3⟩ := hj
  obtain ⟨ai, b, n, t, tc, rfl, hsi, hmt, hn0, hn4⟩ := hH.get hi
  have F0 := fr_cast F hm
  have hi8 : i < 8 := by
    have h1 := (List.getElem?_eq_some_iff.mp hsi).1
    omega
  have hdrop : hs.drop i = (b, n) :: hs.drop (i + 1) := by
    obtain ⟨h1, h2⟩ := List.getElem?_eq_some_iff.mp hsi
    rw [List.drop_eq_getElem_cons h1, h2]
  rw [hdrop] at hff
  dsimp only [blEnv] at *
  generalize hb1 : forBody blFor = body
  generalize hb2 : forTarget blFor = target
  generalize hb3 : fdScope blStmt = scope
  conv at hb1 => { lhs; whnf }
  conv at hb2 => { lhs; whnf }
  conv at hb3 => { lhs; whnf }
  subst hb1 hb2 hb3
  simp only [blNews, LxC.news, List.cons_append, List.nil_append] at N
  clear F hm
  obtain ⟨heap', gens', drawn', toks', os'⟩ := s
  have hmem : (ai, ({ cls := .type "tuple", data := .seq #[.bool b, .int n t] tc } : Obj)) ∈ (I, o') :: blNews w xd xl rl wl tl npd lnd tld usd ngd pb npl tll ngl rv n1 wv n2 :=
    .tail _ (List.mem_append_right _ (List.mem_append_right _ (.tail _ (.tail _ hmt))))
  simp only [blNews, LxC.news, List.cons_append, List.nil_append] at hmem
  have hG2 := okd.o2; have hG3 := okd.o3; have hG4 := okd.o4; have hG5 := okd.o5; have hG7 := okd.o7; have hG8 := okd.o8; have hG9 := okd.o9; have hG1 := okd.o1; have hG6 := okd.o6; have hGc := okd.cg
  have hL1 := okl.o1; have hL2 := okl.o2; have hL3 := okl.o3; have hL4 := okl.o4; have hL5 := okl.o5; have hL6 := okl.o6; have hL7 := okl.o7; have hL8 := okl.o8; have hL9 := okl.o9; have hLc := okl.cg
  have hcc' : @Eq Nat xl.c' xd.c' := hcc
  have dxlD : @LT.lt Nat _ xl.D rl := Nat.lt_trans hL9 p2
  have dxldD : @LT.lt Nat _ xl.dD rl := Nat.lt_trans hL8 dxlD
  have dxlf : @LT.lt Nat _ xl.f rl := Nat.lt_trans hL7 dxldD
  have dxlP2 : @LT.lt Nat _ xl.P2 rl := Nat.lt_trans hL5 dxlf
  have dxlS : @LT.lt Nat _ xl.S rl := Nat.lt_trans hL4 dxlP2
  have dxldS : @LT.lt Nat _ xl.dS rl := Nat.lt_trans hL3 dxlS
  have dxlG : @LT.lt Nat _ xl.G rl := Nat.lt_trans hL2 dxldS
  have dxlC : @LT.lt Nat _ xl.C rl := Nat.lt_trans hL1 dxlG
  have dxdP : @LT.lt Nat _ xd.P rl := Nat.lt_trans p1 dxlC
  have dxdD : @LT.lt Nat _ xd.D rl := Nat.lt_trans hG9 dxdP
  have dxddD : @LT.lt Nat _ xd.dD rl := Nat.lt_trans hG8 dxdD
  have dxdf : @LT.lt Nat _ xd.f rl := Nat.lt_trans hG7 dxddD
  have dxdP2 : @LT.lt Nat _ xd.P2 rl := Nat.lt_trans hG5 dxdf
  have dxdS : @LT.lt Nat _ xd.S rl := Nat.lt_trans hG4 dxdP2
  have dxddS : @LT.lt Nat _ xd.dS rl := Nat.lt_trans hG3 dxdS
  have dxdG : @LT.lt Nat _ xd.G rl := Nat.lt_trans hG2 dxddS
  have dxdC : @LT.lt Nat _ xd.C rl := Nat.lt_trans hG1 dxdG
  have exlP : @LT.lt Nat _ xl.P wl := Nat.lt_trans p2 p3
  have exlD : @LT.lt Nat _ xl.D wl := Nat.lt_trans dxlD p3
  have exldD : @LT.lt Nat _ xl.dD wl := Nat.lt_trans dxldD p3
  have exlf : @LT.lt Nat _ xl.f wl := Nat.lt_trans dxlf p3
  have exlP2 : @LT.lt Nat _ xl.P2 wl := Nat.lt_trans dxlP2 p3
  have exlS : @LT.lt Nat _ xl.S wl := Nat.lt_trans dxlS p3
  have exldS : @LT.lt Nat _ xl.dS wl := Nat.lt_trans dxldS p3
  have exlG : @LT.lt Nat _ xl.G wl := Nat.lt_trans dxlG p3
  have exlC : @LT.lt Nat _ xl.C wl := Nat.lt_trans dxlC p3
  have exdP : @LT.lt Nat _ xd.P wl := Nat.lt_trans dxdP p3
  have exdD : @LT.lt Nat _ xd.D wl := Nat.lt_trans dxdD p3
  have exddD : @LT.lt Nat _ xd.dD wl := Nat.lt_trans dxddD p3
  have exdf : @LT.lt Nat _ xd.f wl := Nat.lt_trans dxdf p3
  have exdP2 : @LT.lt Nat _ xd.P2 wl := Nat.lt_trans dxdP2 p3
  have exdS : @LT.lt Nat _ xd.S wl := Nat.lt_trans dxdS p3
  have exddS : @LT.lt Nat _ xd.dS wl := Nat.lt_trans dxddS p3
  have exdG : @LT.lt Nat _ xd.G wl := Nat.lt_trans dxdG p3
  have exdC : @LT.lt Nat _ xd.C wl := Nat.lt_trans dxdC p3
  have dxdc : @LT.lt Nat _ xd.c' rl := Nat.lt_trans hG6 dxdf
  have exdc : @LT.lt Nat _ xd.c' wl := Nat.lt_trans dxdc p3
  have dxlc : @LT.lt Nat _ xl.c' rl := Nat.lt_trans hL6 dxlf
  have exlc : @LT.lt Nat _ xl.c' wl := Nat.lt_trans dxlc p3
  have dcc : @LT.lt Nat _ xd.C xl.C := Nat.lt_trans hG1 (Nat.lt_trans hG2 (Nat.lt_trans hG3 (Nat.lt_trans hG4 (Nat.lt_trans hG5 (Nat.lt_trans hG7 (Nat.lt_trans hG8 (Nat.lt_trans hG9 p1)))))))
  have ne1 : ∀ (a : Addr), @LT.lt Nat _ xd.C a → @LE.le Nat _ a xd.P → @Ne Nat a xd.c' → ∀ (pb : List Value) (npl : Nat) (tll : Tok) (ngl : Nat) (rv : List Value) (n1 : Nat) (wv : List Value) (n2 : Nat),
      ∀ p ∈ (I, o') :: (xl.news w pb npl 1 tll [] ngl ++ ((rl, W.listOf rv.toArray n1) :: (wl, W.listOf wv.toArray n2) :: tl)), p.1 ≠ a := by
    intro a h1 h2 h3 pb npl tll ngl rv n1 wv n2
    refine List.forall_mem_cons.mpr ⟨neN (Nat.ne_of_gt (Nat.lt_of_le_of_lt h2 (Nat.lt_trans exdP p4))), all_app (news_ne w xl okl a (.inl (by omega)) (by omega) _ _ _ _ _ _) ?_⟩
    refine List.forall_mem_cons.mpr ⟨neN (Nat.ne_of_gt (Nat.lt_of_le_of_lt h2 dxdP)), List.forall_mem_cons.mpr ⟨neN (Nat.ne_of_gt (Nat.lt_of_le_of_lt h2 exdP)), fun p hp => neN (Nat.ne_of_lt (Nat.lt_trans (ptl p hp) h1))⟩⟩
  have ne2 : ∀ (a : Addr), @LT.lt Nat _ xl.C a → @LE.le Nat _ a xl.P → ∀ (npd : Nat) (lnd : Int) (tld : Tok) (usd : List Value) (ngd : Nat) (rv : List Value) (n1 : Nat) (wv : List Value) (n2 : Nat),
      ∀ p ∈ (I, o') :: (xd.news w [] npd lnd tld usd ngd ++ ((rl, W.listOf rv.toArray n1) :: (wl, W.listOf wv.toArray n2) :: tl)), p.1 ≠ a := by
    intro a h1 h2 npd lnd tld usd ngd rv n1 wv n2
    refine List.forall_mem_cons.mpr ⟨neN (Nat.ne_of_gt (Nat.lt_of_le_of_lt h2 (Nat.lt_trans (Nat.lt_trans p2 p3) p4))), all_app (news_ne w xd okd a (.inr (by omega)) (by omega) _ _ _ _ _ _) ?_⟩
    refine List.forall_mem_cons.mpr ⟨neN (Nat.ne_of_gt (Nat.lt_of_le_of_lt h2 p2)), List.forall_mem_cons.mpr ⟨neN (Nat.ne_of_gt (Nat.lt_of_le_of_lt h2 (Nat.lt_trans p2 p3))), fun p hp => neN (Nat.ne_of_lt (Nat.lt_trans (ptl p hp) (Nat.lt_trans dcc h1)))⟩⟩
  have nb1 := nls_lo bk; have nb2 := nls_hi bk; have nb3 := nls_hi bk0
  have hrz : rv.toArray.size < 1000 := by rw [List.size_toArray]; omega
  have hwz : wv.toArray.size < 1000 := by rw [List.size_toArray]; omega
  have htr : ∀ p ∈ tl, p.1 ≠ rl := fun p hp => neN (Nat.ne_of_lt (Nat.lt_trans (ptl p hp) dxdC))
  have htw : ∀ p ∈ tl, p.1 ≠ wl := fun p hp => neN (Nat.ne_of_lt (Nat.lt_trans (ptl p hp) exdC))
  have push_arr : ∀ (a : List Value) (v : Value), a.toArray.push v = (a ++ [v]).toArray := fun a v => by simp
  cases b with
  | true =>
    rcases lcases up with e9 | e9
    · subst e9; cases q <;> simp [fifo] at hff
    obtain ⟨r, up, e8⟩ := e9
    subst e8
    obtain ⟨hr1, hr2, hr3⟩ := hup r (.head _)
    obtain ⟨bk', hlex, hlen, hnls, hbook⟩ := hbook.inv
    k_steps
    (with_reducible rename News _ _ _ _ => N9)
    refine Halt.mk (CC.cl (c_get w xd vsd tqd npd lnd tld usd ngd ((I, o') :: (xl.news w pb npl 1 tll [] ngl ++ ((rl, W.listOf rv.toArray n1) :: (wl, W.listOf wv.toArray n2) :: tl))) bk r.1.cps.toList bk') loose mean mg mb (dp + 1) (un + 3) gd blName _ 161 (.ref 160) [] (envX cn cs0 Lc a ccd cl :: outer) (ktrTop dp un gd cn cs0 Lc a ccd cl outer) base g L _ _ _ _ B (by k_asm) X (cb_drop N9 (mem_r1 (x := (I, o')) (a := xd.news w [] npd lnd tld usd ngd) (b := xl.news w pb npl 1 tll [] ngl ++ ((rl, W.listOf rv.toArray n1) :: (wl, W.listOf wv.toArray n2) :: tl)))) T rfl ⟨okd, hlex, svd, hbl, by omega, by omega, ne1 xd.G (by omega) (by omega) (by omega) _ _ _ _ _ _ _ _, ne1 xd.dD (by omega) (by omega) (by omega) _ _ _ _ _ _ _ _⟩ (by omega) (by omega) hb ?_)
    rintro v news' s2 ⟨t1, tl1, us1, ng1, rfl, sv1, rfl⟩ F2 N2 hb2 ho2
    clear N9
    have N3 := cb_drop N2 mem_r1'
    clear N2
    rw [str_back]
    simp only [LxC.news, List.cons_append, List.nil_append] at N3
    obtain ⟨heap2, gens2, drawn2, toks2, os2⟩ := s2
    (try dsimp only)
    k_steps
    (with_reducible rename News _ _ _ _ => N9)
    refine Halt.mk (kim_back (l := rv ++ [Value.str r.1 t1]) (x := .str r.1 t1) (lo := W.listOf (rv.toArray.push (.str r.1 t1)) (n1 + 1)) (n := n1 + 1) N9 (by (repeat (first | exact List.Mem.head _ | refine List.Mem.tail _ ?_))) rfl (by rw [← push_arr]) (by decide) (by simp; omega) (by decide) (by simp [show (-1 + ((rv.length : Int) + 1)).toNat = rv.length by omega]) ?_)
    k_steps
    (with_reducible rename News _ _ _ _ => N9)
    rw [push_arr] at N9
    (with_reducible rename Fr _ _ _ _ => F9)
    have N4 : News g L _ ((I, o') :: (xd.news w [] npd (lnd + nls bk - nls bk') tl1 us1 ng1 ++ (xl.news w pb npl 1 tll [] ngl ++ ((rl, W.listOf (rv ++ [Value.str r.1 t1]).toArray (n1 + 1)) :: (wl, W.listOf wv.toArray n2) :: tl)))) := N9
    refine Halt.mk (CC.cl (c_push w xl vsl tql (.str r.1 t1) pb npl 1 tll [] ngl ((I, o') :: (xd.news w [] npd (lnd + nls bk - nls bk') tl1 us1 ng1 ++ ((rl, W.listOf (rv ++ [Value.str r.1 t1]).toArray (n1 + 1)) :: (wl, W.listOf wv.toArray n2) :: tl)))) loose mean mg mb (dp + 1) (un + 3) gd blName _ 161 (.ref 160) [] (envX cn cs0 Lc a ccd cl :: outer) (ktrTop dp un gd cn cs0 Lc a ccd cl outer) base g L _ _ _ _ B (by k_asm) X (cb_drop N4 mem_r2) T rfl ⟨okl, by omega, ne2 xl.P (by omega) (by omega) _ _ _ _ _ _ _ _ _⟩ (by omega) (by omega) (by assumption) ?_)
    rintro v5 news5 s5 ⟨rfl, rfl⟩ F5 N5 hb5 ho5
    have N6 := cb_drop N5 mem_r2'
    clear N5 N9 N4
    obtain ⟨heap5, gens5, drawn5, toks5, os5⟩ := s5
    (try dsimp only)
    k_steps
    refine ⟨_, _, ⟨npd, lnd + nls bk - nls bk', tl1, us1, ng1, pb ++ [.str r.1 t1], npl + 1, tll, ngl, rv ++ [.str r.1 t1], n1 + 1, wv, n2, bk', up, q ++ [r], wsd, wsr, rd ++ [r.1], some (.bool true), some (.int n t), rfl, ?_, hbook, sv1, by omega, by have := nls_lo bk'; omega, by omega, hq.append (.cons t1 hr1 hr2 hr3 .nil), fun r hr => hup r (.tail _ hr), ?_, hwi, hws, hrv.append (.cons t1 .nil), ?_, ?_, ?_, by omega⟩, F5, N6, hb5, ?_⟩
    · intro y
      by_cases h1 : y = Str.ofString "comes"
      · subst h1; rfl
      · by_cases h2 : y = Str.ofString "now"
        · subst h2; rfl
        · simp only [blMap, if_neg h1, if_neg h2]
    · cases q <;> simpa [fifo] using hff
    · rw [← hall]; simp
    · simp; omega
    · simp; omega
    · rw [ho5]; exact ho2.trans hos
  | false =>
    rcases lcases q with e9 | e9
    · subst e9; cases up <;> simp [fifo] at hff
    obtain ⟨r, q, e8⟩ := e9
    subst e8
    have hq9 := hq.inv
    clear hq
    obtain ⟨rs, rn, pb, rt, e7, e6, hr1, hr2, hr3, hq⟩ := hq9
    subst e7
    subst e6
    have hpz : pb.length < 100 := by simp only [List.length_cons] at z1; omega
    k_steps
    (with_reducible rename News _ _ _ _ => N9)
    have N4 : News g L _ ((I, o') :: (xd.news w [] npd lnd tld usd ngd ++ (xl.news w (.str rs rt :: pb) npl 1 tll [] ngl ++ ((rl, W.listOf rv.toArray n1) :: (wl, W.listOf wv.toArray n2) :: tl)))) := N9
    refine Halt.mk (CC.cl (c_getP w xl vsl tql (.str rs rt) pb npl 1 tll [] ngl ((I, o') :: (xd.news w [] npd lnd tld usd ngd ++ ((rl, W.listOf rv.toArray n1) :: (wl, W.listOf wv.toArray n2) :: tl)))) loose mean mg mb (dp + 1) (un + 3) gd blName _ 161 (.ref 160) [] (envX cn cs0 Lc a ccd cl :: outer) (ktrTop dp un gd cn cs0 Lc a ccd cl outer) base g L _ _ _ _ B (by k_asm) X (cb_drop N4 mem_r2) T rfl ⟨okl, hpz, ne2 xl.P (by omega) (by omega) _ _ _ _ _ _ _ _ _⟩ (by omega) (by omega) hb ?_)
    rintro v5 news5 s5 ⟨rfl, rfl⟩ F5 N5 hb5 ho5
    have N6 := cb_drop N5 mem_r2'
    clear N5 N9 N4
    obtain ⟨heap5, gens5, drawn5, toks5, os5⟩ := s5
    (try dsimp only)
    simp only [LxC.news, List.cons_append, List.nil_append] at N6
    k_steps
    (with_reducible rename News _ _ _ _ => N9)
    refine Halt.mk (CC.cl (c_wait w rs rt n t _ rn) loose mean mg mb (dp + 1) (un + 3) gd blName _ 161 (.ref 160) [] (envX cn cs0 Lc a ccd cl :: outer) (ktrTop dp un gd cn cs0 Lc a ccd cl outer) base g L _ _ _ _ B (by k_asm) X N9 T rfl ⟨hr1, by omega, by omega, hr2, hr3⟩ (by omega) (by omega) (by assumption) ?_)
    rintro v7 news7 s7 ⟨rfl, t7, rfl⟩ F7 N7 hb7 ho7
    clear N9
    obtain ⟨heap7, gens7, drawn7, toks7, os7⟩ := s7
    (try dsimp only)
    k_steps
    (with_reducible rename News _ _ _ _ => N9)
    (with_reducible rename Fr _ _ _ _ => F9)
    rw [push_arr] at N9
    rcases ocases (fifo (hs.drop (i + 1)) up q) with hf2 | hf2
    · simp [fifo, hf2] at hff
    obtain ⟨wsr2, hf2⟩ := hf2
    simp only [fifo, hf2, Option.map_some, Option.some.injEq] at hff
    subst hff
    refine ⟨_, _, ⟨npd, lnd, tld, usd, ngd, pb, npl + 1, tll, ngl, rv, n1, wv ++ [Value.int (n - rn) t7], n2 + 1, bk, up, q, wsd ++ [n - rn], wsr2, rd, some (.bool false), some (.int n t), rfl, ?_, hbook, svd, hbl, hln1, hln2, hq, hup, hf2, ?_, ?_, hrv, hall, ?_, ?_, ?_⟩, F9, N9, hb7, ?_⟩
    · intro y
      by_cases h1 : y = Str.ofString "comes"
      · subst h1; rfl
      · by_cases h2 : y = Str.ofString "now"
        · subst h2; rfl
        · simp only [blMap, if_neg h1, if_neg h2]
    · exact hwi.append (.cons _ t7 .nil)
    · rw [← hws]; simp
    · simp only [List.length_cons] at z1; omega
    · omega
    · simp; omega
    · exact ho7.trans (ho5.trans hos)
end Mine
end
theorem Mine.calmCByLine : True := by w_top off; first | walk1 | trivial
section
open PySem PySem.W PyProof.Rows PySem.Calls PySem.Spec
set_option maxRecDepth 100000
namespace Mine
def m9k29 : Lean.MacroM (Lean.TSyntax `tactic) := Mine.t9first [Mine.t9seq [Mine.t9call "42", Mine.m9e23], Mine.t9seq [Mine.t9call "128", Mine.m9e23]]
local macro_rules | `(tactic| walk_at $s) => Mine.mw s [("call ref", Mine.m9k29), ("exec For Tuple Name", Mine.m9e24), ("exec For Tuple Name cons nil", Mine.m9e24), ("pyIter ref", Mine.m9e23)]
theorem mem_r3 {α : Type} {x : α} {a b c : List α} : ∀ p ∈ b ++ (a ++ x :: c), p ∈ a ++ x :: (b ++ c) := by
  intro p hp
  first
    | ((revert p hp); (repeat' (first | with_reducible refine List.forall_mem_cons.mpr ⟨?_, ?_⟩ | with_reducible refine List.forall_mem_append.mpr ⟨?_, ?_⟩ | with_reducible exact List.forall_mem_nil _ | (intro _ _; ((repeat (first | with_reducible assumption | with_reducible exact List.mem_cons_self | (with_reducible refine List.mem_append_left _ ?_; (repeat (first | with_reducible exact List.mem_cons_self | with_reducible refine List.mem_cons_of_mem _ ?_ | with_reducible assumption)); done) | with_reducible refine List.mem_append_right _ ?_ | with_reducible refine List.mem_cons_of_mem _ ?_)); done)) | ((repeat (first | with_reducible assumption | with_reducible exact List.mem_cons_self | (with_reducible refine List.mem_append_left _ ?_; (repeat (first | with_reducible exact List.mem_cons_self | with_reducible refine List.mem_cons_of_mem _ ?_ | with_reducible assumption)); done) | with_reducible refine List.mem_append_right _ ?_ | with_reducible refine List.mem_cons_of_mem _ ?_)); done))); done)
    | (simp only [List.mem_append, List.mem_cons] at hp ⊢; rcases hp with h | h | h | h <;> simp [h])
theorem mem_r4 {α : Type} {d r w : α} {a b c : List α} : ∀ p ∈ a ++ (b ++ r :: w :: c), p ∈ d :: w :: r :: (a ++ (b ++ c)) := by
  intro p hp
  first
    | ((revert p hp); (repeat' (first | with_reducible refine List.forall_mem_cons.mpr ⟨?_, ?_⟩ | with_reducible refine List.forall_mem_append.mpr ⟨?_, ?_⟩ | with_reducible exact List.forall_mem_nil _ | (intro _ _; ((repeat (first | with_reducible assumption | with_reducible exact List.mem_cons_self | (with_reducible refine List.mem_append_left _ ?_; (repeat (first | with_reducible exact List.mem_cons_self | with_reducible refine List.mem_cons_of_mem _ ?_ | with_reducible assumption)); done) | with_reducible refine List.mem_append_right _ ?_ | with_reducible refine List.mem_cons_of_mem _ ?_)); done)) | ((repeat (first | with_reducible assumption | with_reducible exact List.mem_cons_self | (with_reducible refine List.mem_append_left _ ?_; (repeat (first | with_reducible exact List.mem_cons_self | with_reducible refine List.mem_cons_of_mem _ ?_ | with_reducible assumption)); done) | with_reducible refine List.mem_append_right _ ?_ | with_reducible refine List.mem_cons_of_mem _ ?_)); done))); done)
    | (simp only [List.mem_append, List.mem_cons] at hp ⊢; rcases hp with h | h | h | h | h <;> simp [h])
theorem mem_r5 {α : Type} {a b c : List α} : ∀ p ∈ b ++ (a ++ c), p ∈ a ++ (b ++ c) := by
  intro p hp
  first
    | ((revert p hp); (repeat' (first | with_reducible refine List.forall_mem_cons.mpr ⟨?_, ?_⟩ | with_reducible refine List.forall_mem_append.mpr ⟨?_, ?_⟩ | with_reducible exact List.forall_mem_nil _ | (intro _ _; ((repeat (first | with_reducible assumption | with_reducible exact List.mem_cons_self | (with_reducible refine List.mem_append_left _ ?_; (repeat (first | with_reducible exact List.mem_cons_self | with_reducible refine List.mem_cons_of_mem _ ?_ | with_reducible assumption)); done) | with_reducible refine List.mem_append_right _ ?_ | with_reducible refine List.mem_cons_of_mem _ ?_)); done)) | ((repeat (first | with_reducible assumption | with_reducible exact List.mem_cons_self | (with_reducible refine List.mem_append_left _ ?_; (repeat (first | with_reducible exact List.mem_cons_self | with_reducible refine List.mem_cons_of_mem _ ?_ | with_reducible assumption)); done) | with_reducible refine List.mem_append_right _ ?_ | with_reducible refine List.mem_cons_of_mem _ ?_)); done))); done)
    | (simp only [List.mem_append] at hp ⊢; rcases hp with h | h | h <;> simp [h])
theorem mem_r6 {α : Type} {x y r z d : α} {a b c : List α} : ∀ p ∈ x :: y :: r :: z :: d :: c, p ∈ x :: y :: (a ++ (b ++ r :: z :: d :: c)) := by
  intro p hp
  first
    | ((revert p hp); (repeat' (first | with_reducible refine List.forall_mem_cons.mpr ⟨?_, ?_⟩ | with_reducible refine List.forall_mem_append.mpr ⟨?_, ?_⟩ | with_reducible exact List.forall_mem_nil _ | (intro _ _; ((repeat (first | with_reducible assumption | with_reducible exact List.mem_cons_self | (with_reducible refine List.mem_append_left _ ?_; (repeat (first | with_reducible exact List.mem_cons_self | with_reducible refine List.mem_cons_of_mem _ ?_ | with_reducible assumption)); done) | with_reducible refine List.mem_append_right _ ?_ | with_reducible refine List.mem_cons_of_mem _ ?_)); done)) | ((repeat (first | with_reducible assumption | with_reducible exact List.mem_cons_self | (with_reducible refine List.mem_append_left _ ?_; (repeat (first | with_reducible exact List.mem_cons_self | with_reducible refine List.mem_cons_of_mem _ ?_ | with_reducible assumption)); done) | with_reducible refine List.mem_append_right _ ?_ | with_reducible refine List.mem_cons_of_mem _ ?_)); done))); done)
    | (simp only [List.mem_append, List.mem_cons] at hp ⊢; rcases hp with h | h | h | h | h | h <;> simp [h])
theorem byLoop (w : World) (xd xl : LxC) (vsd vsl : Array Value) (tqd tql : Tok) (okd : xd.Ok vsd tqd) (okl : xl.Ok vsl tql) (rl wl lh I : Addr) (book : Value) (tl : List (Addr × Obj)) (hs : List (Bool × Int)) (bk0 : List Nat) (all : List Str) (ws : List Int) (items : List Value) (hc : Nat)
    (loose : List Str) (mean : ExcName → Option Value) (mg mb : Str → Option Value) (dp un : Nat) (gd : Option (List Code)) (cn : Str) (cs0 : Scope) (Lc a : Addr) (ccd : Value) (cl : List (Str × Addr)) (outer : List Env) (base g : Heap) (L : Addr) (R : Result → Shared → Prop)
    (B : Below (ktrTop dp un gd cn cs0 Lc a ccd cl outer) base (envX cn cs0 Lc a ccd cl :: outer) g) (X : (KK w).In g) (T : Top VV loose mean mg mb g) (hd : dp + 60 < recursionLimit) (hu : un + 600 < cLine) (os : OsState)
    (hbk : bk0.length < 400) (h8 : hs.length ≤ 8) (hH : HrAt tl items hs) (hl : (lh, W.listOf items.toArray hc) ∈ tl) (hcc : xl.c' = xd.c')
    (p1 : @LT.lt Nat _ xd.P xl.C) (p2 : @LT.lt Nat _ xl.P rl) (p3 : @LT.lt Nat _ rl wl) (p4 : @LT.lt Nat _ wl I) (ptl : ∀ p ∈ tl, @LT.lt Nat _ p.1 xd.C)
    (m : Str → Option Value) (news : List (Addr × Obj)) (o' : Obj) (s : Shared) (ho : LIter o' lh 0) (hj : BlInv w xd xl rl wl lh book tl hs bk0 all ws 0 m news) (F : Fr g L s.heap m) (N : News g L s.heap ((I, o') :: news)) (hb : AllBare s.gens) (hos : s.os = os)
    (done : ∀ (m : Str → Option Value) (news : List (Addr × Obj)) (s : Shared), BlInv w xd xl rl wl lh book tl hs bk0 all ws hs.length m news → Fr g L s.heap m → News g L s.heap news → AllBare s.gens → s.os = os → R (.ok .next) s) :
    codeAny (model PP w) ((ktrTop dp un gd cn cs0 Lc a ccd cl outer).deeper (blEnv L)) (.forLoop (forTarget blFor) (.ref I) (forBody blFor) [] (blEnv L)) R s := by
  have l9 : Mine.Lead9 := trivial
  have l0 : Mine.Lead0 := trivial
  revert okd okl B X T hd hu hbk h8 hH hl hcc p1 p2 p3 p4 ptl ho hj F N hb hos done
  revert w xd xl vsd vsl tqd tql rl wl lh I book tl hs bk0 all ws items hc loose mean mg mb dp un gd cn cs0 Lc a ccd cl outer base g L R os m news o' s
  intro w xd xl vsd vsl tqd tql rl wl lh I book tl hs bk0 all ws items hc loose mean mg mb dp un gd cn cs0 Lc a ccd cl outer base g L R os m news o' s
  intros okd okl B X T hd hu hbk h8 hH hl hcc p1 p2 p3 p4 ptl ho hj F N hb hos done
  rename Mine.Lead0 => l0; clear l0
  have hlen := hH.length
  have hG1 := okd.o1; have hG2 := okd.o2; have hG3 := okd.o3; have hG4 := okd.o4; have hG5 := okd.o5; have hG6 := okd.o6; have hG7 := okd.o7; have hG8 := okd.o8; have hG9 := okd.o9
  have hL1 := okl.o1; have hL2 := okl.o2; have hL3 := okl.o3; have hL4 := okl.o4; have hL5 := okl.o5; have hL6 := okl.o6; have hL7 := okl.o7; have hL8 := okl.o8; have hL9 := okl.o9
  have hcc' : @Eq Nat xl.c' xd.c' := hcc
  refine for_list (l := lh) (items := items) (c := hc) (os := os) rfl (BlInv w xd xl rl wl lh book tl hs bk0 all ws) ?_ ?_ ?_ ?_ items.length 0 m news o' s (by omega) ho hj F N hb hos
  · rintro i m news ⟨npd, lnd, tld, usd, ngd, pb, npl, tll, ngl, rv, n1, wv, n2, bk, up, q, wsd, wsr, rd, cv, nv, rfl, -⟩
    refine ⟨List.mem_append_right _ (List.mem_append_right _ (.tail _ (.tail _ hl))), ?_⟩
    have rI : @LT.lt Nat _ rl I := Nat.lt_trans p3 p4
    have lI : @LT.lt Nat _ xl.P I := Nat.lt_trans p2 rI
    have dI : @LT.lt Nat _ xd.P I := Nat.lt_trans p1 (Nat.lt_trans okl.uP lI)
    refine all_app (news_below okd w I dI _ _ _ _ _ _) (all_app (news_below okl w I lI _ _ _ _ _ _) ?_)
    exact List.forall_mem_cons.mpr ⟨neN (Nat.ne_of_lt rI), List.forall_mem_cons.mpr ⟨neN (Nat.ne_of_lt p4), fun p hp => neN (Nat.ne_of_lt (Nat.lt_trans (ptl p hp) (Nat.lt_trans okd.uP dI)))⟩⟩
  · intro i v s Q E hv hit hq
    obtain ⟨k, hk, e⟩ := List.getElem_of_mem hv
    obtain ⟨ai, b, n, t, c, rfl, -⟩ := hH.get (i := k) (v := v) (by rw [← e]; simp [hk])
    exact wpAny_letOwnedTupleGo_listiter hit hq
  · intro i v o' m news s hi hj F N hb hos
    exact byTurn w xd xl vsd vsl tqd tql okd okl rl wl lh I book tl hs bk0 all ws items hc loose mean mg mb dp un gd cn cs0 Lc a ccd cl outer base g L R B X T hd hu os hbk h8 hH hl hcc p1 p2 p3 p4 ptl i v o' m news s hi hj F N hb hos _ _
  · rw [hlen]; exact done
set_option maxHeartbeats 8000000 in
theorem c_byline (w : World) (lh : Addr) (bks : Str) (bt : Tok) (items : List Value) (hc : Nat) (hs : List (Bool × Int)) (up : List (Str × Int)) (ws : List Int) (tl : List (Addr × Obj)) :
   CC 70 w 161 ((123, tabObj #[]) :: tl) (bks.length ≤ 399 ∧ (∀ p ∈ tl, p.1 ≠ 123) ∧ HrAt tl items hs ∧ (lh, W.listOf items.toArray hc) ∈ tl ∧ hs.length ≤ 8 ∧ Book bks.cps.toList (up.map (·.1)) ∧ (∀ r ∈ up, RepF r.1 r.2 ∧ 0 ≤ r.2 ∧ r.2 ≤ 400) ∧ fifo hs up [] = some ws) [.ref lh, .str bks bt]
    (fun v news2 => ∃ (T E wl rl cc : Addr) (t1 t2 t3 : Tok) (wv rv : List Value) (n1 n2 : Nat) (k : Int), v = .ref T ∧ IntsAre wv ws ∧ StrV rv (up.map (·.1)) ∧ k = 1 + nls bks.cps.toList ∧ (∀ p ∈ tl, @LT.lt Nat _ p.1 rl) ∧ @LT.lt Nat _ rl wl ∧ @LT.lt Nat _ wl E ∧ @LT.lt Nat _ E T ∧
      news2 = (T, ({ cls := .type "tuple", data := .seq #[.ref wl, .ref rl, .ref E] } : Obj)) :: (E, W.listOf #[.str (Str.ofString "") t1, .str (Str.ofString "") t2, .int k t3] 0) :: (rl, W.listOf rv.toArray n1) :: (wl, W.listOf wv.toArray n2) :: (123, tabObj #[rawInt 117, rawInt 4, .ref cc]) :: tl) := by
  have l9 : Mine.Lead9 := trivial
  have l0 : Mine.Lead0 := trivial
  revert w lh bks bt items hc hs up ws tl
  intro w lh bks bt items hc hs up ws tl
  rename Mine.Lead0 => l0; clear l0
  dsimp only [CC, PP, KK]
  k_fill
  intro loose mean mg mb dp un gd cn cs a ccd cl outer A₀ base h₀ L m s Q B F X N T hk hp hd hu hb hret
  obtain ⟨hbl, hne3, hH, hl, h8, hbook, hup, hff⟩ := hp
  k_dflt cell_enter
  k_steps
  (with_reducible rename News _ _ _ _ => N9)
  (with_reducible rename Fr _ _ _ _ => F0)
  have F9 := fr_cast (m' := fun y => List.lookup y [(Str.ofString "book", Value.str bks bt), (Str.ofString "hours", Value.ref lh)]) F0 (fun y => congrArg (List.lookup y) (by with_unfolding_all rfl))
  clear F0
  (with_reducible rename Below _ _ _ _ => B9)
  (with_reducible rename Top _ _ _ _ _ _ => T9)
  (with_reducible rename Frag.In _ _ => X9)
  refine Halt.mk (CC.cl (c_lexer1 w bks bt tl) loose mean mg mb (dp + 1) (un + 3) gd blName _ 161 (.ref 160) [] (envX cn cs L a ccd cl :: outer) (ktrTop dp un gd cn cs L a ccd cl outer) base _ _ _ _ _ _ B9 F9 X9 N9 T9 rfl ⟨hbl, hne3⟩ (by omega) (by omega) hb ?_)
  rintro v1 news1 s1 ⟨xd, vsd, tqd, tld, usd, rfl, okd, svd, hd1, hd2, rfl⟩ F1 N1 hb1 ho1
  clear N9
  have N2 := cb_drop N1 (show ∀ p ∈ ((123, tabObj #[rawInt 117, rawInt 4, .ref xd.c']) :: (xd.c', xd.oc) :: (xd.news w [] 0 1 tld usd 0 ++ tl) : List (Addr × Obj)), p ∈ xd.news w [] 0 1 tld usd 0 ++ (123, tabObj #[rawInt 117, rawInt 4, .ref xd.c']) :: tl from by
    exact List.forall_mem_cons.mpr ⟨List.mem_append_right _ (.head _), List.forall_mem_cons.mpr ⟨List.mem_append_left _ (by dsimp only [LxC.news]; ((repeat (first | with_reducible assumption | with_reducible exact List.mem_cons_self | (with_reducible refine List.mem_append_left _ ?_; (repeat (first | with_reducible exact List.mem_cons_self | with_reducible refine List.mem_cons_of_mem _ ?_ | with_reducible assumption)); done) | with_reducible refine List.mem_append_right _ ?_ | with_reducible refine List.mem_cons_of_mem _ ?_)); done)), List.forall_mem_append.mpr ⟨fun p hp => List.mem_append_left _ hp, fun p hp => List.mem_append_right _ (.tail _ hp)⟩⟩⟩)
  clear N1
  obtain ⟨heap2, gens2, drawn2, toks2, os2⟩ := s1
  (try dsimp only)
  k_steps
  (with_reducible rename News _ _ _ _ => N9)
  refine Halt.mk (CC.cl (c_lexer2 w _ _ xd.c' xd.oc vsd tqd (xd.news w [] 0 1 tld usd 0 ++ tl)) loose mean mg mb (dp + 1) (un + 3) gd blName _ 161 (.ref 160) [] (envX cn cs L a ccd cl :: outer) (ktrTop dp un gd cn cs L a ccd cl outer) base _ _ _ _ _ _ B9 (by k_asm) X9 N9 T9 rfl ⟨by decide +kernel, okd.code, okd.qual⟩ (by omega) (by omega) (by assumption) ?_)
  rintro v4 news4 s4 ⟨xl, vsl, tql, tll, usl, rfl, okl, svl, hl1, hl2, hl3, hl4, hl5, rfl⟩ F4 N4 hb4 ho4
  clear N9
  have svl' : usl = [] := by
    have e : (Str.ofString "").cps.toList.reverse = [] := by decide +kernel
    rw [e] at svl
    cases svl; rfl
  subst svl'
  have N5 := cb_drop N4 (mem_r3 (a := xl.news w [] 0 1 tll [] 0) (b := xd.news w [] 0 1 tld usd 0) (c := tl) (x := (123, tabObj #[rawInt 117, rawInt 4, .ref xd.c'])))
  clear N4
  obtain ⟨heap5, gens5, drawn5, toks5, os5⟩ := s4
  (try dsimp only)
  k_steps
  (with_reducible rename News _ _ _ _ => N9)
  (with_reducible rename Fr _ _ _ _ => F9)
  have N10 := cb_drop N9 (mem_r4 (a := xd.news w [] 0 1 tld usd 0) (b := xl.news w [] 0 1 tll [] 0) (c := (123, tabObj #[rawInt 117, rawInt 4, .ref xd.c']) :: tl))
  clear N9
  refine Halt.mk (iter_list_K F9 N10 (List.mem_append_right _ (List.mem_append_right _ (.tail _ (.tail _ (.tail _ hl))))) ?_)
  intro I h10 o10 hI F11 N11 hlt
  have hG1 := okd.o1; have hG2 := okd.o2; have hG3 := okd.o3; have hG4 := okd.o4; have hG5 := okd.o5; have hG6 := okd.o6; have hG7 := okd.o7; have hG8 := okd.o8; have hG9 := okd.o9; have hGc := okd.cg
  have hL1 := okl.o1; have hL2 := okl.o2; have hL3 := okl.o3; have hL4 := okl.o4; have hL5 := okl.o5; have hL6 := okl.o6; have hL7 := okl.o7; have hL8 := okl.o8; have hL9 := okl.o9; have hLc := okl.cg
  have ptl : ∀ p ∈ ((123, tabObj #[rawInt 117, rawInt 4, .ref xd.c']) :: tl : List (Addr × Obj)), @LT.lt Nat _ p.1 xd.C := List.forall_mem_cons.mpr ⟨hd1, hd2⟩
  have p1 : @LT.lt Nat _ xd.P xl.C := (List.forall_mem_append.mp hl3).1 _ (.head _)
  have p2 := (by assumption : ∀ p ∈ xd.news w [] 0 1 tld usd 0 ++ (xl.news w [] 0 1 tll [] 0 ++ (123, tabObj #[rawInt 117, rawInt 4, Value.ref xd.c']) :: tl), p.1 < _) (xl.P, W.listOf #[] 0) (List.mem_append_right _ (List.mem_append_left _ (.head _)))
  have p4 := hlt _ (List.mem_append_right _ (List.mem_append_right _ (.tail _ (.head _))))
  replace p2 : @LT.lt Nat _ _ _ := p2
  replace p4 : @LT.lt Nat _ _ _ := p4
  dsimp only at p2 p4
  have hcc' : @Eq Nat xl.c' xd.c' := hl4
  obtain ⟨l1a, l1b⟩ := (by assumption : _ ∧ AllLt _ _)
  replace l1a : @LT.lt Nat _ _ _ := l1a
  refine byLoop w xd xl vsd vsl tqd tql okd okl _ _ lh I (.str bks bt) ((123, tabObj #[rawInt 117, rawInt 4, .ref xd.c']) :: tl) hs bks.cps.toList (up.map (·.1)) ws items hc loose mean mg mb dp un gd cn cs L a ccd cl outer base _ _ _ B9 X9 T9 (by omega) (by omega) s.os ?_ h8 (hH.mono fun p hp => .tail _ hp) (.tail _ hl) hl4 p1 ?_ ?_ ?_ ptl _ _ _ _ hI ⟨0, 1, tld, usd, 0, [], 0, tll, 0, [], 0, [], 0, bks.cps.toList, up, [], [], ws, [], none, none, rfl, ?_, hbook, svd, ?_, by omega, rfl, .nil, hup, hff, .nil, rfl, .nil, rfl, by simp, by simp, by simp⟩ F11 N11 (by assumption) ?_ ?_
  · show bks.length < 400; omega
  · exact p2
  · exact l1a
  · exact p4
  · intro y
    show (if y = Str.ofString "waits" then _ else if y = Str.ofString "replies" then _ else if y = Str.ofString "line" then _ else if y = Str.ofString "desk" then _ else List.lookup y [(Str.ofString "book", Value.str bks bt), (Str.ofString "hours", Value.ref lh)]) = _
    simp only [List.lookup]
    by_cases h1 : y = Str.ofString "comes"
    · subst h1; rfl
    by_cases h2 : y = Str.ofString "now"
    · subst h2; rfl
    by_cases h3 : y = Str.ofString "desk"
    · subst h3; rfl
    by_cases h4 : y = Str.ofString "line"
    · subst h4; rfl
    by_cases h5 : y = Str.ofString "replies"
    · subst h5; rfl
    by_cases h6 : y = Str.ofString "waits"
    · subst h6; rfl
    by_cases h7 : y = Str.ofString "hours"
    · subst h7; rfl
    by_cases h8 : y = Str.ofString "book"
    · subst h8; rfl
    simp only [blMap, if_neg h1, if_neg h2, if_neg h3, if_neg h4, if_neg h5, if_neg h6, if_neg h7, if_neg h8, beq_eq_false_iff_ne.mpr h7, beq_eq_false_iff_ne.mpr h8]
  · show bks.length < 400; omega
  · exact ho4.trans ho1
  · rintro m12 news12 s12 ⟨npd, lnd, tld', usd', ngd, pb, npl, tll', ngl, rv, n1, wv, n2, bk, up', q, wsd, wsr, rd, cv, nv, rfl, hm, hbook', svd', hbl', hln1, hln2, hq, hup', hff', hwi, hws, hrv, hall, z1, z2, z3⟩ F12 N12 hb12 ho12
    rw [List.drop_length] at hff'
    have e9 : up' = [] := by
      rcases lcases up' with e9 | ⟨r, up2, e9⟩
      · exact e9
      · subst e9; cases q <;> simp [fifo] at hff'
    subst e9
    have e8 : q = [] := by
      rcases lcases q with e9 | ⟨r, q2, e9⟩
      · exact e9
      · subst e9; simp [fifo] at hff'
    subst e8
    have e7 := hq.nilInv
    subst e7
    have hlex := Book.nilInv hbook'
    simp only [fifo, Option.some.injEq] at hff'
    subst hff'
    clear F9 N10 F11 N11
    obtain ⟨heap12, gens12, drawn12, toks12, os12⟩ := s12
    have F13 := fr_cast F12 hm
    clear F12 hm
    simp only [List.map_nil, List.append_nil] at hall hws
    subst hall hws
    (try dsimp only)
    simp only [blNews, LxC.news, List.cons_append, List.nil_append] at N12
    k_steps
    (with_reducible rename News _ _ _ _ => N9)
    have N20 := cb_drop N9 (mem_r5 (a := xd.news w [] npd lnd tld' usd' ngd) (b := xl.news w [] npl 1 tll' [] ngl))
    refine Halt.mk (CC.cl (c_get w xl vsl tql npl 1 tll' [] ngl _ [] [] []) loose mean mg mb (dp + 1) (un + 3) gd blName _ 161 (.ref 160) [] (envX cn cs L a ccd cl :: outer) (ktrTop dp un gd cn cs L a ccd cl outer) base _ _ _ _ _ _ B9 (by k_asm) X9 N20 T9 rfl ⟨okl, rfl, .nil, by simp, by omega, by simp, ?_, ?_⟩ (by omega) (by omega) hb12 ?_)
    · exact all_app (news_below okd w _ (Nat.lt_trans p1 okl.uG) _ _ _ _ _ _) (List.forall_mem_cons.mpr ⟨neN (by dsimp only; omega), List.forall_mem_cons.mpr ⟨neN (by dsimp only; omega), fun p hp => neN (Nat.ne_of_lt (Nat.lt_trans (ptl p hp) (Nat.lt_trans okd.uP (Nat.lt_trans p1 okl.uG))))⟩⟩)
    · exact all_app (news_below okd w _ (Nat.lt_trans p1 okl.udD) _ _ _ _ _ _) (List.forall_mem_cons.mpr ⟨neN (by dsimp only; omega), List.forall_mem_cons.mpr ⟨neN (by dsimp only; omega), fun p hp => neN (Nat.ne_of_lt (Nat.lt_trans (ptl p hp) (Nat.lt_trans okd.uP (Nat.lt_trans p1 okl.udD))))⟩⟩)
    rintro v14 news14 s14 ⟨t14, tl14, us14, ng14, rfl, sv14, rfl⟩ F14 N14 hb14 ho14
    clear N9 N20 F13
    obtain ⟨heap14, gens14, drawn14, toks14, os14⟩ := s14
    (try dsimp only)
    have N15 := cb_drop N14 (mem_r5 (a := xl.news w [] npl (1 + nls [] - nls []) tl14 us14 ng14) (b := xd.news w [] npd lnd tld' usd' ngd))
    clear N14
    simp only [LxC.news, List.cons_append, List.nil_append] at N15
    k_steps
    (with_reducible rename News _ _ _ _ => N9)
    have nb1 := nls_lo bk
    have nb2 := nls_hi bk
    have nb3 := nls_hi bks.cps.toList
    have hbl2 : bks.cps.toList.length ≤ 399 := hbl
    refine Halt.mk (CC.cl (c_get w xd vsd tqd npd lnd tld' usd' ngd _ bk [] []) loose mean mg mb (dp + 1) (un + 3) gd blName _ 161 (.ref 160) [] (envX cn cs L a ccd cl :: outer) (ktrTop dp un gd cn cs L a ccd cl outer) base _ _ _ _ _ _ B9 (by k_asm) X9 N9 T9 rfl ⟨okd, hlex, svd', by omega, by omega, by omega, ?_, ?_⟩ (by omega) (by omega) (by assumption) ?_)
    · exact all_app (news_over okl w _ (Nat.lt_trans okd.lG p1) (neN (by omega)) _ _ _ _ _ _) (List.forall_mem_cons.mpr ⟨neN (by dsimp only; omega), List.forall_mem_cons.mpr ⟨neN (by dsimp only; omega), fun p hp => neN (Nat.ne_of_lt (Nat.lt_trans (ptl p hp) okd.uG))⟩⟩)
    · exact all_app (news_over okl w _ (Nat.lt_trans okd.ldD p1) (neN (by omega)) _ _ _ _ _ _) (List.forall_mem_cons.mpr ⟨neN (by dsimp only; omega), List.forall_mem_cons.mpr ⟨neN (by dsimp only; omega), fun p hp => neN (Nat.ne_of_lt (Nat.lt_trans (ptl p hp) okd.udD))⟩⟩)
    rintro v16 news16 s16 ⟨t16, tl16, us16, ng16, rfl, sv16, rfl⟩ F16 N16 hb16 ho16
    clear N9
    obtain ⟨heap16, gens16, drawn16, toks16, os16⟩ := s16
    (try dsimp only)
    simp only [LxC.news, List.cons_append, List.nil_append] at N16
    k_steps
    refine hret _ _ _ ⟨_, _, _, _, xd.c', _, _, _, wv, rv, n1, n2, lnd + nls bk - nls [], rfl, hwi, hrv, by rw [nls_nil]; omega, ?_, ?_, ?_, ?_, rfl⟩ (by k_asm) (cb_drop (by k_asm) (mem_r6 (a := xd.news w [] npd (lnd + nls bk - nls []) tl16 us16 ng16) (b := xl.news w [] npl (1 + nls [] - nls []) tl14 us14 ng14))) (by assumption) (ho16.trans (ho14.trans ho12))
    · exact fun p hp => by
        have h9 := ptl p (.tail _ hp)
        exact (show @LT.lt Nat _ p.1 _ by omega)
    · assumption
    · (with_reducible rename _ ∧ _ => l9)
      (repeat ((with_reducible rename _ ∧ _ => hc); obtain ⟨_, _⟩ := hc))
      first | assumption | trace_state
    · (repeat ((with_reducible rename _ ∧ _ => hc); obtain ⟨_, _⟩ := hc))
      first | assumption | trace_state
end Mine
end
theorem Mine.calmC0 : True := by w_top off; first | walk1 | trivial
section
def Mine.m9e57 : Lean.MacroM (Lean.TSyntax `tactic) := Mine.t9kw "PySem.W.tacticK_here k_here"
def Mine.m9e58 : Lean.MacroM (Lean.TSyntax `tactic) := Mine.t9sh "wpAny _ _ ( storeName ( compEnvC _ _ _ _ ) _ _ ) _ _ _" []
def Mine.m9k30 : Lean.MacroM (Lean.TSyntax `tactic) := Mine.t9seq [Mine.m9e57, Mine.t9red (Mine.m9e58), Mine.t9dflt (Mine.t9seq [Mine.t9ref "Mine.stC" "F N a b _", Mine.t9case "F" (Mine.m9e13), Mine.t9case "N" (Mine.m9e13), Mine.t9case "a" (Mine.m9l8), Mine.t9case "b" (Mine.m9l8)]), Mine.t9intro "h' F' N'", Mine.t9try (Mine.m9e3), Mine.t9try (Mine.m9e28)]
def Mine.m9e59 : Lean.MacroM (Lean.TSyntax `tactic) := Mine.t9sh "wpAny _ _ ( eval ( Expr.Name _ _ ) ( compEnvC _ _ _ _ ) ) _ _ _" []
def Mine.m9k31 : Lean.MacroM (Lean.TSyntax `tactic) := Mine.t9seq [Mine.m9e57, Mine.t9red (Mine.m9e59), Mine.t9dflt (Mine.t9seq [Mine.t9ref "Mine.ldC" "F a b v d _", Mine.t9case "F" (Mine.m9e13), Mine.t9case "a" (Mine.m9l8), Mine.t9case "b" (Mine.m9l8), Mine.t9case "v" (Mine.m9e47), Mine.t9case "d" (Mine.m9l9)])]
def Mine.m9e60 : Lean.MacroM (Lean.TSyntax `tactic) := Mine.t9kw "PySem.W.tacticKtr_member ktr_member"
def Mine.m9e61 : Lean.MacroM (Lean.TSyntax `tactic) := Mine.t9rf "List.mem_cons_of_mem _ ?_" []
def Mine.m9k32 : Lean.MacroM (Lean.TSyntax `tactic) := Mine.t9first [Mine.m9e60, Mine.t9seq [Mine.m9e61, Mine.m9e14]]
local macro_rules | `(tactic| k_mem) => Mine.m9k32
local macro_rules | `(tactic| walk_at $s) => Mine.mw s [("storeName", Mine.m9k30), ("eval Name", Mine.m9k31)]
theorem Mine.calmCBr1 : True := by w_top off; first | walk1 | trivial
section
open PySem PySem.W PyProof.Rows PySem.Calls PySem.Spec PyProof.Rows.LCg
set_option maxRecDepth 100000
namespace Mine
def m9k33 : Lean.MacroM (Lean.TSyntax `tactic) := Mine.t9seq [Mine.t9dflt (Mine.t9first [Mine.t9seq [Mine.t9ref "sl_run" "F N l v x y _ s t z", Mine.t9case "F" (Mine.m9e13), Mine.t9case "N" (Mine.m9e13), Mine.t9case "l" (Mine.m9e14), Mine.t9case "v" (Mine.t9red (Mine.m9l3)), Mine.t9case "x" (Mine.m9l4), Mine.t9case "y" (Mine.m9l4), Mine.t9case "s" (Mine.t9unf (Mine.m9l8)), Mine.t9case "t" (Mine.m9e42), Mine.t9case "z" (Mine.m9l4)], Mine.t9seq [Mine.t9ref "sl_from" "F N l v x _ s t z", Mine.t9case "F" (Mine.m9e13), Mine.t9case "N" (Mine.m9e13), Mine.t9case "l" (Mine.m9e14), Mine.t9case "v" (Mine.t9red (Mine.m9l3)), Mine.t9case "x" (Mine.m9l4), Mine.t9case "s" (Mine.t9unf (Mine.m9l8)), Mine.t9case "t" (Mine.m9e42), Mine.t9case "z" (Mine.m9l4)], Mine.t9seq [Mine.t9ref "sl_upto" "F N l v x _ s t z", Mine.t9case "F" (Mine.m9e13), Mine.t9case "N" (Mine.m9e13), Mine.t9case "l" (Mine.m9e14), Mine.t9case "v" (Mine.t9red (Mine.m9l3)), Mine.t9case "x" (Mine.m9l4), Mine.t9case "s" (Mine.t9unf (Mine.m9l8)), Mine.t9case "t" (Mine.m9e42), Mine.t9case "z" (Mine.m9l4)]]), Mine.t9intro "D' us' h' F' N' l1 sv'", Mine.t9try (Mine.m9e27), Mine.t9try (Mine.m9e28)]
def m9e62 : Lean.MacroM (Lean.TSyntax `tactic) := Mine.t9simp "List.length_drop List.length_take" ""
def m9k34 : Lean.MacroM (Lean.TSyntax `tactic) := Mine.t9seq [Mine.t9dflt (Mine.t9seq [Mine.t9ref "ad_SV" "F N a b v u z y _", Mine.t9case "F" (Mine.m9e13), Mine.t9case "N" (Mine.m9e13), Mine.t9case "a" (Mine.m9e14), Mine.t9case "b" (Mine.m9e14), Mine.t9case "v" (Mine.t9red (Mine.m9l3)), Mine.t9case "u" (Mine.t9red (Mine.m9l3)), Mine.t9case "z" (Mine.t9seq [Mine.m9e62, Mine.m9l4]), Mine.t9case "y" (Mine.t9seq [Mine.m9e62, Mine.m9l4])]), Mine.t9intro "D' us' h' F' N' l1 sv'", Mine.t9try (Mine.m9e27), Mine.t9try (Mine.m9e28)]
def m9e63 : Lean.MacroM (Lean.TSyntax `tactic) := Mine.t9ex "List.mem_of_mem_drop ( List.mem_of_mem_take ~hp )" []
def m9l13 : Lean.MacroM (Lean.TSyntax `tactic) := `(tactic| rcases List.mem_append.mp hp with hp | hp)
def m9e64 : Lean.MacroM (Lean.TSyntax `tactic) := Mine.t9ex "List.mem_of_mem_drop ~hp" []
def m9e65 : Lean.MacroM (Lean.TSyntax `tactic) := Mine.t9ex "List.mem_of_mem_take ~hp" []
def m9e66 : Lean.MacroM (Lean.TSyntax `tactic) := Mine.t9rw "List.length_append"
def m9e67 : Lean.MacroM (Lean.TSyntax `tactic) := Mine.t9ex "jn_ok %0 %1 %2" [(Mine.m9l3), (Mine.t9seq [Mine.t9intro "p hp", Mine.t9first [Mine.m9e63, Mine.t9seq [Mine.m9l13, Mine.m9e64, Mine.m9e65]]]), (Mine.t9seq [Mine.t9try (Mine.m9e66), Mine.m9e62, Mine.m9l4])]
def m9k35 : Lean.MacroM (Lean.TSyntax `tactic) := Mine.t9seq [Mine.t9dflt (Mine.t9seq [Mine.t9ref "jn_SV" "N l v x w _", Mine.t9case "N" (Mine.m9e13), Mine.t9case "l" (Mine.m9e14), Mine.t9case "v" (Mine.t9red (Mine.m9l3)), Mine.t9case "x" (Mine.m9l9), Mine.t9case "w" (Mine.m9e67)]), Mine.t9intro "t' k'"]
def m9k36 : Lean.MacroM (Lean.TSyntax `tactic) := Mine.t9seq [Mine.t9call "77", Mine.m9e23]
local macro_rules | `(tactic| walk_at $s) => Mine.mw s [("ite", Mine.m9k6), ("subscriptTail Name Slice ref ref", Mine.m9k33), ("binaryOp Add ref ref", Mine.m9k34), ("call builtin:str.join", Mine.m9k35), ("call ref", Mine.m9k36)]
structure BrOk (hs : List (Bool × Int)) (ps : List Str) (up : List (Str × Int)) (mt : Nat → Nat) (wt : Nat → Int) : Prop where
  n : hs.length ≤ 8
  pn : ps.length ≤ 8
  pz : ∀ p ∈ ps, p.length ≤ 10
  rep : ∀ r ∈ up, RepF r.1 r.2 ∧ 0 ≤ r.2 ∧ r.2 ≤ 400
  come : ∀ i n, hs[i]? = some (true, n) → ∃ r, up[(heldL 0 (hs.take i) up).length]? = some r ∧ heldL 0 (hs.take (i + 1)) up = heldL 0 (hs.take i) up ++ [(i, r)]
  go : ∀ i n, hs[i]? = some (false, n) → heldL 0 (hs.take (i + 1)) up = heldL 0 (hs.take i) up ∧ mt i < i ∧ (i - mt i) % 2 = 1 ∧ (∃ r k, (heldL 0 (hs.take i) up).lookup (mt i) = some (r, k) ∧ wt i = n - k) ∧
    takenB (segT ps (mt i) i) = true ∧ ∀ j, mt i < j → j < i → (i - j) % 2 = 1 → takenB (segT ps j i) = false
  row : ∀ i, i < hs.length → (rowT ps i).length ≤ 400 ∧ (stripS (rowT ps i)).length ≤ 400
  seg : ∀ i j, i < hs.length → j ≤ i → (segT ps j i).length ≤ 400 ∧ (stripS (segT ps j i)).length ≤ 400
noncomputable def brWhl : Stmt := sAt (ifElse (sAt (forBody brFor) 1)) 1
noncomputable def whTest : Stmt → PySem.Expr
  | .While t _ _ _ => t
  | _ => .Constant .none 0 ⟨0, 0, 0, 0⟩
noncomputable def whBody : Stmt → List Stmt
  | .While _ b _ _ => b
  | _ => []
noncomputable abbrev brMap (hA pA rA hd wl el : Addr) (vp vc vn vm : Option Value) : Str → Option Value := fun y =>
  if y = Str.ofString "mate" then vm else if y = Str.ofString "now" then vn else if y = Str.ofString "comes" then vc else if y = Str.ofString "place" then vp else if y = Str.ofString "empty" then some (.ref el) else if y = Str.ofString "waits" then some (.ref wl) else if y = Str.ofString "held" then some (.ref hd) else if y = Str.ofString "replies" then some (.ref rA) else if y = Str.ofString "pieces" then some (.ref pA) else if y = Str.ofString "hours" then some (.ref hA) else none
noncomputable def WhStep (I : Nat → Shared → Prop) (n : Nat) (s : Shared) : Prop := ∃ m, m < n ∧ I m s
noncomputable def WhDone (R : Result → Shared → Prop) (r : Result) (s : Shared) : Prop := R r s
theorem codeAny_whileD {prog : Program} {w : World} {A : Around} {R : Result → Shared → Prop} {s : Shared} {test : PySem.Expr} {body : List Stmt} {env : Env} (I : Nat → Shared → Prop)
    (turn : ∀ n s, I n s →
      wpAny (model prog w) A (isTrue test env (eval test env)) (fun b s₂ =>
        if b then wpAny (model prog w) A (execs body env) (fun f s₃ => match f with
            | .next | .cont => WhStep I n s₃
            | .brk => WhDone R (.ok .next) s₃
            | .ret v => R (.ok (.ret v)) s₃) (notedBy (model prog w) A env fun e s' => R (.error e) s') s₂
        else WhDone R (.ok .next) s₂)
        (notedBy (model prog w) A env fun e s' => R (.error e) s') s)
    (n : Nat) (h : I n s) : codeAny (model prog w) A (.whileLoop test body [] env) R s := by
  refine codeAny_whileLoop I (fun n s h => wpAny_mono (turn n s h) (fun b s₂ h₂ => ?_) fun _ _ e => e) n h
  cases b with
  | false =>
    simp only [Bool.false_eq_true, if_false] at h₂ ⊢
    exact wpAny_execs_nil h₂
  | true =>
    simp only [if_true] at h₂ ⊢
    refine wpAny_mono h₂ (fun f s₃ h₃ => ?_) fun _ _ e => e
    cases f with
    | next => exact h₃
    | cont => exact h₃
    | brk => exact h₃
    | ret v => exact h₃
noncomputable def BrW (hA pA rA hd wl el : Addr) (vc vn : Option Value) (i : Nat) (tp : Tok) (mi : Nat) (g : Heap) (L : Addr) (os : OsState) (nw : List (Addr × Obj)) (n : Nat) (s : Shared) : Prop :=
  ∃ (t : Tok) (m : Str → Option Value), mi ≤ n ∧ n < i ∧ (i - n) % 2 = 1 ∧ (∀ y, m y = brMap hA pA rA hd wl el (some (.int (i : Int) tp)) vc vn (some (.int (n : Int) t)) y) ∧ Fr g L s.heap m ∧ News g L s.heap nw ∧ AllBare s.gens ∧ s.os = os
theorem par9 {mi n i : Nat} (h1 : mi ≤ n) (h2 : n < i) (h3 : (i - n) % 2 = 1) (h4 : n ≠ mi) (h5 : (i - mi) % 2 = 1) : ∃ k, n = mi + k + 2 := by
  obtain ⟨d, rfl⟩ := Nat.exists_eq_add_of_le h1
  obtain ⟨j, rfl⟩ := Nat.exists_eq_add_of_lt h2
  match d with
  | 0 => exact absurd rfl h4
  | 1 => rw [show mi + 1 + j + 1 - (mi + 1) = j + 1 by rw [Nat.add_assoc (mi + 1), Nat.add_sub_cancel_left]] at h3; rw [show mi + 1 + j + 1 - mi = j + 2 by rw [Nat.add_assoc, Nat.add_assoc, Nat.add_sub_cancel_left, Nat.add_comm], Nat.add_mod_right] at h5; exact absurd (h5.symm.trans (Nat.mod_two_eq_zero_or_one j |>.resolve_right fun q => by rw [Nat.add_mod, q] at h3; cases h3)) (by decide)
  | k + 2 => exact ⟨k, rfl⟩
theorem par9' {a i : Nat} (h2 : a + 2 < i) (h3 : (i - (a + 2)) % 2 = 1) : (i - a) % 2 = 1 := by
  obtain ⟨j, rfl⟩ := Nat.exists_eq_add_of_lt h2
  rw [show a + 2 + j + 1 - (a + 2) = j + 1 by rw [Nat.add_assoc (a + 2), Nat.add_sub_cancel_left]] at h3
  rw [show a + 2 + j + 1 - a = j + 1 + 2 by rw [Nat.add_assoc, Nat.add_assoc, Nat.add_sub_cancel_left, Nat.add_comm], Nat.add_mod_right]
  exact h3
theorem brW_mk {hA pA rA hd wl el : Addr} {vc vn : Option Value} {i : Nat} {tp : Tok} {mi : Nat} {g : Heap} {L : Addr} {os : OsState} {nw : List (Addr × Obj)} {n : Nat} {s : Shared} {m : Str → Option Value} (ho : ∃ t, m (Str.ofString "mate") = some (.int ((n : Int) - 2) t))
    (hm : ∀ t y, m (Str.ofString "mate") = some (.int ((n : Int) - 2) t) → m y = brMap hA pA rA hd wl el (some (.int (i : Int) tp)) vc vn (some (.int ((n : Int) - 2) t)) y) (h1 : mi ≤ n) (h2 : n < i) (h3 : (i - n) % 2 = 1) (h4 : n ≠ mi) (h5 : (i - mi) % 2 = 1)
    (F : Fr g L s.heap m) (N : News g L s.heap nw) (hb : AllBare s.gens) (hos : s.os = os) : WhStep (BrW hA pA rA hd wl el vc vn i tp mi g L os nw) n s := by
  obtain ⟨t, e⟩ := ho
  obtain ⟨k, rfl⟩ := par9 h1 h2 h3 h4 h5
  refine ⟨mi + k, Nat.lt_succ_of_lt (Nat.lt_succ_self _), t, m, Nat.le_add_right _ _, Nat.lt_of_succ_lt (Nat.lt_of_succ_lt h2), par9' h2 h3, fun y => ?_, F, N, hb, hos⟩
  have e9 : ((mi + k : Nat) : Int) = ((mi + k + 2 : Nat) : Int) - 2 := (Int.add_sub_cancel ((mi + k : Nat) : Int) 2).symm
  rw [e9]
  exact hm t y e
set_option maxHeartbeats 8000000 in
theorem brWhile (w : World) (hA pA rA hd wl el : Addr) (vc vn : Option Value) (pv : List Value) (pc : Nat) (ps : List Str) (hpv : StrV pv ps) (i : Nat) (tp : Tok) (mi : Nat) (hn : ps.length ≤ 8) (pz : ∀ p ∈ ps, p.length ≤ 10) (hi : i < 8) (hmi : mi < i) (hpar : (i - mi) % 2 = 1) (htk : takenB (segT ps mi i) = true) (hnt : ∀ j, mi < j → j < i → (i - j) % 2 = 1 → takenB (segT ps j i) = false)
    (hseg : ∀ j, j ≤ i → (segT ps j i).length ≤ 400 ∧ (stripS (segT ps j i)).length ≤ 400)
    (loose : List Str) (mean : ExcName → Option Value) (mg mb : Str → Option Value) (dp un : Nat) (gd : Option (List Code)) (cn : Str) (cs0 : Scope) (Lc a : Addr) (ccd : Value) (cls : List (Str × Addr)) (outer : List Env) (base g : Heap) (L : Addr) (R : Result → Shared → Prop)
    (B : Below (ktrTop dp un gd cn cs0 Lc a ccd cls outer) base (envX cn cs0 Lc a ccd cls :: outer) g) (X : (KK w).In g) (T : Top VV loose mean mg mb g) (hd0 : dp + 90 < recursionLimit) (hu : un + 900 < cLine) (os : OsState)
    (nw : List (Addr × Obj)) (hpA : (pA, W.listOf pv.toArray pc) ∈ nw)
    (done : ∀ (t : Tok) (m : Str → Option Value) (s : Shared), (∀ y, m y = brMap hA pA rA hd wl el (some (.int (i : Int) tp)) vc vn (some (.int (mi : Int) t)) y) → Fr g L s.heap m → News g L s.heap nw → AllBare s.gens → s.os = os → R (.ok .next) s) :
    ∀ (n : Nat) (t : Tok) (m : Str → Option Value) (s : Shared), mi ≤ n → n < i → (i - n) % 2 = 1 → (∀ y, m y = brMap hA pA rA hd wl el (some (.int (i : Int) tp)) vc vn (some (.int (n : Int) t)) y) → Fr g L s.heap m → News g L s.heap nw → AllBare s.gens → s.os = os →
      codeAny (model PP w) ((ktrTop dp un gd cn cs0 Lc a ccd cls outer).deeper (brEnv L)) (.whileLoop (whTest brWhl) (whBody brWhl) [] (brEnv L)) R s := by
  have l9 : Mine.Lead9 := trivial
  have l0 : Mine.Lead0 := trivial
  revert hpv hn pz hi hmi hpar htk hnt hseg B X T hd0 hu hpA done
  revert w hA pA rA hd wl el vc vn pv pc ps i tp mi loose mean mg mb dp un gd cn cs0 Lc a ccd cls outer base g L R os nw
  intro w hA pA rA hd wl el vc vn pv pc ps i tp mi loose mean mg mb dp un gd cn cs0 Lc a ccd cls outer base g L R os nw
  intros hpv hn pz hi hmi hpar htk hnt hseg B X T hd0 hu hpA done
  rename Mine.Lead0 => l0; clear l0
  intro n t m s hj1 hj2 hj3 hm F N hb hos
  refine codeAny_whileD (BrW hA pA rA hd wl el vc vn i tp mi g L os nw) ?_ n ⟨t, m, hj1, hj2, hj3, hm, F, N, hb, hos⟩
  clear hj1 hj2 hj3 hm F N hb hos m t n s
  rintro n s ⟨t, m, hj1, hj2, hj3, hm, F, N, hb, hos⟩
  dsimp only [PP, KK] at *
  revert X; k_fill; intro X
  have F0 := fr_cast F hm
  clear F hm
  dsimp only [brEnv] at *
  generalize hb1 : whTest brWhl = test
  generalize hb2 : whBody brWhl = body
  generalize hb3 : fdScope brStmt = scope
  conv at hb1 => { lhs; whnf }
  conv at hb2 => { lhs; whnf }
  conv at hb3 => { lhs; whnf }
  subst hb1 hb2 hb3
  obtain ⟨heap', gens', drawn', toks', os'⟩ := s
  have hlen := hpv.length
  have eT : Txt.join (Str.ofString "") ((ps.drop (n : Int).toNat).take (min ((i : Int) + 1).toNat ps.length - (n : Int).toNat)) = segT ps n i := by
    unfold segT
    congr 1
    rw [Int.toNat_natCast, show ((i : Int) + 1).toNat = i + 1 by omega]
    by_cases h : i + 1 ≤ ps.length
    · rw [Nat.min_eq_left h]
    · rw [Nat.min_eq_right (by omega), List.take_of_length_le (by rw [List.length_drop]; omega), List.take_of_length_le (by rw [List.length_drop]; omega)]
  cases hq : takenB (segT ps n i) with
  | true =>
    k_steps
    (with_reducible rename News _ _ _ _ => N9)
    (with_reducible rename Fr _ _ _ _ => F9)
    have N11 : News g L _ nw := cb_drop N9 (fun p hp => .tail _ hp)
    clear N9
    rw [eT]
    refine Halt.mk (CC.cl (c_check w (segT ps n i) _ nw) loose mean mg mb (dp + 1) (un + 3) gd brName _ 168 (.ref 167) [] (envX cn cs0 Lc a ccd cls :: outer) (ktrTop dp un gd cn cs0 Lc a ccd cls outer) base _ _ _ _ _ _ B F9 X N11 T rfl (hseg n (by omega)) (by omega) (by omega) hb ?_)
    rintro v news' s2 ⟨rfl, rfl⟩ F12 N12 hb12 ho12
    rw [show chkL 0 (yldL 0 false (stripS (segT ps n i)).cps.toList) = takenB (segT ps n i) from rfl, hq]
    obtain ⟨heap12, gens12, drawn12, toks12, os12⟩ := s2
    clear F9 N11
    (try dsimp only)
    k_steps
    have e9 : n = mi := by
      by_cases h : mi = n
      · exact h.symm
      · have := hnt n (by omega) hj2 hj3
        rw [hq] at this; cases this
    subst e9
    exact done _ _ _ (fun y => rfl) F12 N12 hb12 (ho12.trans hos)
  | false =>
    k_steps
    (with_reducible rename News _ _ _ _ => N9)
    (with_reducible rename Fr _ _ _ _ => F9)
    have N11 : News g L _ nw := cb_drop N9 (fun p hp => .tail _ hp)
    clear N9
    rw [eT]
    refine Halt.mk (CC.cl (c_check w (segT ps n i) _ nw) loose mean mg mb (dp + 1) (un + 3) gd brName _ 168 (.ref 167) [] (envX cn cs0 Lc a ccd cls :: outer) (ktrTop dp un gd cn cs0 Lc a ccd cls outer) base _ _ _ _ _ _ B F9 X N11 T rfl (hseg n (by omega)) (by omega) (by omega) hb ?_)
    rintro v news' s2 ⟨rfl, rfl⟩ F12 N12 hb12 ho12
    rw [show chkL 0 (yldL 0 false (stripS (segT ps n i)).cps.toList) = takenB (segT ps n i) from rfl, hq]
    obtain ⟨heap12, gens12, drawn12, toks12, os12⟩ := s2
    clear F9 N11
    (try dsimp only)
    k_steps
    (with_reducible rename Fr _ _ _ _ => F14)
    (with_reducible rename News _ _ _ _ => N14)
    have e9 : n ≠ mi := by
      intro h
      rw [h] at hq; rw [htk] at hq; cases hq
    refine brW_mk ⟨_, rfl⟩ ?_ hj1 hj2 hj3 e9 hpar F14 N14 hb12 (ho12.trans hos)
    intro t y e
    by_cases h1 : y = Str.ofString "mate"
    · subst h1; exact e
    simp only [brMap, if_neg h1]
theorem brWhile0 (w : World) (hA pA rA hd wl el : Addr) (vc vn : Option Value) (pv : List Value) (pc : Nat) (ps : List Str) (hpv : StrV pv ps) (i : Nat) (tp : Tok) (mi : Nat) (hn : ps.length ≤ 8) (pz : ∀ p ∈ ps, p.length ≤ 10) (hi : i < 8) (hmi : mi < i) (hpar : (i - mi) % 2 = 1) (htk : takenB (segT ps mi i) = true) (hnt : ∀ j, mi < j → j < i → (i - j) % 2 = 1 → takenB (segT ps j i) = false)
    (hseg : ∀ j, j ≤ i → (segT ps j i).length ≤ 400 ∧ (stripS (segT ps j i)).length ≤ 400)
    (loose : List Str) (mean : ExcName → Option Value) (mg mb : Str → Option Value) (dp un : Nat) (gd : Option (List Code)) (cn : Str) (cs0 : Scope) (Lc a : Addr) (ccd : Value) (cls : List (Str × Addr)) (outer : List Env) (base g : Heap) (L : Addr) (R : Result → Shared → Prop)
    (B : Below (ktrTop dp un gd cn cs0 Lc a ccd cls outer) base (envX cn cs0 Lc a ccd cls :: outer) g) (X : (KK w).In g) (T : Top VV loose mean mg mb g) (hd0 : dp + 90 < recursionLimit) (hu : un + 900 < cLine) (os : OsState)
    (nw : List (Addr × Obj)) (hpA : (pA, W.listOf pv.toArray pc) ∈ nw)
    (done : ∀ (t : Tok) (m : Str → Option Value) (s : Shared), (∀ y, m y = brMap hA pA rA hd wl el (some (.int (i : Int) tp)) vc vn (some (.int (mi : Int) t)) y) → Fr g L s.heap m → News g L s.heap nw → AllBare s.gens → s.os = os → R (.ok .next) s) 
    (m : Str → Option Value) (s : Shared) (ho : ∃ t, m (Str.ofString "mate") = some (.int ((i : Int) - 1) t)) (hm : ∀ t y, m (Str.ofString "mate") = some (.int ((i : Int) - 1) t) → m y = brMap hA pA rA hd wl el (some (.int (i : Int) tp)) vc vn (some (.int ((i : Int) - 1) t)) y) (F : Fr g L s.heap m) (N : News g L s.heap nw) (hb : AllBare s.gens) (hos : s.os = os) :
      codeAny (model PP w) ((ktrTop dp un gd cn cs0 Lc a ccd cls outer).deeper (brEnv L)) (.whileLoop (whTest brWhl) (whBody brWhl) [] (brEnv L)) R s := by
  obtain ⟨t, e⟩ := ho
  refine brWhile w hA pA rA hd wl el vc vn pv pc ps hpv i tp mi hn pz hi hmi hpar htk hnt hseg loose mean mg mb dp un gd cn cs0 Lc a ccd cls outer base g L R B X T hd0 hu os nw hpA done (i - 1) t m s (by omega) (by omega) (by omega) (fun y => ?_) F N hb hos
  rw [show ((i - 1 : Nat) : Int) = (i : Int) - 1 by omega]
  exact hm t y e
end Mine
end
theorem Mine.calmCBr2 : True := by w_top off; first | walk1 | trivial
section
open PySem PySem.W PyProof.Rows PySem.Calls PySem.Spec PyProof.Rows.LCg
set_option maxRecDepth 100000
namespace Mine
def m9k37 : Lean.MacroM (Lean.TSyntax `tactic) := Mine.t9first [Mine.t9seq [Mine.t9call "77", Mine.m9e23], Mine.t9seq [Mine.t9call "154", Mine.m9e23]]
def m9e68 : Lean.MacroM (Lean.TSyntax `tactic) := Mine.t9rf "kda_len ( ^knd ( PySem.intKind _ _ ) ) %0 %1 %2 %3 %4 ?_" [(Mine.m9e13), (Mine.m9e14), (Mine.t9red (Mine.m9l3)), (Mine.t9red (Mine.m9l3)), (Mine.m9l4)]
def m9k38 : Lean.MacroM (Lean.TSyntax `tactic) := Mine.t9dflt (Mine.m9e68)
def m9e69 : Lean.MacroM (Lean.TSyntax `tactic) := Mine.t9rfp "kda_set ( ^knd ( PySem.intKind _ _ ) ) ?F ?N ?U ?d ( intKind_is _ _ _ _ ) ?z ?_" []
def m9e70 : Lean.MacroM (Lean.TSyntax `tactic) := Mine.t9kw "PySem.W.tacticK_updF k_updF"
def m9k39 : Lean.MacroM (Lean.TSyntax `tactic) := Mine.t9seq [Mine.t9dflt (Mine.t9seq [Mine.m9e69, Mine.t9case "F" (Mine.m9e13), Mine.t9case "N" (Mine.m9e13), Mine.t9case "U" (Mine.m9e70), Mine.t9case "d" (Mine.t9red (Mine.m9l3)), Mine.t9case "z" (Mine.t9seq [Mine.m9e18, Mine.m9l4])]), Mine.t9intro "h' o' F' N' hd'", Mine.t9try (Mine.m9e20), Mine.t9try (Mine.m9e28)]
def m9e71 : Lean.MacroM (Lean.TSyntax `tactic) := Mine.t9rf "kdg_notin ( ^knd ( PySem.intKind _ _ ) ) %0 %1 %2 %3 ( intKind_is _ _ _ _ ) true %4 ?_" [(Mine.m9e13), (Mine.m9e14), (Mine.t9red (Mine.m9l3)), (Mine.t9red (Mine.m9l3)), (Mine.t9red (Mine.m9l3))]
def m9k40 : Lean.MacroM (Lean.TSyntax `tactic) := Mine.t9dflt (Mine.m9e71)
def m9e72 : Lean.MacroM (Lean.TSyntax `tactic) := Mine.t9rf "kda_item ( ^knd ( PySem.intKind _ _ ) ) %0 %1 %2 ( intKind_is _ _ _ _ ) %3 ?_" [(Mine.m9e13), (Mine.m9e14), (Mine.t9red (Mine.m9l3)), (Mine.t9red (Mine.m9l3))]
def m9k41 : Lean.MacroM (Lean.TSyntax `tactic) := Mine.t9dflt (Mine.m9e72)
local macro_rules | `(tactic| walk_at $s) => Mine.mw s [("ite", Mine.m9k6), ("subscriptTail Name Slice ref ref", Mine.m9k33), ("binaryOp Add ref ref", Mine.m9k34), ("call builtin:str.join", Mine.m9k35), ("call ref", Mine.m9k37), ("call builtin:len", Mine.m9k38), ("setItem ref int", Mine.m9k39), ("compareOp NotIn int ref", Mine.m9k40), ("subscriptTail Name Name ref int", Mine.m9k41), ("subscriptTail Name Call ref int", Mine.m9e23), ("exec While", Mine.m9e23)]
inductive BlV : List Value → List Bool → Prop
  | nil : BlV [] []
  | cons {vs : List Value} {bs : List Bool} (b : Bool) : BlV vs bs → BlV (.bool b :: vs) (b :: bs)
theorem BlV.append {a b : List Value} {x y : List Bool} (h : BlV a x) (k : BlV b y) : BlV (a ++ b) (x ++ y) := by
  induction h with
  | nil => exact k
  | cons t _ ih => exact .cons t ih
theorem BlV.length {a : List Value} {x : List Bool} (h : BlV a x) : a.length = x.length := by
  induction h with
  | nil => rfl
  | cons _ _ ih => simp [ih]
noncomputable def wtPre (hs : List (Bool × Int)) (wt : Nat → Int) (i : Nat) : List Int := (List.range i).filterMap fun k => match hs[k]? with | some (false, _) => some (wt k) | _ => none
structure BrInv (w : World) (hA pA rA hd wl el : Addr) (news0 : List (Addr × Obj)) (hs : List (Bool × Int)) (up : List (Str × Int)) (ps : List Str) (wt : Nat → Int) (i : Nat) (m : Str → Option Value) (news : List (Addr × Obj)) : Prop where
  out : ∃ (vp vc vn vm : Option Value) (oH : Obj) (kvs : List (Int × Value)) (wv : List Value) (n1 : Nat) (ev : List Value) (n2 : Nat), news = (hd, oH) :: (wl, W.listOf wv.toArray n1) :: (el, W.listOf ev.toArray n2) :: news0 ∧ (∀ y, m y = brMap hA pA rA hd wl el vp vc vn vm y) ∧
    oH.IsDictOf (PySem.intKind PP w) kvs ∧ HeldR kvs (heldL 0 (hs.take i) up) ∧ IntsAre wv (wtPre hs wt i) ∧ BlV ev ((List.range i).map fun k => takenB (rowT ps k))
noncomputable def EndS (J : (Str → Option Value) → List (Addr × Obj) → Prop) (g : Heap) (L : Addr) (its : List (Addr × Obj)) (os : OsState) (s : Shared) : Prop :=
  ∃ m news, J m news ∧ Fr g L s.heap m ∧ News g L s.heap (its ++ news) ∧ AllBare s.gens ∧ s.os = os
theorem wtPre_len (hs : List (Bool × Int)) (wt : Nat → Int) (i : Nat) : (wtPre hs wt i).length ≤ i := by
  unfold wtPre
  exact Nat.le_trans (List.length_filterMap_le _ _) (by simp)
theorem heldL_len : ∀ (hs : List (Bool × Int)) (k : Nat) (up : List (Str × Int)), (heldL k hs up).length ≤ hs.length := by
  intro hs
  induction hs with
  | nil => intro k up; simp [heldL]
  | cons h t ih =>
    intro k up
    obtain ⟨b, n⟩ := h
    cases b with
    | true =>
      cases up with
      | nil => simp [heldL]
      | cons r up => simp only [heldL, List.length_cons]; have := ih (k + 1) up; omega
    | false => simp only [heldL, List.length_cons]; have := ih (k + 1) up; omega
theorem StrV.get {vs : List Value} {x : List Str} (h : StrV vs x) : ∀ {i : Nat} {r : Str}, x[i]? = some r → ∃ t, vs[i]? = some (.str r t) := by
  induction h with
  | nil => intro i r hr; simp at hr
  | cons t _ ih =>
    intro i r hr
    cases i with
    | zero => simp at hr; subst hr; exact ⟨t, by simp⟩
    | succ i => exact ih (by simpa using hr)
theorem brEnd_mk {w : World} {hA pA rA hd wl el : Addr} {news0 : List (Addr × Obj)} {p1 p2 px : Addr × Obj} {hs : List (Bool × Int)} {up : List (Str × Int)} {ps : List Str} {wt : Nat → Int} {i : Nat} {g : Heap} {L : Addr} {os : OsState} {s : Shared} {m : Str → Option Value} (vp vc vn vm : Option Value) {oH : Obj} {kvs : List (Int × Value)} {wv : List Value} {n1 : Nat} {ev : List Value} {n2 : Nat} {b : Bool}
    (hm : ∀ y, m y = brMap hA pA rA hd wl el vp vc vn vm y) (hoD : oH.IsDictOf (PySem.intKind PP w) kvs) (hHe : HeldR kvs (heldL 0 (hs.take (i + 1)) up)) (hwv : IntsAre wv (wtPre hs wt (i + 1))) (hev : BlV ev ((List.range i).map fun k => takenB (rowT ps k))) (hbe : b = takenB (rowT ps i))
    (F : Fr g L s.heap m) (N : News g L s.heap (p1 :: p2 :: px :: (hd, oH) :: (wl, W.listOf wv.toArray n1) :: (el, W.listOf (ev.toArray.push (.bool b)) n2) :: news0)) (hb : AllBare s.gens) (hos : s.os = os) :
    EndS (fun m news => BrInv w hA pA rA hd wl el news0 hs up ps wt (i + 1) m news) g L [p1, p2] os s := by
  subst hbe
  refine ⟨m, _, ⟨vp, vc, vn, vm, oH, kvs, wv, n1, ev ++ [.bool (takenB (rowT ps i))], n2, rfl, hm, hoD, hHe, hwv, ?_⟩, F, ?_, hb, hos⟩
  · rw [List.range_succ, List.map_append]
    exact hev.append (.cons _ .nil)
  · rw [show (ev ++ [Value.bool (takenB (rowT ps i))]).toArray = ev.toArray.push (.bool (takenB (rowT ps i))) by simp]
    refine cb_drop N ?_
    intro p hp
    first
      | ((revert p hp); (try dsimp only [List.cons_append, List.nil_append]); (repeat' (first | with_reducible refine List.forall_mem_cons.mpr ⟨?_, ?_⟩ | with_reducible refine List.forall_mem_append.mpr ⟨?_, ?_⟩ | with_reducible exact List.forall_mem_nil _ | (intro _ _; ((repeat (first | with_reducible assumption | with_reducible exact List.mem_cons_self | (with_reducible refine List.mem_append_left _ ?_; (repeat (first | with_reducible exact List.mem_cons_self | with_reducible refine List.mem_cons_of_mem _ ?_ | with_reducible assumption)); done) | with_reducible refine List.mem_append_right _ ?_ | with_reducible refine List.mem_cons_of_mem _ ?_)); done)) | ((repeat (first | with_reducible assumption | with_reducible exact List.mem_cons_self | (with_reducible refine List.mem_append_left _ ?_; (repeat (first | with_reducible exact List.mem_cons_self | with_reducible refine List.mem_cons_of_mem _ ?_ | with_reducible assumption)); done) | with_reducible refine List.mem_append_right _ ?_ | with_reducible refine List.mem_cons_of_mem _ ?_)); done))); done)
      | (simp only [List.cons_append, List.nil_append, List.mem_cons] at hp ⊢; rcases hp with h | h | h | h | h | h <;> simp [h])
theorem wtPre_t {hs : List (Bool × Int)} {wt : Nat → Int} {i : Nat} {n : Int} (h : hs[i]? = some (true, n)) : wtPre hs wt (i + 1) = wtPre hs wt i := by
  unfold wtPre
  rw [List.range_succ, List.filterMap_append]
  simp [h]
theorem wtPre_f {hs : List (Bool × Int)} {wt : Nat → Int} {i : Nat} {n : Int} (h : hs[i]? = some (false, n)) : wtPre hs wt (i + 1) = wtPre hs wt i ++ [wt i] := by
  unfold wtPre
  rw [List.range_succ, List.filterMap_append]
  simp [h]
set_option maxHeartbeats 16000000 in
theorem brTurn (w : World) (hA pA rA hd wl el e it : Addr) (hv pv rv : List Value) (nc pc rc : Nat) (hs : List (Bool × Int)) (ps : List Str) (up : List (Str × Int)) (mt : Nat → Nat) (wt : Nat → Int) (news0 : List (Addr × Obj)) (hok : BrOk hs ps up mt wt) (hH : HrAt news0 hv hs) (hpv : StrV pv ps) (hrv : StrV rv (up.map (·.1)))
    (hpA : (pA, W.listOf pv.toArray pc) ∈ news0) (hrA : (rA, W.listOf rv.toArray rc) ∈ news0) (lo : (hd == sysModules) = false)
    (loose : List Str) (mean : ExcName → Option Value) (mg mb : Str → Option Value) (dp un : Nat) (gd : Option (List Code)) (cn : Str) (cs0 : Scope) (Lc a : Addr) (ccd : Value) (cls : List (Str × Addr)) (outer : List Env) (base g : Heap) (L : Addr) (R : Result → Shared → Prop)
    (B : Below (ktrTop dp un gd cn cs0 Lc a ccd cls outer) base (envX cn cs0 Lc a ccd cls :: outer) g) (X : (KK w).In g) (T : Top VV loose mean mg mb g) (hd0 : dp + 90 < recursionLimit) (hu : un + 900 < cLine) (os : OsState)
    (a1 : @LT.lt Nat _ hd wl) (a2 : @LT.lt Nat _ wl el) (a3 : @LT.lt Nat _ el it) (a4 : @LT.lt Nat _ it e) (hn0 : ∀ p ∈ news0, @LT.lt Nat _ p.1 hd)
    (i : Nat) (v : Value) (its new : List (Addr × Obj)) (m : Str → Option Value) (news : List (Addr × Obj)) (s : Shared) (hi : i < hv.length) (hV : VE hv i v new) (hS : SE e it hA (i + 1) its) (hj : BrInv w hA pA rA hd wl el news0 hs up ps wt i m news)
    (hnew : ∀ p ∈ new, @LT.lt Nat _ L p.1 ∧ (∀ q ∈ its, q.1 ≠ p.1) ∧ (∀ q ∈ news, @LT.lt Nat _ q.1 p.1)) (F : Fr g L s.heap m) (N : News g L s.heap (its ++ (new ++ news))) (hb : AllBare s.gens) (hos : s.os = os)
    (E E2 : Value → Shared → Prop) :
      wpAny (model PP w) ((ktrTop dp un gd cn cs0 Lc a ccd cls outer).deeper (brEnv L)) (assign (forTarget brFor) (brEnv L) v) (fun _ s₂ => wpAny (model PP w) ((ktrTop dp un gd cn cs0 Lc a ccd cls outer).deeper (brEnv L)) (execs (forBody brFor) (brEnv L)) (fun f s₃ => match f with
          | .next | .cont => EndS (fun m news => BrInv w hA pA rA hd wl el news0 hs up ps wt (i + 1) m news) g L its os s₃
          | .brk => R (.ok .next) s₃
          | .ret v => R (.ok (.ret v)) s₃) E s₂) E2 s := by
  have l9 : Mine.Lead9 := trivial
  have l0 : Mine.Lead0 := trivial
  revert hok hH hpv hrv hpA hrA lo B X T hd0 hu a1 a2 a3 a4 hn0 hi hV hS hj hnew F N hb hos
  revert w hA pA rA hd wl el e it hv pv rv pc rc hs ps up mt wt news0 loose mean mg mb dp un gd cn cs0 Lc a ccd cls outer base g L R os i v its new m news s E E2
  intro w hA pA rA hd wl el e it hv pv rv pc rc hs ps up mt wt news0 loose mean mg mb dp un gd cn cs0 Lc a ccd cls outer base g L R os i v its new m news s E E2
  intros hok hH hpv hrv hpA hrA lo B X T hd0 hu a1 a2 a3 a4 hn0 hi hV hS hj hnew F N hb hos
  rename Mine.Lead0 => l0; clear l0
  dsimp only [PP, KK] at *
  revert X; k_fill; intro X
  obtain ⟨vp, vc, vn, vm, oH, kvs, wv, n1, ev, n2, rfl, hm, hoD, hHe, hwv, hev⟩ := hj
  obtain ⟨x, Tt, tt, hx, rfl, rfl⟩ := hV
  obtain ⟨old, oi, rfl, hoi⟩ := hS
  obtain ⟨ha, b, n, t, c, rfl, hsi, hmt, hn1, hn4⟩ := hH.get hx
  obtain ⟨-, hne1, hne2⟩ := hnew _ (.head _)
  have t1 := hne1 _ (.head _); have t2 := hne1 _ (.tail _ (.head _))
  have t3 := hne2 _ (.head _); have t4 := hne2 _ (.tail _ (.head _)); have t5 := hne2 _ (.tail _ (.tail _ (.head _)))
  have t6 : ∀ p ∈ news0, @LT.lt Nat _ p.1 Tt := fun p hp => hne2 p (.tail _ (.tail _ (.tail _ hp)))
  clear hne1 hne2 hnew
  dsimp only at t1 t2 t3 t4 t5
  have F0 := fr_cast F hm
  clear F hm
  have hlt := (List.getElem?_eq_some_iff.mp hsi).1
  have hl1 := hok.n
  have hpn := hok.pn
  have hpz := hok.pz
  have hlp := hpv.length
  have hrow := hok.row i hlt
  have hlk := hHe.length
  have hlk2 := heldL_len (hs.take i) 0 up
  rw [List.length_take] at hlk2
  have hw1 := IntsAre_len hwv
  have hw2 := wtPre_len hs wt i
  have he1 := hev.length
  rw [List.length_map, List.length_range] at he1
  have hrz1 : wv.toArray.size < 1000 := by rw [List.size_toArray]; omega
  have hrz2 : ev.toArray.size < 1000 := by rw [List.size_toArray]; omega
  have hnh : ∀ p ∈ news0, p.1 ≠ hd := fun p hp => neN (Nat.ne_of_lt (hn0 p hp))
  have hnw : ∀ p ∈ news0, p.1 ≠ wl := fun p hp => neN (Nat.ne_of_lt (Nat.lt_trans (hn0 p hp) a1))
  have hne : ∀ p ∈ news0, p.1 ≠ el := fun p hp => neN (Nat.ne_of_lt (Nat.lt_trans (hn0 p hp) (Nat.lt_trans a1 a2)))
  have eT : Txt.join (Str.ofString "") (ps.drop (i : Int).toNat ++ ps.take (i : Int).toNat) = rowT ps i := by rw [Int.toNat_natCast]; rfl
  dsimp only [brEnv] at *
  generalize hb1 : forBody brFor = body
  generalize hb2 : forTarget brFor = target
  generalize hb3 : fdScope brStmt = scope
  conv at hb1 => { lhs; whnf }
  conv at hb2 => { lhs; whnf }
  conv at hb3 => { lhs; whnf }
  subst hb1 hb2 hb3
  obtain ⟨heap', gens', drawn', toks', os'⟩ := s
  simp only [List.cons_append, List.nil_append] at N ⊢
  cases b with
  | true =>
    k_steps
    (with_reducible rename News _ _ _ _ => N9)
    (with_reducible rename Fr _ _ _ _ => F9)
    have N11 := cb_drop N9 (fun p hp => List.Mem.tail _ (List.Mem.tail _ (List.Mem.tail _ hp)))
    clear N9
    rw [eT]
    refine Halt.mk (CC.cl (c_check w (rowT ps i) _ _) loose mean mg mb (dp + 1) (un + 3) gd brName _ 168 (.ref 167) [] (envX cn cs0 Lc a ccd cls :: outer) (ktrTop dp un gd cn cs0 Lc a ccd cls outer) base _ _ _ _ _ _ B F9 X N11 T rfl hrow (by omega) (by omega) hb ?_)
    rintro v news' s2 ⟨rfl, rfl⟩ F12 N12 hb12 ho12
    rw [show chkL 0 (yldL 0 false (stripS (rowT ps i)).cps.toList) = takenB (rowT ps i) from rfl]
    obtain ⟨heap12, gens12, drawn12, toks12, os12⟩ := s2
    clear F9 N11
    (try dsimp only)
    k_steps
    obtain ⟨r, hr, hnext⟩ := hok.come i n hsi
    obtain ⟨tr, hrt⟩ := hrv.get (i := (heldL 0 (hs.take i) up).length) (r := r.1) (by rw [List.getElem?_map, hr]; rfl)
    obtain ⟨hr1, hr2, hr3⟩ := hok.rep r (List.mem_of_getElem? hr)
    (with_reducible rename News _ _ _ _ => N13)
    refine Halt.mk (kim_list (l := rv) (x := .str r.1 tr) (lo := W.listOf rv.toArray rc) (n := rc) N13 (by k_mem) rfl rfl (by omega) (by omega) (by rw [Int.toNat_natCast, hlk]; exact hrt) ?_)
    k_steps
    (with_reducible rename News _ _ _ _ => N14)
    (with_reducible rename Fr _ _ _ _ => F14)
    (with_reducible rename Obj.IsDictOf _ _ (stored _ _ _) => d14)
    rw [stored_absent (hHe.none (fun p hp => by have := heldL_lt _ _ _ p hp; rw [List.length_take] at this; omega))] at d14
    refine brEnd_mk (some (.int i tt)) (some (.bool true)) (some (.int n t)) vm ?_ d14 (by rw [hnext]; exact hHe.append (.cons tr hr1 hr2 hr3 .nil)) (by rw [wtPre_t hsi]; exact hwv) hev rfl F14 N14 hb12 (ho12.trans hos)
    · intro y
      by_cases h1 : y = Str.ofString "now"; (focus (subst h1; rfl)); by_cases h2 : y = Str.ofString "comes"; (focus (subst h2; rfl)); by_cases h3 : y = Str.ofString "place"; (focus (subst h3; rfl))
      simp only [brMap, if_neg h1, if_neg h2, if_neg h3]
  | false =>
    obtain ⟨hnext, hmi, hpar, ⟨r, k, hlu, hwt⟩, htk, hnt⟩ := hok.go i n hsi
    obtain ⟨tr, hva, hr1, hr2, hr3⟩ := hHe.at hlu
    have hsome : (valueAt kvs ((mt i : Nat) : Int)).isSome = true := by rw [hva]; rfl
    k_steps
    (with_reducible rename News _ _ _ _ => N9)
    (with_reducible rename Fr _ _ _ _ => F9)
    have N11 := cb_drop N9 (fun p hp => List.Mem.tail _ (List.Mem.tail _ (List.Mem.tail _ hp)))
    clear N9
    rw [eT]
    refine Halt.mk (CC.cl (c_check w (rowT ps i) _ _) loose mean mg mb (dp + 1) (un + 3) gd brName _ 168 (.ref 167) [] (envX cn cs0 Lc a ccd cls :: outer) (ktrTop dp un gd cn cs0 Lc a ccd cls outer) base _ _ _ _ _ _ B F9 X N11 T rfl hrow (by omega) (by omega) hb ?_)
    rintro v news' s2 ⟨rfl, rfl⟩ F12 N12 hb12 ho12
    rw [show chkL 0 (yldL 0 false (stripS (rowT ps i)).cps.toList) = takenB (rowT ps i) from rfl]
    obtain ⟨heap12, gens12, drawn12, toks12, os12⟩ := s2
    clear F9 N11
    (try dsimp only)
    k_steps
    refine Halt.mk (wpAny_While ?_)
    (with_reducible rename News _ _ _ _ => N13)
    (with_reducible rename Fr _ _ _ _ => F13)
    refine brWhile0 w hA pA rA hd wl el (some (.bool false)) (some (.int n t)) pv pc ps hpv i tt (mt i) hpn hpz (by omega) hmi hpar htk hnt (fun j hj => hok.seg i j hlt hj) loose mean mg mb dp un gd cn cs0 Lc a ccd cls outer base g L _ B X T hd0 hu os _ (by k_mem) ?_ _ _ ⟨_, rfl⟩ ?_ F13 N13 (by exact hb12) (by exact ho12.trans hos)
    · intro tm m14 s14 hm14 F14 N14 hb14 ho14
      obtain ⟨heap14, gens14, drawn14, toks14, os14⟩ := s14
      have F15 := fr_cast F14 hm14
      clear F14 hm14 F13 N13
      (try dsimp only)
      k_steps
      (with_reducible rename News _ _ _ _ => N16)
      (with_reducible rename Fr _ _ _ _ => F16)
      refine Halt.mk (CC.cl (c_wait w r tr n t _ k) loose mean mg mb (dp + 1) (un + 3) gd brName _ 168 (.ref 167) [] (envX cn cs0 Lc a ccd cls :: outer) (ktrTop dp un gd cn cs0 Lc a ccd cls outer) base _ _ _ _ _ _ B F16 X N16 T rfl ⟨hr1, hn1, hn4, hr2, hr3⟩ (by omega) (by omega) hb14 ?_)
      rintro v news' s2 ⟨rfl, tw, rfl⟩ F17 N17 hb17 ho17
      obtain ⟨heap17, gens17, drawn17, toks17, os17⟩ := s2
      clear F16 N16
      (try dsimp only)
      k_steps
      (with_reducible rename News _ _ _ _ => N18)
      (with_reducible rename Fr _ _ _ _ => F18)
      rw [show wv.toArray.push (Value.int (n - k) tw) = (wv ++ [Value.int (n - k) tw]).toArray by simp] at N18
      refine brEnd_mk (some (.int i tt)) (some (.bool false)) (some (.int n t)) (some (.int (mt i : Nat) tm)) ?_ hoD (by rw [hnext]; exact hHe) (by rw [wtPre_f hsi, hwt]; exact ints_app hwv (.cons _ _ .nil)) hev rfl F18 N18 hb17 (ho17.trans ho14)
      intro y
      rfl
    · intro t y e
      by_cases h1 : y = Str.ofString "mate"
      · subst h1; exact e
      by_cases h2 : y = Str.ofString "now"
      · subst h2; rfl
      by_cases h3 : y = Str.ofString "comes"
      · subst h3; rfl
      by_cases h4 : y = Str.ofString "place"
      · subst h4; rfl
      simp only [brMap, if_neg h1, if_neg h2, if_neg h3, if_neg h4]
end Mine
end
section
open PySem PySem.W PyProof.Rows PySem.Calls PySem.Spec PyProof.Rows.LCg
set_option maxRecDepth 100000
namespace Mine
noncomputable def lawStmt : Stmt := sAt PP.main.body 21
noncomputable abbrev lawName : Str := Str.ofString "law"
noncomputable abbrev lawEnv (L fa : Addr) : Env := envOfC lawName (fdScope lawStmt) L fa (.ref 184)
noncomputable def lawS (k : Nat) : Stmt := sAt (fdBody lawStmt) k
noncomputable abbrev lawTail (k : Nat) : List Stmt := (fdBody lawStmt).drop k
noncomputable abbrev lawA (L fa : Addr) : Around := callerA.deeper (lawEnv L fa)
noncomputable abbrev lawCells (L : Addr) : List (Str × Addr) := [(Str.ofString "came", L + 1 + 1), (Str.ofString "dress", L + 1)]
theorem lawA_eq (L fa : Addr) : lawA L fa = ktrTop (1 + claimMargin + 1) (4 + 3) (some []) lawName (fdScope lawStmt) L fa (.ref 184) (lawCells L) [] := by with_unfolding_all rfl
theorem law_call {k : Nat} {w : World} {f : Addr} {news : List (Addr × Obj)} {pre : Prop} {vs : List Value} {R : Value → List (Addr × Obj) → Prop} (h : CC k w f news pre vs R) {loose : List Str} {mean : ExcName → Option Value} {mg mb : Str → Option Value} {g : Heap} {L fa : Addr} {m : Str → Option Value} {s : Shared} {Q E : Value → Shared → Prop}
    (B : Below callerA g [] g) (F : Fr g L s.heap m) (X : (KK w).In g) (N : News g L s.heap news) (T : Top VV loose mean mg mb g) (hp : pre) (hk : k ≤ 150) (hb : AllBare s.gens)
    (hret : ∀ v news' s', R v news' → Fr g L s'.heap m → News g L s'.heap news' → AllBare s'.gens → s'.os = s.os → Q v s') :
    wpAny (model PP w) (lawA L fa) (call (.ref f) vs) Q E s := by
  rw [lawA_eq]
  exact CC.cl h loose mean mg mb (1 + claimMargin + 1) (4 + 3) (some []) lawName (fdScope lawStmt) fa (.ref 184) (lawCells L) [] callerA g g L m s Q E B F X N T (by with_unfolding_all rfl) hp (Nat.lt_of_le_of_lt (Nat.add_le_add_left hk _) (by decide +kernel)) (Nat.lt_of_le_of_lt (Nat.add_le_add_left (Nat.mul_le_mul_left 10 hk) _) (by decide +kernel)) hb hret
theorem law_callC {k : Nat} {w : World} {f : Addr} {nw : List (Addr × Obj)} {pre : Prop} {vs : List Value} {R : Value → Prop} {C : Addr} (h : ∀ oC, CC k w f ((C, oC) :: nw) pre vs (fun v n2 => n2 = (C, oC) :: nw ∧ R v)) {loose : List Str} {mean : ExcName → Option Value} {mg mb : Str → Option Value} {g : Heap} {L fa : Addr} {oL : Obj} {m mC : Str → Option Value} {s : Shared} {Q E : Value → Shared → Prop}
    (B : Below callerA g [] g) (X : (KK w).In g) (T : Top VV loose mean mg mb g) (hoL : NsObj oL m) (hgL : g.objs.size ≤ L) (hLn : ∀ p ∈ nw, p.1 ≠ L) (F : Fr g C s.heap mC) (N : News g C s.heap ((L, oL) :: nw)) (hp : pre) (hk : k ≤ 150) (hb : AllBare s.gens)
    (hret : ∀ v oL' s', R v → NsObj oL' m → Fr g C s'.heap mC → News g C s'.heap ((L, oL') :: nw) → AllBare s'.gens → s'.os = s.os → Q v s') :
    wpAny (model PP w) (lawA L fa) (call (.ref f) vs) Q E s := by
  obtain ⟨oC, hoC, F1, N1⟩ := fr_swap F N hoL hLn hgL
  refine law_call (h oC) B F1 X N1 T hp hk hb ?_
  rintro v news' s' ⟨rfl, hR⟩ F2 N2 hb2 ho2
  obtain ⟨oL', hoL', F3, N3⟩ := fr_swap F2 N2 hoC (fun p hp => (N p (.tail _ hp)).2.1) F.above
  exact hret v oL' s' hR hoL' F3 N3 hb2 ho2
end Mine
end
theorem Mine.calmLawG : True := by w_top off; first | walk1 | trivial
section
open PySem PySem.W PyProof.Rows PySem.Calls PySem.Spec PyProof.Rows.LCg
set_option maxRecDepth 100000
namespace Mine
def m9k42 : Lean.MacroM (Lean.TSyntax `tactic) := Mine.t9seq [Mine.t9call "142", Mine.m9e23]
local macro_rules | `(tactic| walk_at $s) => Mine.mw s [("ite", Mine.m9k6), ("call ref", Mine.m9k42)]
inductive GuAt (news : List (Addr × Obj)) : List Value → List (Int × Str) → Prop
  | nil : GuAt news [] []
  | cons {t : Addr} {vs : List Value} {c : Int} {r : Str} {rs : List (Int × Str)} (t1 t2 : Tok) (k : Nat) : (t, ({ cls := .type "tuple", data := .seq #[.int c t1, .str r t2] k } : Obj)) ∈ news → GuAt news vs rs → GuAt news (.ref t :: vs) ((c, r) :: rs)
theorem GuAt.mono {news news' : List (Addr × Obj)} {vs : List Value} {r : List (Int × Str)} (h : GuAt news vs r) (k : ∀ p ∈ news, p ∈ news') : GuAt news' vs r := by
  induction h with
  | nil => exact .nil
  | cons t1 t2 c h1 _ ih => exact .cons t1 t2 c (k _ h1) ih
theorem GuAt.append {news : List (Addr × Obj)} {a b : List Value} {x y : List (Int × Str)} (h : GuAt news a x) (k : GuAt news b y) : GuAt news (a ++ b) (x ++ y) := by
  induction h with
  | nil => exact k
  | cons t1 t2 c h1 _ ih => exact .cons t1 t2 c h1 ih
theorem GuAt.length {news : List (Addr × Obj)} {vs : List Value} {r : List (Int × Str)} (h : GuAt news vs r) : vs.length = r.length := by
  induction h with
  | nil => rfl
  | cons _ _ _ _ _ ih => simp [ih]
theorem GuAt.get {news : List (Addr × Obj)} {vs : List Value} {r : List (Int × Str)} (h : GuAt news vs r) : ∀ {i : Nat} {v : Value}, vs[i]? = some v → ∃ (t : Addr) (c : Int) (s : Str) (t1 t2 : Tok) (k : Nat), v = .ref t ∧ r[i]? = some (c, s) ∧ (t, ({ cls := .type "tuple", data := .seq #[.int c t1, .str s t2] k } : Obj)) ∈ news := by
  induction h with
  | nil => intro i v hv; simp at hv
  | @cons t vs c r rs t1 t2 k h1 _ ih =>
    intro i v hv
    cases i with
    | zero => simp at hv; exact ⟨t, c, r, t1, t2, k, hv.symm, by simp, h1⟩
    | succ i => exact ih (by simpa using hv)
noncomputable def gIfs : List Comprehension → List PySem.Expr
  | g :: _ => g.ifs
  | _ => []
theorem ints_atL' {vs : List Value} {ns : List Int} (h : IntsAre vs ns) : ∀ {i : Nat} {v : Value}, vs[i]? = some v → ∃ n t, v = .int n t ∧ ns[i]? = some n := by
  induction h with
  | nil => intro i v hv; simp at hv
  | cons n t _ ih =>
    intro i v hv
    cases i with
    | zero => simp at hv; exact ⟨n, t, hv.symm, by simp⟩
    | succ i => exact ih (by simpa using hv)
noncomputable def guest (p : Int × (Bool × Int)) : Option (Int × Str) := if p.2.1 then some (p.1, replyS p.1 p.2.2) else none
noncomputable def KG (news0 : List (Addr × Obj)) (zs : List (Int × (Bool × Int))) (i : Nat) (ys : List Value) (tus : List (Addr × Obj)) : Prop := GuAt (tus ++ news0) ys ((zs.take i).filterMap guest)
theorem teG_no {g : Heap} {C L D T : Addr} {oL oT : Obj} {m : Str → Option Value} {os : OsState} {its news0 tus : List (Addr × Obj)} {zs : List (Int × (Bool × Int))} {i : Nat} {ys : List Value} {c n : Int} {mC : Str → Option Value} {s : Shared} (hoL : NsObj oL m) (hi : zs[i]? = some (c, (false, n))) (hK : KG news0 zs i ys tus) (ht : ∀ p ∈ tus, @LT.lt Nat _ D p.1) (F : Fr g C s.heap mC) (N : News g C s.heap ((L, oL) :: (T, oT) :: (D, lst ys) :: (its ++ (tus ++ news0)))) (hb : AllBare s.gens) (hos : s.os = os) :
    TEX g C L D m (lst ys) os news0 its (KG news0 zs (i + 1) ys) s := by
  refine ⟨oL, _, tus, hoL, ?_, ht, F, cb_drop N ?_, hb, hos⟩
  · unfold KG at *
    rw [List.take_succ, hi, List.filterMap_append]
    simpa [guest] using hK
  · intro p hp
    first
      | ((revert p hp); (try dsimp only [List.cons_append]); (repeat' (first | with_reducible refine List.forall_mem_cons.mpr ⟨?_, ?_⟩ | with_reducible refine List.forall_mem_append.mpr ⟨?_, ?_⟩ | with_reducible exact List.forall_mem_nil _ | (intro _ _; ((repeat (first | with_reducible assumption | with_reducible exact List.mem_cons_self | (with_reducible refine List.mem_append_left _ ?_; (repeat (first | with_reducible exact List.mem_cons_self | with_reducible refine List.mem_cons_of_mem _ ?_ | with_reducible assumption)); done) | with_reducible refine List.mem_append_right _ ?_ | with_reducible refine List.mem_cons_of_mem _ ?_)); done)) | ((repeat (first | with_reducible assumption | with_reducible exact List.mem_cons_self | (with_reducible refine List.mem_append_left _ ?_; (repeat (first | with_reducible exact List.mem_cons_self | with_reducible refine List.mem_cons_of_mem _ ?_ | with_reducible assumption)); done) | with_reducible refine List.mem_append_right _ ?_ | with_reducible refine List.mem_cons_of_mem _ ?_)); done))); done)
      | (simp only [List.cons_append, List.mem_append, List.mem_cons] at hp ⊢; rcases hp with h | h | h | h | h <;> simp [h])
theorem teG_yes {g : Heap} {C L D T G : Addr} {oL oT : Obj} {m : Str → Option Value} {os : OsState} {its news0 tus : List (Addr × Obj)} {zs : List (Int × (Bool × Int))} {i : Nat} {ys : List Value} {c n : Int} {t1 t2 : Tok} {mC : Str → Option Value} {s : Shared} (hoL : NsObj oL m) (hi : zs[i]? = some (c, (true, n))) (hK : KG news0 zs i ys tus) (ht : ∀ p ∈ tus, @LT.lt Nat _ D p.1) (hG : @LT.lt Nat _ D G) (F : Fr g C s.heap mC)
    (N : News g C s.heap ((G, ({ cls := .type "tuple", data := .seq #[.int c t1, .str (replyS c n) t2] } : Obj)) :: (L, oL) :: (T, oT) :: (D, lst ys) :: (its ++ (tus ++ news0)))) (hb : AllBare s.gens) (hos : s.os = os) :
    TEX g C L D m (lst ys) os news0 its (KG news0 zs (i + 1) (ys ++ [.ref G])) s := by
  refine ⟨oL, _, (G, ({ cls := .type "tuple", data := .seq #[.int c t1, .str (replyS c n) t2] } : Obj)) :: tus, hoL, ?_, List.forall_mem_cons.mpr ⟨hG, ht⟩, F, cb_drop N ?_, hb, hos⟩
  · unfold KG at *
    rw [List.take_succ, hi, List.filterMap_append]
    exact (hK.mono fun p hp => .tail _ hp).append (.cons t1 t2 0 (.head _) .nil)
  · intro p hp
    first
      | ((revert p hp); (try dsimp only [List.cons_append]); (repeat' (first | with_reducible refine List.forall_mem_cons.mpr ⟨?_, ?_⟩ | with_reducible refine List.forall_mem_append.mpr ⟨?_, ?_⟩ | with_reducible exact List.forall_mem_nil _ | (intro _ _; ((repeat (first | with_reducible assumption | with_reducible exact List.mem_cons_self | (with_reducible refine List.mem_append_left _ ?_; (repeat (first | with_reducible exact List.mem_cons_self | with_reducible refine List.mem_cons_of_mem _ ?_ | with_reducible assumption)); done) | with_reducible refine List.mem_append_right _ ?_ | with_reducible refine List.mem_cons_of_mem _ ?_)); done)) | ((repeat (first | with_reducible assumption | with_reducible exact List.mem_cons_self | (with_reducible refine List.mem_append_left _ ?_; (repeat (first | with_reducible exact List.mem_cons_self | with_reducible refine List.mem_cons_of_mem _ ?_ | with_reducible assumption)); done) | with_reducible refine List.mem_append_right _ ?_ | with_reducible refine List.mem_cons_of_mem _ ?_)); done))); done)
      | (simp only [List.cons_append, List.mem_append, List.mem_cons] at hp ⊢; rcases hp with h | h | h | h | h | h <;> simp [h])
set_option maxHeartbeats 8000000 in
theorem guTurn (w : World) (L fa : Addr) (cv hv : List Value) (cells : List Int) (hs : List (Bool × Int)) (hI : IntsAre cv cells) (news0 : List (Addr × Obj)) (hH : HrAt news0 hv hs) (hc : ∀ c ∈ cells, 0 ≤ c ∧ c < 1000000) (hh : ∀ h ∈ hs, 1 ≤ h.2 ∧ h.2 ≤ 320) (n : Nat)
    (loose : List Str) (mean : ExcName → Option Value) (mg mb : Str → Option Value) (g : Heap) (m : Str → Option Value)
    (B : Below callerA g [] g) (X : (KK w).In g) (T : Top VV loose mean mg mb g) (os : OsState) :
    TurnG PP w (lawA L fa) (lcElt (asVal (lawS 3))) (gTarget default (lcGens (asVal (lawS 3)))) (gIfs (lcGens (asVal (lawS 3)))) (lcScope default (asVal (lawS 3))) (lawEnv L fa) [] g L m os news0 n (VZ cv hv) (KG news0 (cells.zip hs)) := by
  intro D C oL its i v new tus mC ys s E hoL hgL hLD hDC hn0 hi hv' hK ht hnew hoff hnL F N hb hos
  dsimp only [PP, KK] at *
  revert X; k_fill; intro X
  obtain ⟨x, y, Tz, hx, hy, rfl, rfl⟩ := hv'
  obtain ⟨c, tc, rfl, hci⟩ := ints_atL' hI hx
  obtain ⟨ha, b, n', tn, k, rfl, hsi, hmt, -, -⟩ := hH.get hy
  have hzi : (cells.zip hs)[i]? = some (c, (b, n')) := by rw [List.getElem?_zip_eq_some]; exact ⟨hci, hsi⟩
  obtain ⟨c0, c1⟩ := hc c (List.mem_of_getElem? hci)
  obtain ⟨n0, n1⟩ := hh _ (List.mem_of_getElem? hsi)
  generalize hb5 : gIfs (lcGens (asVal (lawS 3))) = ifs
  conv at hb5 => { lhs; whnf }
  subst hb5
  dsimp only [lawA, lawEnv] at *
  generalize hb1 : gTarget default (lcGens (asVal (lawS 3))) = target
  generalize hb2 : lcElt (asVal (lawS 3)) = elt
  generalize hb3 : fdScope lawStmt = scope
  generalize hb4 : lcScope default (asVal (lawS 3)) = scope2
  conv at hb1 => { lhs; whnf }
  conv at hb2 => { lhs; whnf }
  conv at hb3 => { lhs; whnf }
  conv at hb4 => { lhs; whnf }
  subst hb1 hb2 hb3 hb4
  obtain ⟨heap', gens', drawn', toks', os'⟩ := s
  obtain ⟨hDT, hit, hq⟩ := hnew _ (.head _)
  have hLn : ∀ p ∈ (Tz, ({ cls := .type "tuple", data := .seq #[.int c tc, .ref ha] } : Obj)) :: (D, lst ys) :: (its ++ (tus ++ news0)), p.1 ≠ L := by
    refine List.forall_mem_cons.mpr ⟨neN (Nat.ne_of_gt (Nat.lt_trans hLD hDT)), List.forall_mem_cons.mpr ⟨neN (Nat.ne_of_gt hLD), fun p hp => ?_⟩⟩
    rcases List.mem_append.mp hp with hp | hp
    · exact Ne.symm (hoff _ (.head _) p hp)
    rcases List.mem_append.mp hp with hp | hp
    · exact neN (Nat.ne_of_gt (Nat.lt_trans hLD (ht p hp)))
    · exact hnL p hp
  simp only [List.cons_append, List.nil_append] at N
  have N0 : News g C heap' ((L, oL) :: (Tz, ({ cls := .type "tuple", data := .seq #[.int c tc, .ref ha] } : Obj)) :: (D, lst ys) :: (its ++ (tus ++ news0))) := cb_drop N (by
    intro p hp
    first
      | ((revert p hp); (repeat' (first | with_reducible refine List.forall_mem_cons.mpr ⟨?_, ?_⟩ | with_reducible refine List.forall_mem_append.mpr ⟨?_, ?_⟩ | with_reducible exact List.forall_mem_nil _ | (intro _ _; ((repeat (first | with_reducible assumption | with_reducible exact List.mem_cons_self | (with_reducible refine List.mem_append_left _ ?_; (repeat (first | with_reducible exact List.mem_cons_self | with_reducible refine List.mem_cons_of_mem _ ?_ | with_reducible assumption)); done) | with_reducible refine List.mem_append_right _ ?_ | with_reducible refine List.mem_cons_of_mem _ ?_)); done)) | ((repeat (first | with_reducible assumption | with_reducible exact List.mem_cons_self | (with_reducible refine List.mem_append_left _ ?_; (repeat (first | with_reducible exact List.mem_cons_self | with_reducible refine List.mem_cons_of_mem _ ?_ | with_reducible assumption)); done) | with_reducible refine List.mem_append_right _ ?_ | with_reducible refine List.mem_cons_of_mem _ ?_)); done))); done)
      | (simp only [List.mem_append, List.mem_cons] at hp ⊢; rcases hp with h | h | h | h | h | h <;> simp [h]))
  generalize hnr : its ++ (tus ++ news0) = nr at *
  have hmt' : (ha, _) ∈ nr := hnr ▸ List.mem_append_right _ (List.mem_append_right _ hmt)
  clear N
  cases b with
  | false =>
    k_steps
    (with_reducible rename News _ _ _ _ => N9)
    (with_reducible rename Fr _ _ _ _ => F9)
    subst hnr
    exact teG_no hoL hzi hK ht F9 N9 hb hos
  | true =>
    k_steps
    (with_reducible rename News _ _ _ _ => N9)
    (with_reducible rename Fr _ _ _ _ => F9)
    refine Halt.mk (law_callC (fun oC => c_reply w c tc n' tn _) B X T hoL hgL hLn F9 N9 ⟨c0, c1, n0, n1⟩ (by decide) hb ?_)
    rintro v oL2 s2 ⟨tr, rfl⟩ hoL2 F2 N2 hb2 ho2
    obtain ⟨heap2, gens2, drawn2, toks2, os2⟩ := s2
    clear F9 N9
    (try dsimp only)
    k_steps
    (with_reducible rename News _ _ _ _ => N10)
    (with_reducible rename Fr _ _ _ _ => F10)
    (with_reducible rename _ ∧ _ => l10)
    subst hnr
    refine teG_yes hoL2 hzi hK ht ?_ F10 N10 hb2 (ho2.trans hos)
    (repeat ((with_reducible rename _ ∧ _ => hc); obtain ⟨_, _⟩ := hc))
    assumption
end Mine
end
theorem Mine.calmLawP : True := by w_top off; first | walk1 | trivial
section
open PySem PySem.W PyProof.Rows PySem.Calls PySem.Spec PyProof.Rows.LCg
set_option maxRecDepth 100000
namespace Mine
local macro_rules | `(tactic| walk_at $s) => Mine.mw s [("subscriptTail Name BinOp ref int", Mine.m9e23)]
theorem teS_mk {g : Heap} {C L D : Addr} {oL : Obj} {m : Str → Option Value} {os : OsState} {its news0 : List (Addr × Obj)} {K : List (Addr × Obj) → Prop} {mC : Str → Option Value} {s : Shared} {ys : List Value} {nw : List (Addr × Obj)} (hoL : NsObj oL m) (hK : K []) (F : Fr g C s.heap mC) (N : News g C s.heap nw) (hs : ∀ p ∈ its ++ ((L, oL) :: (D, lst ys) :: news0), p ∈ nw) (hb : AllBare s.gens) (hos : s.os = os) :
    TEX g C L D m (lst ys) os news0 its K s := ⟨oL, _, [], hoL, hK, (fun _ h => absurd h List.not_mem_nil), F, cb_drop N hs, hb, hos⟩
noncomputable def dressT : List Str := [Str.ofString "", Str.ofString "\\)", Str.ofString "\")\"", Str.ofString "\\\"", Str.ofString "\\\\", Str.ofString "\"\\\"(\""]
noncomputable def pieceS (p : Int × (Bool × Int)) : Str := dressT.getD ((p.1.fdiv 640).fmod 6).toNat Str.empty ++ (if p.2.1 then Str.ofString "(" else Str.ofString ")")
noncomputable def KP (zs : List (Int × (Bool × Int))) (i : Nat) (ys : List Value) (tus : List (Addr × Obj)) : Prop := tus = [] ∧ StrV ys ((zs.take i).map pieceS)
theorem StrV_at {vs : List Value} {x : List Str} (h : StrV vs x) : ∀ {i : Nat}, i < x.length → ∃ t, vs[i]? = some (.str (x.getD i Str.empty) t) := by
  induction h with
  | nil => intro i hi; simp at hi
  | @cons r vs rs t _ ih =>
    intro i hi
    cases i with
    | zero => exact ⟨t, by simp⟩
    | succ i =>
      obtain ⟨t', e⟩ := ih (i := i) (by simpa using hi)
      exact ⟨t', by simpa using e⟩
theorem dress_len (k : Nat) : (dressT.getD k Str.empty).length ≤ 10 := by
  rw [List.getD_eq_getElem?_getD]
  cases h : dressT[k]? with
  | none => decide +kernel
  | some r => exact (show ∀ r ∈ dressT, r.length ≤ 10 by decide +kernel) r (List.mem_of_getElem? h)
set_option maxHeartbeats 8000000 in
theorem piTurn (w : World) (L fa dl : Addr) (oc : Obj) (hoc : oc.data = .cell (some (.ref dl))) (dv : List Value) (dc : Nat) (hdv : StrV dv dressT) (cv hv : List Value) (cells : List Int) (hs : List (Bool × Int)) (hI : IntsAre cv cells) (news0 : List (Addr × Obj)) (hdl : (dl, W.listOf dv.toArray dc) ∈ news0) (hcl : (L + 1, oc) ∈ news0) (hH : HrAt news0 hv hs) (hc : ∀ c ∈ cells, 0 ≤ c ∧ c < 1000000) (n : Nat)
    (loose : List Str) (mean : ExcName → Option Value) (mg mb : Str → Option Value) (g : Heap) (m : Str → Option Value)
    (B : Below callerA g [] g) (X : (KK w).In g) (T : Top VV loose mean mg mb g) (os : OsState) :
    TurnG PP w (lawA L fa) (lcElt (asVal (lawS 5))) (gTarget default (lcGens (asVal (lawS 5)))) [] (lcScope default (asVal (lawS 5))) (lawEnv L fa) [(Str.ofString "dress", L + 1)] g L m os news0 n (VZ cv hv) (KP (cells.zip hs)) := by
  intro D C oL its i v new tus mC ys s E hoL hgL hLD hDC hn0 hi hv' hK ht hnew hoff hnL F N hb hos
  dsimp only [PP, KK] at *
  revert X; k_fill; intro X
  obtain ⟨x, y, Tz, hx, hy, rfl, rfl⟩ := hv'
  obtain ⟨rfl, hK⟩ := hK
  obtain ⟨c, tc, rfl, hci⟩ := ints_atL' hI hx
  obtain ⟨ha, b, n', tn, k, rfl, hsi, hmt, -, -⟩ := hH.get hy
  have hzi : (cells.zip hs)[i]? = some (c, (b, n')) := by rw [List.getElem?_zip_eq_some]; exact ⟨hci, hsi⟩
  obtain ⟨c0, c1⟩ := hc c (List.mem_of_getElem? hci)
  have hk0 : 0 ≤ (c.fdiv 640).fmod 6 := by rw [Int.fmod_eq_emod_of_nonneg _ (by decide)]; exact Int.emod_nonneg _ (by decide)
  have hk1 : (c.fdiv 640).fmod 6 < 6 := by rw [Int.fmod_eq_emod_of_nonneg _ (by decide)]; exact Int.emod_lt_of_pos _ (by decide)
  obtain ⟨td, hda⟩ := StrV_at hdv (i := ((c.fdiv 640).fmod 6).toNat) (by show _ < 6; omega)
  have hnext : ((cells.zip hs).take (i + 1)).map pieceS = ((cells.zip hs).take i).map pieceS ++ [pieceS (c, (b, n'))] := by rw [List.take_succ, hzi, List.map_append]; rfl
  dsimp only [lawA, lawEnv] at *
  generalize hb1 : gTarget default (lcGens (asVal (lawS 5))) = target
  generalize hb2 : lcElt (asVal (lawS 5)) = elt
  generalize hb3 : fdScope lawStmt = scope
  generalize hb4 : lcScope default (asVal (lawS 5)) = scope2
  conv at hb1 => { lhs; whnf }
  conv at hb2 => { lhs; whnf }
  conv at hb3 => { lhs; whnf }
  conv at hb4 => { lhs; whnf }
  subst hb1 hb2 hb3 hb4
  obtain ⟨heap', gens', drawn', toks', os'⟩ := s
  simp only [List.cons_append, List.nil_append] at N
  have N0 : News g C heap' ((L, oL) :: (Tz, ({ cls := .type "tuple", data := .seq #[.int c tc, .ref ha] } : Obj)) :: (D, lst ys) :: (its ++ news0)) := cb_drop N (by
    intro p hp
    first
      | ((revert p hp); (repeat' (first | with_reducible refine List.forall_mem_cons.mpr ⟨?_, ?_⟩ | with_reducible refine List.forall_mem_append.mpr ⟨?_, ?_⟩ | with_reducible exact List.forall_mem_nil _ | (intro _ _; ((repeat (first | with_reducible assumption | with_reducible exact List.mem_cons_self | (with_reducible refine List.mem_append_left _ ?_; (repeat (first | with_reducible exact List.mem_cons_self | with_reducible refine List.mem_cons_of_mem _ ?_ | with_reducible assumption)); done) | with_reducible refine List.mem_append_right _ ?_ | with_reducible refine List.mem_cons_of_mem _ ?_)); done)) | ((repeat (first | with_reducible assumption | with_reducible exact List.mem_cons_self | (with_reducible refine List.mem_append_left _ ?_; (repeat (first | with_reducible exact List.mem_cons_self | with_reducible refine List.mem_cons_of_mem _ ?_ | with_reducible assumption)); done) | with_reducible refine List.mem_append_right _ ?_ | with_reducible refine List.mem_cons_of_mem _ ?_)); done))); done)
      | (simp only [List.mem_append, List.mem_cons] at hp ⊢; rcases hp with h | h | h | h | h <;> simp [h]))
  generalize hnr : its ++ news0 = nr at *
  have hmt' : (ha, _) ∈ nr := hnr ▸ List.mem_append_right _ hmt
  have hdl' : (dl, _) ∈ nr := hnr ▸ List.mem_append_right _ hdl
  have hcl' : (L + 1, _) ∈ nr := hnr ▸ List.mem_append_right _ hcl
  clear N
  have hrl : (dressT.getD ((c.fdiv 640).fmod 6).toNat Str.empty).length ≤ 10 := dress_len _
  generalize hr : dressT.getD ((c.fdiv 640).fmod 6).toNat Str.empty = r at *
  cases b with
  | false =>
    k_steps
    (with_reducible rename News _ _ _ _ => N9)
    refine Halt.mk (kim_list (l := dv) (x := .str r td) (lo := W.listOf dv.toArray dc) (n := dc) N9 (by k_mem) rfl rfl hk0 (by omega) hda ?_)
    k_steps
    (with_reducible rename News _ _ _ _ => N10)
    (with_reducible rename Fr _ _ _ _ => F10)
    subst hnr
    refine teS_mk hoL ⟨rfl, ?_⟩ F10 N10 ?_ hb hos
    · rw [hnext]
      refine hK.append ?_
      subst hr
      exact .cons _ .nil
    · intro p hp
      first
        | ((revert p hp); (repeat' (first | with_reducible refine List.forall_mem_cons.mpr ⟨?_, ?_⟩ | with_reducible refine List.forall_mem_append.mpr ⟨?_, ?_⟩ | with_reducible exact List.forall_mem_nil _ | (intro _ _; ((repeat (first | with_reducible assumption | with_reducible exact List.mem_cons_self | (with_reducible refine List.mem_append_left _ ?_; (repeat (first | with_reducible exact List.mem_cons_self | with_reducible refine List.mem_cons_of_mem _ ?_ | with_reducible assumption)); done) | with_reducible refine List.mem_append_right _ ?_ | with_reducible refine List.mem_cons_of_mem _ ?_)); done)) | ((repeat (first | with_reducible assumption | with_reducible exact List.mem_cons_self | (with_reducible refine List.mem_append_left _ ?_; (repeat (first | with_reducible exact List.mem_cons_self | with_reducible refine List.mem_cons_of_mem _ ?_ | with_reducible assumption)); done) | with_reducible refine List.mem_append_right _ ?_ | with_reducible refine List.mem_cons_of_mem _ ?_)); done))); done)
        | (simp only [List.mem_append, List.mem_cons] at hp ⊢; rcases hp with h | h | h | h <;> simp [h])
  | true =>
    k_steps
    (with_reducible rename News _ _ _ _ => N9)
    refine Halt.mk (kim_list (l := dv) (x := .str r td) (lo := W.listOf dv.toArray dc) (n := dc) N9 (by k_mem) rfl rfl hk0 (by omega) hda ?_)
    k_steps
    (with_reducible rename News _ _ _ _ => N10)
    (with_reducible rename Fr _ _ _ _ => F10)
    subst hnr
    refine teS_mk hoL ⟨rfl, ?_⟩ F10 N10 ?_ hb hos
    · rw [hnext]
      refine hK.append ?_
      subst hr
      exact .cons _ .nil
    · intro p hp
      first
        | ((revert p hp); (repeat' (first | with_reducible refine List.forall_mem_cons.mpr ⟨?_, ?_⟩ | with_reducible refine List.forall_mem_append.mpr ⟨?_, ?_⟩ | with_reducible exact List.forall_mem_nil _ | (intro _ _; ((repeat (first | with_reducible assumption | with_reducible exact List.mem_cons_self | (with_reducible refine List.mem_append_left _ ?_; (repeat (first | with_reducible exact List.mem_cons_self | with_reducible refine List.mem_cons_of_mem _ ?_ | with_reducible assumption)); done) | with_reducible refine List.mem_append_right _ ?_ | with_reducible refine List.mem_cons_of_mem _ ?_)); done)) | ((repeat (first | with_reducible assumption | with_reducible exact List.mem_cons_self | (with_reducible refine List.mem_append_left _ ?_; (repeat (first | with_reducible exact List.mem_cons_self | with_reducible refine List.mem_cons_of_mem _ ?_ | with_reducible assumption)); done) | with_reducible refine List.mem_append_right _ ?_ | with_reducible refine List.mem_cons_of_mem _ ?_)); done))); done)
        | (simp only [List.mem_append, List.mem_cons] at hp ⊢; rcases hp with h | h | h | h <;> simp [h])
end Mine
end
theorem Mine.calmLawB : True := by w_top off; first | walk1 | trivial
section
open PySem PySem.W PyProof.Rows PySem.Calls PySem.Spec PyProof.Rows.LCg
set_option maxRecDepth 100000
namespace Mine
def m9k43 : Lean.MacroM (Lean.TSyntax `tactic) := Mine.t9seq [Mine.t9call "147", Mine.m9e23]
local macro_rules | `(tactic| walk_at $s) => Mine.mw s [("call ref", Mine.m9k43)]
noncomputable def callArg : PySem.Expr → PySem.Expr
  | .Call _ (a :: _) _ _ => a
  | e => e
noncomputable def ifTest : Stmt → PySem.Expr
  | .If t _ _ _ => t
  | _ => default
noncomputable def boolVal : PySem.Expr → PySem.Expr
  | .BoolOp _ (a :: _) _ => a
  | e => e
noncomputable def cmpRight : PySem.Expr → PySem.Expr
  | .Compare _ _ (a :: _) _ => a
  | e => e
noncomputable def lawE6 : PySem.Expr := callArg (asVal (lawS 6))
noncomputable def lawE8 : PySem.Expr := cmpRight (boolVal (ifTest (lawS 8)))
noncomputable def KB (gs : List (Int × Str)) (i : Nat) (ys : List Value) (tus : List (Addr × Obj)) : Prop := tus = [] ∧ StrV ys ((gs.take i).map (fun p => writtenS p.1 p.2))
noncomputable def KR (gs : List (Int × Str)) (i : Nat) (ys : List Value) (tus : List (Addr × Obj)) : Prop := tus = [] ∧ StrV ys ((gs.take i).map (·.2))
noncomputable def KC (hs : List (Bool × Int)) (i : Nat) (ys : List Value) (tus : List (Addr × Obj)) : Prop := tus = [] ∧ BlV ys ((hs.take i).map (·.1))
noncomputable def WrOk (p : Int × Str) : Prop := p.2.length ≤ 14 ∧ (Txt.replace p.2 (Str.ofString "\\") (Str.ofString "\\\\")).length ≤ 60 ∧ (Txt.replace (Txt.replace p.2 (Str.ofString "\\") (Str.ofString "\\\\")) (Str.ofString "\"") (Str.ofString "\\\"")).length ≤ 200 ∧ 0 ≤ p.1 ∧ p.1 < 1000000
set_option maxHeartbeats 8000000 in
theorem boTurn (w : World) (L fa : Addr) (gv : List Value) (gs : List (Int × Str)) (news0 : List (Addr × Obj)) (hG : GuAt news0 gv gs) (hok : ∀ p ∈ gs, WrOk p) (n : Nat)
    (loose : List Str) (mean : ExcName → Option Value) (mg mb : Str → Option Value) (g : Heap) (m : Str → Option Value)
    (B : Below callerA g [] g) (X : (KK w).In g) (T : Top VV loose mean mg mb g) (os : OsState) :
    TurnG PP w (lawA L fa) (lcElt lawE6) (gTarget default (lcGens lawE6)) [] (lcScope default lawE6) (lawEnv L fa) [] g L m os news0 n (VL gv) (KB gs) := by
  intro D C oL its i v new tus mC ys s E hoL hgL hLD hDC hn0 hi hv' hK ht hnew hoff hnL F N hb hos
  dsimp only [PP, KK] at *
  revert X; k_fill; intro X
  obtain ⟨hvi, rfl⟩ := hv'
  obtain ⟨rfl, hK⟩ := hK
  obtain ⟨t, c, r, t1, t2, k, rfl, hgi, hmt⟩ := hG.get hvi
  have hpre := hok _ (List.mem_of_getElem? hgi)
  have hnext : (gs.take (i + 1)).map (fun p => writtenS p.1 p.2) = (gs.take i).map (fun p => writtenS p.1 p.2) ++ [writtenS c r] := by rw [List.take_succ, hgi, List.map_append]; rfl
  dsimp only [lawA, lawEnv] at *
  generalize hb1 : gTarget default (lcGens lawE6) = target
  generalize hb2 : lcElt lawE6 = elt
  generalize hb3 : fdScope lawStmt = scope
  generalize hb4 : lcScope default lawE6 = scope2
  conv at hb1 => { lhs; whnf }
  conv at hb2 => { lhs; whnf }
  conv at hb3 => { lhs; whnf }
  conv at hb4 => { lhs; whnf }
  subst hb1 hb2 hb3 hb4
  obtain ⟨heap', gens', drawn', toks', os'⟩ := s
  simp only [List.nil_append] at N
  have N0 : News g C heap' ((L, oL) :: (D, lst ys) :: (its ++ news0)) := cb_drop N (by
    intro p hp
    first
      | ((revert p hp); (repeat' (first | with_reducible refine List.forall_mem_cons.mpr ⟨?_, ?_⟩ | with_reducible refine List.forall_mem_append.mpr ⟨?_, ?_⟩ | with_reducible exact List.forall_mem_nil _ | (intro _ _; ((repeat (first | with_reducible assumption | with_reducible exact List.mem_cons_self | (with_reducible refine List.mem_append_left _ ?_; (repeat (first | with_reducible exact List.mem_cons_self | with_reducible refine List.mem_cons_of_mem _ ?_ | with_reducible assumption)); done) | with_reducible refine List.mem_append_right _ ?_ | with_reducible refine List.mem_cons_of_mem _ ?_)); done)) | ((repeat (first | with_reducible assumption | with_reducible exact List.mem_cons_self | (with_reducible refine List.mem_append_left _ ?_; (repeat (first | with_reducible exact List.mem_cons_self | with_reducible refine List.mem_cons_of_mem _ ?_ | with_reducible assumption)); done) | with_reducible refine List.mem_append_right _ ?_ | with_reducible refine List.mem_cons_of_mem _ ?_)); done))); done)
      | (simp only [List.mem_append, List.mem_cons] at hp ⊢; rcases hp with h | h | h | h <;> simp [h]))
  have hLn : ∀ p ∈ (D, lst ys) :: (its ++ news0), p.1 ≠ L := by
    refine List.forall_mem_cons.mpr ⟨neN (Nat.ne_of_gt hLD), fun p hp => ?_⟩
    rcases List.mem_append.mp hp with hp | hp
    · exact Ne.symm (hoff _ (.head _) p hp)
    · exact hnL p hp
  generalize hnr : its ++ news0 = nr at *
  have hmt' : (t, _) ∈ nr := hnr ▸ List.mem_append_right _ hmt
  clear N
  k_steps
  (with_reducible rename News _ _ _ _ => N9)
  (with_reducible rename Fr _ _ _ _ => F9)
  refine Halt.mk (law_callC (fun oC => c_written w c t1 r t2 _) B X T hoL hgL hLn F9 N9 hpre (by decide) hb ?_)
  rintro v oL2 s2 ⟨tr, rfl⟩ hoL2 F2 N2 hb2 ho2
  obtain ⟨heap2, gens2, drawn2, toks2, os2⟩ := s2
  clear F9 N9
  (try dsimp only)
  subst hnr
  refine teS_mk hoL2 ⟨rfl, ?_⟩ F2 N2 ?_ hb2 (ho2.trans hos)
  · rw [hnext]
    exact hK.append (.cons _ .nil)
  · intro p hp
    first
      | ((revert p hp); (repeat' (first | with_reducible refine List.forall_mem_cons.mpr ⟨?_, ?_⟩ | with_reducible refine List.forall_mem_append.mpr ⟨?_, ?_⟩ | with_reducible exact List.forall_mem_nil _ | (intro _ _; ((repeat (first | with_reducible assumption | with_reducible exact List.mem_cons_self | (with_reducible refine List.mem_append_left _ ?_; (repeat (first | with_reducible exact List.mem_cons_self | with_reducible refine List.mem_cons_of_mem _ ?_ | with_reducible assumption)); done) | with_reducible refine List.mem_append_right _ ?_ | with_reducible refine List.mem_cons_of_mem _ ?_)); done)) | ((repeat (first | with_reducible assumption | with_reducible exact List.mem_cons_self | (with_reducible refine List.mem_append_left _ ?_; (repeat (first | with_reducible exact List.mem_cons_self | with_reducible refine List.mem_cons_of_mem _ ?_ | with_reducible assumption)); done) | with_reducible refine List.mem_append_right _ ?_ | with_reducible refine List.mem_cons_of_mem _ ?_)); done))); done)
      | (simp only [List.mem_append, List.mem_cons] at hp ⊢; rcases hp with h | h | h | h <;> simp [h])
set_option maxHeartbeats 8000000 in
theorem rpTurn (w : World) (L fa : Addr) (gv : List Value) (gs : List (Int × Str)) (news0 : List (Addr × Obj)) (hG : GuAt news0 gv gs) (n : Nat)
    (loose : List Str) (mean : ExcName → Option Value) (mg mb : Str → Option Value) (g : Heap) (m : Str → Option Value)
    (B : Below callerA g [] g) (X : (KK w).In g) (T : Top VV loose mean mg mb g) (os : OsState) :
    TurnG PP w (lawA L fa) (lcElt lawE8) (gTarget default (lcGens lawE8)) [] (lcScope default lawE8) (lawEnv L fa) [] g L m os news0 n (VL gv) (KR gs) := by
  intro D C oL its i v new tus mC ys s E hoL hgL hLD hDC hn0 hi hv' hK ht hnew hoff hnL F N hb hos
  dsimp only [PP, KK] at *
  revert X; k_fill; intro X
  obtain ⟨hvi, rfl⟩ := hv'
  obtain ⟨rfl, hK⟩ := hK
  obtain ⟨t, c, r, t1, t2, k, rfl, hgi, hmt⟩ := hG.get hvi
  have hnext : (gs.take (i + 1)).map (·.2) = (gs.take i).map (·.2) ++ [r] := by rw [List.take_succ, hgi, List.map_append]; rfl
  dsimp only [lawA, lawEnv] at *
  generalize hb1 : gTarget default (lcGens lawE8) = target
  generalize hb2 : lcElt lawE8 = elt
  generalize hb3 : fdScope lawStmt = scope
  generalize hb4 : lcScope default lawE8 = scope2
  conv at hb1 => { lhs; whnf }
  conv at hb2 => { lhs; whnf }
  conv at hb3 => { lhs; whnf }
  conv at hb4 => { lhs; whnf }
  subst hb1 hb2 hb3 hb4
  obtain ⟨heap', gens', drawn', toks', os'⟩ := s
  simp only [List.nil_append] at N
  have N0 : News g C heap' ((L, oL) :: (D, lst ys) :: (its ++ news0)) := cb_drop N (by
    intro p hp
    first
      | ((revert p hp); (repeat' (first | with_reducible refine List.forall_mem_cons.mpr ⟨?_, ?_⟩ | with_reducible refine List.forall_mem_append.mpr ⟨?_, ?_⟩ | with_reducible exact List.forall_mem_nil _ | (intro _ _; ((repeat (first | with_reducible assumption | with_reducible exact List.mem_cons_self | (with_reducible refine List.mem_append_left _ ?_; (repeat (first | with_reducible exact List.mem_cons_self | with_reducible refine List.mem_cons_of_mem _ ?_ | with_reducible assumption)); done) | with_reducible refine List.mem_append_right _ ?_ | with_reducible refine List.mem_cons_of_mem _ ?_)); done)) | ((repeat (first | with_reducible assumption | with_reducible exact List.mem_cons_self | (with_reducible refine List.mem_append_left _ ?_; (repeat (first | with_reducible exact List.mem_cons_self | with_reducible refine List.mem_cons_of_mem _ ?_ | with_reducible assumption)); done) | with_reducible refine List.mem_append_right _ ?_ | with_reducible refine List.mem_cons_of_mem _ ?_)); done))); done)
      | (simp only [List.mem_append, List.mem_cons] at hp ⊢; rcases hp with h | h | h | h <;> simp [h]))
  generalize hnr : its ++ news0 = nr at *
  have hmt' : (t, _) ∈ nr := hnr ▸ List.mem_append_right _ hmt
  clear N
  k_steps
  (with_reducible rename News _ _ _ _ => N9)
  (with_reducible rename Fr _ _ _ _ => F9)
  subst hnr
  refine teS_mk hoL ⟨rfl, ?_⟩ F9 N9 ?_ hb hos
  · rw [hnext]
    exact hK.append (.cons _ .nil)
  · intro p hp
    first
      | ((revert p hp); (repeat' (first | with_reducible refine List.forall_mem_cons.mpr ⟨?_, ?_⟩ | with_reducible refine List.forall_mem_append.mpr ⟨?_, ?_⟩ | with_reducible exact List.forall_mem_nil _ | (intro _ _; ((repeat (first | with_reducible assumption | with_reducible exact List.mem_cons_self | (with_reducible refine List.mem_append_left _ ?_; (repeat (first | with_reducible exact List.mem_cons_self | with_reducible refine List.mem_cons_of_mem _ ?_ | with_reducible assumption)); done) | with_reducible refine List.mem_append_right _ ?_ | with_reducible refine List.mem_cons_of_mem _ ?_)); done)) | ((repeat (first | with_reducible assumption | with_reducible exact List.mem_cons_self | (with_reducible refine List.mem_append_left _ ?_; (repeat (first | with_reducible exact List.mem_cons_self | with_reducible refine List.mem_cons_of_mem _ ?_ | with_reducible assumption)); done) | with_reducible refine List.mem_append_right _ ?_ | with_reducible refine List.mem_cons_of_mem _ ?_)); done))); done)
      | (simp only [List.mem_append, List.mem_cons] at hp ⊢; rcases hp with h | h | h | h <;> simp [h])
set_option maxHeartbeats 8000000 in
theorem caTurn (w : World) (L fa : Addr) (hv : List Value) (hs : List (Bool × Int)) (news0 : List (Addr × Obj)) (hH : HrAt news0 hv hs) (n : Nat)
    (loose : List Str) (mean : ExcName → Option Value) (mg mb : Str → Option Value) (g : Heap) (m : Str → Option Value)
    (B : Below callerA g [] g) (X : (KK w).In g) (T : Top VV loose mean mg mb g) (os : OsState) :
    TurnG PP w (lawA L fa) (lcElt (asVal (lawS 14))) (gTarget default (lcGens (asVal (lawS 14)))) [] (lcScope default (asVal (lawS 14))) (lawEnv L fa) [] g L m os news0 n (VL hv) (KC hs) := by
  intro D C oL its i v new tus mC ys s E hoL hgL hLD hDC hn0 hi hv' hK ht hnew hoff hnL F N hb hos
  dsimp only [PP, KK] at *
  revert X; k_fill; intro X
  obtain ⟨hvi, rfl⟩ := hv'
  obtain ⟨rfl, hK⟩ := hK
  obtain ⟨t, b, n', tn, k, rfl, hgi, hmt, -, -⟩ := hH.get hvi
  have hnext : (hs.take (i + 1)).map (·.1) = (hs.take i).map (·.1) ++ [b] := by rw [List.take_succ, hgi, List.map_append]; rfl
  dsimp only [lawA, lawEnv] at *
  generalize hb1 : gTarget default (lcGens (asVal (lawS 14))) = target
  generalize hb2 : lcElt (asVal (lawS 14)) = elt
  generalize hb3 : fdScope lawStmt = scope
  generalize hb4 : lcScope default (asVal (lawS 14)) = scope2
  conv at hb1 => { lhs; whnf }
  conv at hb2 => { lhs; whnf }
  conv at hb3 => { lhs; whnf }
  conv at hb4 => { lhs; whnf }
  subst hb1 hb2 hb3 hb4
  obtain ⟨heap', gens', drawn', toks', os'⟩ := s
  simp only [List.nil_append] at N
  have N0 : News g C heap' ((L, oL) :: (D, lst ys) :: (its ++ news0)) := cb_drop N (by
    intro p hp
    first
      | ((revert p hp); (repeat' (first | with_reducible refine List.forall_mem_cons.mpr ⟨?_, ?_⟩ | with_reducible refine List.forall_mem_append.mpr ⟨?_, ?_⟩ | with_reducible exact List.forall_mem_nil _ | (intro _ _; ((repeat (first | with_reducible assumption | with_reducible exact List.mem_cons_self | (with_reducible refine List.mem_append_left _ ?_; (repeat (first | with_reducible exact List.mem_cons_self | with_reducible refine List.mem_cons_of_mem _ ?_ | with_reducible assumption)); done) | with_reducible refine List.mem_append_right _ ?_ | with_reducible refine List.mem_cons_of_mem _ ?_)); done)) | ((repeat (first | with_reducible assumption | with_reducible exact List.mem_cons_self | (with_reducible refine List.mem_append_left _ ?_; (repeat (first | with_reducible exact List.mem_cons_self | with_reducible refine List.mem_cons_of_mem _ ?_ | with_reducible assumption)); done) | with_reducible refine List.mem_append_right _ ?_ | with_reducible refine List.mem_cons_of_mem _ ?_)); done))); done)
      | (simp only [List.mem_append, List.mem_cons] at hp ⊢; rcases hp with h | h | h | h <;> simp [h]))
  generalize hnr : its ++ news0 = nr at *
  have hmt' : (t, _) ∈ nr := hnr ▸ List.mem_append_right _ hmt
  clear N
  k_steps
  (with_reducible rename News _ _ _ _ => N9)
  (with_reducible rename Fr _ _ _ _ => F9)
  subst hnr
  refine teS_mk hoL ⟨rfl, ?_⟩ F9 N9 ?_ hb hos
  · rw [hnext]
    exact hK.append (.cons _ .nil)
  · intro p hp
    first
      | ((revert p hp); (repeat' (first | with_reducible refine List.forall_mem_cons.mpr ⟨?_, ?_⟩ | with_reducible refine List.forall_mem_append.mpr ⟨?_, ?_⟩ | with_reducible exact List.forall_mem_nil _ | (intro _ _; ((repeat (first | with_reducible assumption | with_reducible exact List.mem_cons_self | (with_reducible refine List.mem_append_left _ ?_; (repeat (first | with_reducible exact List.mem_cons_self | with_reducible refine List.mem_cons_of_mem _ ?_ | with_reducible assumption)); done) | with_reducible refine List.mem_append_right _ ?_ | with_reducible refine List.mem_cons_of_mem _ ?_)); done)) | ((repeat (first | with_reducible assumption | with_reducible exact List.mem_cons_self | (with_reducible refine List.mem_append_left _ ?_; (repeat (first | with_reducible exact List.mem_cons_self | with_reducible refine List.mem_cons_of_mem _ ?_ | with_reducible assumption)); done) | with_reducible refine List.mem_append_right _ ?_ | with_reducible refine List.mem_cons_of_mem _ ?_)); done))); done)
      | (simp only [List.mem_append, List.mem_cons] at hp ⊢; rcases hp with h | h | h | h <;> simp [h])
end Mine
end
theorem Mine.calmCWays1 : True := by w_top off; first | walk1 | trivial
section
open PySem PySem.W PyProof.Rows PySem.Calls PySem.Spec PyProof.Rows.LCg
set_option maxRecDepth 100000
namespace Mine
noncomputable def wyG1 : List Comprehension := lcGens (asVal wyA1)
noncomputable abbrev wyC1 (L C : Addr) : Env := compEnvC (lcScope default (asVal wyA1)) [(Str.ofString "now", L + 1)] C (wyEnv L)
theorem te1_mk {g : Heap} {C L D I T A B2 xb : Addr} {oL o' oB : Obj} {os : OsState} {nr0 tus : List (Addr × Obj)} {ys iv wv : List Value} {mC : Str → Option Value} {s : Shared} {ways : List (List Int × List Int)} {ins ws : List Int} {now : Int} {i cb : Nat}
    (F : Fr g C s.heap mC) (N : News g C s.heap ((T, ({ cls := .type "tuple", data := .seq #[.ref A, .ref xb] } : Obj)) :: (A, W.listOf iv.toArray 0) :: (B2, oB) :: (I, o') :: (L, oL) :: (D, lst ys) :: (tus ++ nr0)))
    (hT : @LT.lt Nat _ D T) (hA : @LT.lt Nat _ D A) (ht : ∀ p ∈ tus, @LT.lt Nat _ D p.1) (hI : IntsAre iv (ins ++ [now])) (hw : IntsAre wv ws) (h3 : (xb, W.listOf wv.toArray cb) ∈ tus ++ nr0) (h6 : ins.length ≤ 7) (h7 : ws.length ≤ 8)
    (hri : ways[i]? = some (ins, ws)) (hK : WyAt (tus ++ nr0) ys ((ways.take i).map (stepC now))) (hb : AllBare s.gens) (hos : s.os = os) :
    TE g C L D oL (lst ys) os nr0 [(I, o')] (fun tus => WyAt (tus ++ nr0) (ys ++ [.ref T]) ((ways.take (i + 1)).map (stepC now))) s := by
  refine ⟨_, (T, { cls := .type "tuple", data := .seq #[.ref A, .ref xb] }) :: (A, W.listOf iv.toArray 0) :: tus, ?_, List.forall_mem_cons.mpr ⟨hT, List.forall_mem_cons.mpr ⟨hA, ht⟩⟩, F, cb_drop N ?_, hb, hos⟩
  · rw [List.take_succ, hri, List.map_append]
    exact (hK.mono fun p hp => .tail _ (.tail _ hp)).append (.cons 0 0 _ _ wv (.head _) (.tail _ (.head _)) (.tail _ (.tail _ h3)) hI hw (by simp; omega) h7 .nil)
  · intro p hp
    first
      | ((revert p hp); (try dsimp only [List.cons_append, List.nil_append]); (repeat' (first | with_reducible refine List.forall_mem_cons.mpr ⟨?_, ?_⟩ | with_reducible refine List.forall_mem_append.mpr ⟨?_, ?_⟩ | with_reducible exact List.forall_mem_nil _ | (intro _ _; ((repeat (first | with_reducible assumption | with_reducible exact List.mem_cons_self | (with_reducible refine List.mem_append_left _ ?_; (repeat (first | with_reducible exact List.mem_cons_self | with_reducible refine List.mem_cons_of_mem _ ?_ | with_reducible assumption)); done) | with_reducible refine List.mem_append_right _ ?_ | with_reducible refine List.mem_cons_of_mem _ ?_)); done)) | ((repeat (first | with_reducible assumption | with_reducible exact List.mem_cons_self | (with_reducible refine List.mem_append_left _ ?_; (repeat (first | with_reducible exact List.mem_cons_self | with_reducible refine List.mem_cons_of_mem _ ?_ | with_reducible assumption)); done) | with_reducible refine List.mem_append_right _ ?_ | with_reducible refine List.mem_cons_of_mem _ ?_)); done))); done)
      | (simp only [List.cons_append, List.nil_append, List.mem_cons] at hp ⊢; rcases hp with h | h | h | h | h | h <;> simp [h])
set_option maxHeartbeats 8000000 in
theorem wyTurn1 (w : World) (L C D I l nowA : Addr) (oc oL : Obj) (now : Int) (tn : Tok) (hoc : oc.data = .cell (some (.int now tn))) (nr : List (Addr × Obj)) (vs : List Value) (ways : List (List Int × List Int)) (hw : WyAt nr vs ways) (hb8 : ∀ p ∈ ways, p.1.length ≤ 7)
    (loose : List Str) (mean : ExcName → Option Value) (mg mb : Str → Option Value) (dp un : Nat) (gd : Option (List Code)) (cn : Str) (cs0 : Scope) (Lc a : Addr) (ccd : Value) (cls : List (Str × Addr)) (outer : List Env) (base g : Heap)
    (B : Below (ktrTop dp un gd cn cs0 Lc a ccd cls outer) base (envX cn cs0 Lc a ccd cls :: outer) g) (X : (KK w).In g) (T : Top VV loose mean mg mb g) (hd : dp + 30 < recursionLimit) (hu : un + 300 < cLine) (os : OsState)
    (hDC : @LT.lt Nat _ D C) (hLD : @LT.lt Nat _ L D)
    (i : Nat) (v : Value) (its new tus : List (Addr × Obj)) (mC : Str → Option Value) (ys : List Value) (s : Shared) (E : Value → Shared → Prop) (hv : VL vs i v new) (hS : SL I l (i + 1) its) (hK : WyAt (tus ++ ((L + 1, oc) :: nr)) ys ((ways.take i).map (stepC now))) (ht : ∀ p ∈ tus, @LT.lt Nat _ D p.1)
    (F : Fr g C s.heap mC) (N : News g C s.heap (its ++ (new ++ ((L, oL) :: (D, lst ys) :: (tus ++ ((L + 1, oc) :: nr)))))) (hb : AllBare s.gens) (hos : s.os = os) :
      wpAny (model PP w) ((ktrTop dp un gd cn cs0 Lc a ccd cls outer).deeper (wyEnv L)) (assign (gTarget default wyG1) (wyC1 L C) v) (fun _ s₂ => wpAny (model PP w) ((ktrTop dp un gd cn cs0 Lc a ccd cls outer).deeper (wyEnv L)) (eval (lcElt (asVal wyA1)) (wyC1 L C)) (fun x s₄ => TE g C L D oL (lst ys) os ((L + 1, oc) :: nr) its (fun tus => WyAt (tus ++ ((L + 1, oc) :: nr)) (ys ++ [x]) ((ways.take (i + 1)).map (stepC now))) s₄) E s₂) E s := by
  have l9 : Mine.Lead9 := trivial
  have l0 : Mine.Lead0 := trivial
  revert hoc hw hb8 B X T hd hu hDC hLD hv hS hK ht F N hb hos
  revert w L C D I l oc oL now tn nr vs ways loose mean mg mb dp un gd cn cs0 Lc a ccd cls outer base g os i v its new tus mC ys s E
  intro w L C D I l oc oL now tn nr vs ways loose mean mg mb dp un gd cn cs0 Lc a ccd cls outer base g os i v its new tus mC ys s E
  intros hoc hw hb8 B X T hd hu hDC hLD hv hS hK ht F N hb hos
  rename Mine.Lead0 => l0; clear l0
  dsimp only [PP, KK] at *
  revert X; k_fill; intro X
  obtain ⟨hvi, rfl⟩ := hv
  obtain ⟨o', rfl, ho'⟩ := hS
  obtain ⟨t, xa, xb, ins, ws, c, ca, cb, iv, wv, rfl, hri, h1, h2, h3, h4, h5, h6, h7⟩ := hw.get hvi
  have hlen := IntsAre_len h4
  have hrz : iv.toArray.size < 1000 := by rw [List.size_toArray]; omega
  dsimp only [wyC1, wyEnv] at *
  generalize hb1 : gTarget default wyG1 = target
  generalize hb2 : lcElt (asVal wyA1) = elt
  generalize hb3 : fdScope wyStmt = scope
  generalize hb4 : lcScope default (asVal wyA1) = scope2
  conv at hb1 => { lhs; whnf }
  conv at hb2 => { lhs; whnf }
  conv at hb3 => { lhs; whnf }
  conv at hb4 => { lhs; whnf }
  subst hb1 hb2 hb3 hb4
  obtain ⟨heap', gens', drawn', toks', os'⟩ := s
  simp only [List.cons_append, List.nil_append] at N
  generalize hnr : tus ++ ((L + 1, oc) :: nr) = nr2 at *
  have h1 : (t, _) ∈ nr2 := hnr ▸ List.mem_append_right _ (.tail _ h1)
  have h2 : (xa, _) ∈ nr2 := hnr ▸ List.mem_append_right _ (.tail _ h2)
  have h3 : (xb, _) ∈ nr2 := hnr ▸ List.mem_append_right _ (.tail _ h3)
  have h0 : (L + 1, oc) ∈ nr2 := hnr ▸ List.mem_append_right _ (.head _)
  k_steps
  (with_reducible rename News _ _ _ _ => N9)
  (with_reducible rename Fr _ _ _ _ => F9)
  (with_reducible rename IntsAre _ (ins ++ [now]) => hI9)
  (repeat ((with_reducible rename _ ∧ _ => hc); obtain ⟨_, _⟩ := hc))
  subst hnr
  exact te1_mk F9 N9 (by assumption) (by assumption) ht hI9 h5 h3 (hb8 _ (List.mem_of_getElem? hri)) h7 hri hK hb hos
end Mine
end
section
open PySem PySem.W PyProof.Rows PySem.Calls PySem.Spec PyProof.Rows.LCg
set_option maxRecDepth 100000
namespace Mine
local macro_rules | `(tactic| walk_at $s) => Mine.mw s [("pyIter ref", Mine.m9e23)]
theorem comp_start_li {prog : Program} {w : World} {A : Around} {s : Shared} {elt target iter : PySem.Expr} {ifs : List PySem.Expr} {rest : List Comprehension} {scope : Scope} {pos : Pos} {env : Env} {I l : Addr} {i : Nat} {acc : Value} {R : Result → Shared → Prop} (hit : s.heap.IsListIter I l i)
    (h : codeAny (model prog w) A (.compLoop (.ListComp elt (⟨target, iter, ifs, 0⟩ :: rest) scope pos) 0 (.ref I) acc env) R s) :
    codeAny (model prog w) A (.compStart (.ListComp elt (⟨target, iter, ifs, 0⟩ :: rest) scope pos) 0 (.ref I) acc env) R s :=
  codeAny_compStart_list h (wpAny_pyIter_listiter hit h)
set_option maxHeartbeats 8000000 in
theorem wyComp1 (w : World) (L wyA : Addr) (cW : Nat) (oc : Obj) (now : Int) (tn : Tok) (hoc : oc.data = .cell (some (.int now tn))) (nr : List (Addr × Obj)) (vs : List Value) (ways : List (List Int × List Int)) (hw : WyAt nr vs ways) (hb8 : ∀ p ∈ ways, p.1.length ≤ 7) (hsz : ways.length < 10000)
    (hW : (wyA, W.listOf vs.toArray cW) ∈ nr) 
    (loose : List Str) (mean : ExcName → Option Value) (mg mb : Str → Option Value) (dp un : Nat) (gd : Option (List Code)) (cn : Str) (cs0 : Scope) (Lc a : Addr) (ccd : Value) (cls : List (Str × Addr)) (outer : List Env) (base g : Heap)
    (B : Below (ktrTop dp un gd cn cs0 Lc a ccd cls outer) base (envX cn cs0 Lc a ccd cls :: outer) g) (X : (KK w).In g) (T : Top VV loose mean mg mb g) (hd : dp + 30 < recursionLimit) (hu : un + 300 < cLine) (os : OsState)
    (m : Str → Option Value) (hm : m (Str.ofString "ways") = some (.ref wyA)) (s : Shared) (F : Fr g L s.heap m) (N : News g L s.heap ((L + 1, oc) :: nr)) (hb : AllBare s.gens) (hos : s.os = os) (Q : Flow → Shared → Prop) (E : Value → Shared → Prop)
    (hQ : ∀ (D : Addr) (ys : List Value) (tus : List (Addr × Obj)) (s' : Shared), WyAt (tus ++ ((L + 1, oc) :: nr)) ys (ways.map (stepC now)) → @LT.lt Nat _ L D → (∀ p ∈ (L + 1, oc) :: nr, @LT.lt Nat _ p.1 D) → (∀ p ∈ tus, @LT.lt Nat _ D p.1) →
      Fr g L s'.heap (fun z => if z = Str.ofString "ways" then some (.ref D) else m z) → News g L s'.heap ((D, lst ys) :: (tus ++ ((L + 1, oc) :: nr))) → AllBare s'.gens → s'.os = os → Q .next s') :
    wpAny (model PP w) ((ktrTop dp un gd cn cs0 Lc a ccd cls outer).deeper (wyEnv L)) (exec wyA1 (wyEnv L)) Q E s := by
  generalize hb1 : wyA1 = st
  conv at hb1 => { lhs; whnf }
  subst hb1
  have hlen := hw.length
  refine comp_assign os ((L + 1, oc) :: nr) (fun ys tus => WyAt (tus ++ ((L + 1, oc) :: nr)) ys ((ways.take vs.length).map (stepC now))) (m := m) (g := g) (L := L) rfl (by with_unfolding_all rfl) (by with_unfolding_all rfl) (by decide +kernel) (by rfl) (by decide +kernel) (by rfl) (by rfl) (by intro _; rfl) ?_
  refine wpAny_Name (wpAny_loadName_local rfl rfl F.ns hm ?_) (by decide)
  refine iter_list_K F N (.tail _ hW) fun I h' o' hI F' N' hlt => ?_
  refine ⟨_, F', N', (fun p hp => .tail _ hp), fun D C oL h2 tk mC hLD hDC hn0 hoL FC NC => ?_, fun D C ys tus s' hP => ?_⟩
  · have hit : h2.IsListIter I wyA 0 := ⟨o', (NC _ (.tail _ (.tail _ (.head _)))).1, hI.1, hI.2⟩
    refine comp_start_li hit ?_
    refine comp_loop0 (src_list (l := wyA) (I := I) (items := vs) (c := cW) rfl ?_) (by omega) (fun i ys tus => WyAt (tus ++ ((L + 1, oc) :: nr)) ys ((ways.take i).map (stepC now))) ?_ hDC hLD (fun p hp => hn0 p (.tail _ hp)) (fun p hp => (N p hp).2.1) ?_ ?_ vs.length 0 [(I, o')] [] mC [] _ (by omega) (Nat.le_refl _) ⟨o', rfl, hI⟩ .nil (fun _ h => absurd h List.not_mem_nil) FC (cb_drop NC ?_) hb hos
    · intro i v s Q E hv hit hq
      obtain ⟨i0, hi0, e0⟩ := List.mem_iff_getElem.mp hv
      obtain ⟨t, xa, xb, ins, ws, c, ca, cb, iv, wv, e1, -⟩ := hw.get (i := i0) (v := v) (by rw [← e0]; simp [hi0])
      subst e1
      exact wpAny_letOwnedTupleGo_listiter hit hq
    · intro p hp
      rw [List.mem_singleton.mp hp]
      exact .tail _ hW
    · rintro i its ⟨o, rfl, ho⟩ q hq
      rw [List.mem_singleton.mp hq]
      exact ⟨hn0 (I, o') (.head _), (N' (I, o') (.head _)).2.1, fun p hp => neN (Nat.ne_of_lt (hlt p hp))⟩
    · intro i v its new tus mC ys s E hi hv hS hK ht hnew hoff F N hb hos
      exact wyTurn1 w L C D I wyA wyA oc oL now tn hoc nr vs ways hw hb8 loose mean mg mb dp un gd cn cs0 Lc a ccd cls outer base g B X T hd hu os hDC hLD i v its new tus mC ys s E hv hS hK ht F N hb hos
    · intro p hp
      first
        | ((revert p hp); (try dsimp only [List.cons_append, List.nil_append]); (repeat' (first | with_reducible refine List.forall_mem_cons.mpr ⟨?_, ?_⟩ | with_reducible refine List.forall_mem_append.mpr ⟨?_, ?_⟩ | with_reducible exact List.forall_mem_nil _ | (intro _ _; ((repeat (first | with_reducible assumption | with_reducible exact List.mem_cons_self | (with_reducible refine List.mem_append_left _ ?_; (repeat (first | with_reducible exact List.mem_cons_self | with_reducible refine List.mem_cons_of_mem _ ?_ | with_reducible assumption)); done) | with_reducible refine List.mem_append_right _ ?_ | with_reducible refine List.mem_cons_of_mem _ ?_)); done)) | ((repeat (first | with_reducible assumption | with_reducible exact List.mem_cons_self | (with_reducible refine List.mem_append_left _ ?_; (repeat (first | with_reducible exact List.mem_cons_self | with_reducible refine List.mem_cons_of_mem _ ?_ | with_reducible assumption)); done) | with_reducible refine List.mem_append_right _ ?_ | with_reducible refine List.mem_cons_of_mem _ ?_)); done))); done)
        | (simp only [List.cons_append, List.nil_append, List.mem_cons] at hp ⊢; rcases hp with h | h | h | h | h <;> simp [h])
  · rw [hlen, List.take_length] at hP
    exact fun h1 h2 h3 h4 h5 h6 h7 => hQ D ys tus s' hP h1 h2 h3 h4 h5 h6 h7
end Mine
end
theorem Mine.calmCWays3 : True := by w_top off; first | walk1 | trivial
section
open PySem PySem.W PyProof.Rows PySem.Calls PySem.Spec PyProof.Rows.LCg
set_option maxRecDepth 100000
namespace Mine
def m9e73 : Lean.MacroM (Lean.TSyntax `tactic) := Mine.t9sh "wpAny _ _ ( subscriptTail _ ( PySem.Expr.Slice _ _ none _ ) ( Value.ref _ ) ( Value.ref _ ) ) _ _ _" []
def m9e74 : Lean.MacroM (Lean.TSyntax `tactic) := Mine.t9ex "News.isList %0 %1" [(Mine.m9e13), (Mine.m9e14)]
def m9e75 : Lean.MacroM (Lean.TSyntax `tactic) := Mine.t9kw "PySem.W.tacticKmk_part kmk_part"
def m9e76 : Lean.MacroM (Lean.TSyntax `tactic) := Mine.t9ex "kmk_upto %0 %1" [(Mine.t9red (Mine.m9l3)), (Mine.m9l4)]
def m9e77 : Lean.MacroM (Lean.TSyntax `tactic) := Mine.t9ex "kmk_from %0 %1" [(Mine.t9red (Mine.m9l3)), (Mine.m9l4)]
def m9e78 : Lean.MacroM (Lean.TSyntax `tactic) := Mine.t9ex "Nat.le_trans ( Nat.le_of_lt ( Mine.sh9 ( LT.lt _ 1000 ) %0 ) ) %1" [(Mine.m9l3), (Mine.m9l9)]
def m9k44 : Lean.MacroM (Lean.TSyntax `tactic) := Mine.t9seq [Mine.m9e57, Mine.t9red (Mine.m9e73), Mine.t9dflt (Mine.t9seq [Mine.t9ref "kmk_slice_ints" "F N l p q i m c _ s t z", Mine.t9case "F" (Mine.m9e13), Mine.t9case "N" (Mine.m9e13), Mine.t9case "l" (Mine.m9e74), Mine.t9case "p" (Mine.m9e75), Mine.t9case "q" (Mine.m9e75), Mine.t9case "i" (Mine.t9red (Mine.m9l3)), Mine.t9case "m" (Mine.t9first [Mine.m9e76, Mine.m9e77]), Mine.t9case "c" (Mine.m9e47), Mine.t9case "s" (Mine.t9unf (Mine.m9l8)), Mine.t9case "t" (Mine.m9e42), Mine.t9case "z" (Mine.m9e78)]), Mine.t9intro "D' ws' h' F' N' l1 hI' hC' hL'", Mine.t9try (Mine.m9e27), Mine.t9try (Mine.m9e28)]
local macro_rules | `(tactic| walk_at $s) => Mine.mw s [("subscriptTail Name Slice ref ref", Mine.m9k44)]
noncomputable def gWay (now : Int) (p : List Int × List Int) (k : Nat) : List Int × List Int := (p.1.take k ++ p.1.drop (k + 1), p.2 ++ [now - p.1.getD k 0])
noncomputable def stepG (now : Int) (p : List Int × List Int) : List (List Int × List Int) := (List.range p.1.length).map (gWay now p)
noncomputable def gSnd (d : PySem.Expr) : List Comprehension → PySem.Expr
  | _ :: g :: _ => g.target
  | _ => d
noncomputable def gSndIter (d : PySem.Expr) : List Comprehension → PySem.Expr
  | _ :: g :: _ => g.iter
  | _ => d
noncomputable def wyG2 : List Comprehension := lcGens (asVal wyA2)
noncomputable abbrev wyC2 (L C : Addr) : Env := compEnvC (lcScope default (asVal wyA2)) [(Str.ofString "now", L + 1)] C (wyEnv L)
structure WyK (news0 : List (Addr × Obj)) (xa xb I2 : Addr) (done : List (List Int × List Int)) (now : Int) (p : List Int × List Int) (j : Nat) (mC : Str → Option Value) (ys : List Value) (tus : List (Addr × Obj)) : Prop where
  a : mC (Str.ofString "inside") = some (.ref xa)
  b : mC (Str.ofString "waits") = some (.ref xb)
  w : WyAt (tus ++ news0) ys (done ++ (List.range j).map (gWay now p))
  i : ∀ q ∈ tus, q.1 ≠ I2
theorem te2_mk {g : Heap} {C L D I I2 T A B2 xa xb : Addr} {oL o' oI : Obj} {x1 x2 x3 : Addr × Obj} {os : OsState} {nr0 tus : List (Addr × Obj)} {ys av bv : List Value} {mC : Str → Option Value} {s : Shared} {done : List (List Int × List Int)} {ins ws : List Int} {now : Int} {j : Nat}
    (F : Fr g C s.heap mC) (N : News g C s.heap ((T, ({ cls := .type "tuple", data := .seq #[.ref A, .ref B2] } : Obj)) :: (B2, W.listOf bv.toArray 0) :: x1 :: (A, W.listOf av.toArray 0) :: x2 :: x3 :: (I2, oI) :: (I, o') :: (L, oL) :: (D, lst ys) :: (tus ++ nr0)))
    (hT : @LT.lt Nat _ D T) (hA : @LT.lt Nat _ D A) (hB : @LT.lt Nat _ D B2) (iT : @LT.lt Nat _ I2 T) (iA : @LT.lt Nat _ I2 A) (iB : @LT.lt Nat _ I2 B2) (ht : ∀ p ∈ tus, @LT.lt Nat _ D p.1) (hi : ∀ q ∈ tus, q.1 ≠ I2) (hIA : IntsAre av (ins.take (j : Int).toNat ++ ins.drop ((j : Int) + 1).toNat)) (hIB : IntsAre bv (ws ++ [now - ins.getD (j : Int).toNat 0])) (h6 : ins.length ≤ 8) (h7 : ws.length ≤ 7)
    (ka : mC (Str.ofString "inside") = some (.ref xa)) (kb : mC (Str.ofString "waits") = some (.ref xb))
    (hK : WyAt (tus ++ nr0) ys (done ++ (List.range j).map (gWay now (ins, ws)))) (hb : AllBare s.gens) (hos : s.os = os) :
    TM g C L D oL (lst ys) os nr0 [(I2, oI), (I, o')] (fun mC tus => WyK nr0 xa xb I2 done now (ins, ws) (j + 1) mC (ys ++ [.ref T]) tus) s := by
  refine ⟨_, (T, { cls := .type "tuple", data := .seq #[.ref A, .ref B2] }) :: (B2, W.listOf bv.toArray 0) :: (A, W.listOf av.toArray 0) :: tus, ⟨ka, kb, ?_, ?_⟩, List.forall_mem_cons.mpr ⟨hT, List.forall_mem_cons.mpr ⟨hB, List.forall_mem_cons.mpr ⟨hA, ht⟩⟩⟩, F, cb_drop N ?_, hb, hos⟩
  · rw [Int.toNat_natCast] at hIA hIB
    rw [show ((j : Int) + 1).toNat = j + 1 by omega] at hIA
    rw [List.range_succ, List.map_append, ← List.append_assoc]
    exact (hK.mono fun p hp => .tail _ (.tail _ (.tail _ hp))).append (.cons 0 0 0 av bv (.head _) (.tail _ (.tail _ (.head _))) (.tail _ (.head _)) hIA hIB (by simp; omega) (by simp; omega) .nil)
  · exact List.forall_mem_cons.mpr ⟨neN (Nat.ne_of_gt iT), List.forall_mem_cons.mpr ⟨neN (Nat.ne_of_gt iB), List.forall_mem_cons.mpr ⟨neN (Nat.ne_of_gt iA), hi⟩⟩⟩
  · intro p hp
    first
      | ((revert p hp); (try dsimp only [List.cons_append, List.nil_append]); (repeat' (first | with_reducible refine List.forall_mem_cons.mpr ⟨?_, ?_⟩ | with_reducible refine List.forall_mem_append.mpr ⟨?_, ?_⟩ | with_reducible exact List.forall_mem_nil _ | (intro _ _; ((repeat (first | with_reducible assumption | with_reducible exact List.mem_cons_self | (with_reducible refine List.mem_append_left _ ?_; (repeat (first | with_reducible exact List.mem_cons_self | with_reducible refine List.mem_cons_of_mem _ ?_ | with_reducible assumption)); done) | with_reducible refine List.mem_append_right _ ?_ | with_reducible refine List.mem_cons_of_mem _ ?_)); done)) | ((repeat (first | with_reducible assumption | with_reducible exact List.mem_cons_self | (with_reducible refine List.mem_append_left _ ?_; (repeat (first | with_reducible exact List.mem_cons_self | with_reducible refine List.mem_cons_of_mem _ ?_ | with_reducible assumption)); done) | with_reducible refine List.mem_append_right _ ?_ | with_reducible refine List.mem_cons_of_mem _ ?_)); done))); done)
      | (simp only [List.cons_append, List.nil_append, List.mem_cons] at hp ⊢; rcases hp with h | h | h | h | h | h | h | h <;> simp [h])
set_option maxHeartbeats 8000000 in
theorem wyTurn2 (w : World) (L C D I I2 xa xb : Addr) (ca cb : Nat) (oc oL o' : Obj) (now : Int) (tn : Tok) (hoc : oc.data = .cell (some (.int now tn))) (nr : List (Addr × Obj)) (iv wv : List Value) (ins ws : List Int) (done : List (List Int × List Int))
    (h2 : (xa, W.listOf iv.toArray ca) ∈ nr) (h3 : (xb, W.listOf wv.toArray cb) ∈ nr) (h4 : IntsAre iv ins) (h5 : IntsAre wv ws) (h6 : ins.length ≤ 8) (h7 : ws.length ≤ 7)
    (loose : List Str) (mean : ExcName → Option Value) (mg mb : Str → Option Value) (dp un : Nat) (gd : Option (List Code)) (cn : Str) (cs0 : Scope) (Lc a : Addr) (ccd : Value) (cls : List (Str × Addr)) (outer : List Env) (base g : Heap)
    (B : Below (ktrTop dp un gd cn cs0 Lc a ccd cls outer) base (envX cn cs0 Lc a ccd cls :: outer) g) (X : (KK w).In g) (T : Top VV loose mean mg mb g) (hd : dp + 30 < recursionLimit) (hu : un + 300 < cLine) (os : OsState)
    (hDC : @LT.lt Nat _ D C) (hLD : @LT.lt Nat _ L D) (hDI : @LT.lt Nat _ D I2)
    (j : Nat) (hj : j < ins.length) (v : Value) (its new tus : List (Addr × Obj)) (mC : Str → Option Value) (ys : List Value) (s : Shared) (E : Value → Shared → Prop) (hv : VR 0 j v new) (hS : SR I2 0 ins.length (j + 1) its) (hK : WyK ((L + 1, oc) :: nr) xa xb I2 done now (ins, ws) j mC ys tus) (ht : ∀ p ∈ tus, @LT.lt Nat _ D p.1)
    (F : Fr g C s.heap mC) (N : News g C s.heap (its ++ (new ++ ([(I, o')] ++ ((L, oL) :: (D, lst ys) :: (tus ++ ((L + 1, oc) :: nr))))))) (hb : AllBare s.gens) (hos : s.os = os) :
      wpAny (model PP w) ((ktrTop dp un gd cn cs0 Lc a ccd cls outer).deeper (wyEnv L)) (assign (gSnd default wyG2) (wyC2 L C) v) (fun _ s₂ => wpAny (model PP w) ((ktrTop dp un gd cn cs0 Lc a ccd cls outer).deeper (wyEnv L)) (eval (lcElt (asVal wyA2)) (wyC2 L C)) (fun x s₄ => TM g C L D oL (lst ys) os ((L + 1, oc) :: nr) (its ++ [(I, o')]) (fun mC tus => WyK ((L + 1, oc) :: nr) xa xb I2 done now (ins, ws) (j + 1) mC (ys ++ [x]) tus) s₄) E s₂) E s := by
  have l9 : Mine.Lead9 := trivial
  have l0 : Mine.Lead0 := trivial
  revert hoc h2 h3 h4 h5 h6 h7 B X T hd hu hDC hLD hDI hj hv hS hK ht F N hb hos
  revert w L C D I I2 xa xb ca cb oc oL o' now tn nr iv wv ins ws done loose mean mg mb dp un gd cn cs0 Lc a ccd cls outer base g os j v its new tus mC ys s E
  intro w L C D I I2 xa xb ca cb oc oL o' now tn nr iv wv ins ws done loose mean mg mb dp un gd cn cs0 Lc a ccd cls outer base g os j v its new tus mC ys s E
  intros hoc h2 h3 h4 h5 h6 h7 B X T hd hu hDC hLD hDI hj hv hS hK ht F N hb hos
  rename Mine.Lead0 => l0; clear l0
  dsimp only [PP, KK] at *
  revert X; k_fill; intro X
  obtain ⟨⟨t, rfl⟩, rfl⟩ := hv
  subst hS
  obtain ⟨ka, kb, kw, ki⟩ := hK
  have F0 := fr_cast F (m' := fun y => if y = Str.ofString "inside" then some (.ref xa) else if y = Str.ofString "waits" then some (.ref xb) else mC y) (fun y => by
    by_cases q1 : y = Str.ofString "inside"
    · rw [if_pos q1, q1, ka]
    by_cases q2 : y = Str.ofString "waits"
    · rw [if_neg q1, if_pos q2, q2, kb]
    rw [if_neg q1, if_neg q2])
  clear F
  have hlen := IntsAre_len h4
  have hlen2 := IntsAre_len h5
  have hrz : iv.toArray.size < 1000 := by rw [List.size_toArray]; omega
  have hrw : wv.toArray.size < 1000 := by rw [List.size_toArray]; omega
  dsimp only [wyC2, wyEnv] at *
  generalize hb1 : gSnd default wyG2 = target
  generalize hb2 : lcElt (asVal wyA2) = elt
  generalize hb3 : fdScope wyStmt = scope
  generalize hb4 : lcScope default (asVal wyA2) = scope2
  conv at hb1 => { lhs; whnf }
  conv at hb2 => { lhs; whnf }
  conv at hb3 => { lhs; whnf }
  conv at hb4 => { lhs; whnf }
  subst hb1 hb2 hb3 hb4
  obtain ⟨heap', gens', drawn', toks', os'⟩ := s
  simp only [List.cons_append, List.nil_append, Int.zero_add] at N ⊢
  generalize hnr : tus ++ ((L + 1, oc) :: nr) = nr2 at *
  have h2' : (xa, _) ∈ nr2 := hnr ▸ List.mem_append_right _ (.tail _ h2)
  have h3' : (xb, _) ∈ nr2 := hnr ▸ List.mem_append_right _ (.tail _ h3)
  have h0 : (L + 1, oc) ∈ nr2 := hnr ▸ List.mem_append_right _ (.head _)
  k_steps
  (with_reducible rename News _ _ _ _ => N9)
  (with_reducible rename Fr _ _ _ _ => F9)
  (with_reducible rename IntsAre _ (ws ++ _) => hI9)
  (with_reducible rename IntsAre _ (List.take _ _ ++ _) => hI8)
  (repeat ((with_reducible rename _ ∧ _ => hc); obtain ⟨_, _⟩ := hc))
  subst hnr
  exact te2_mk F9 N9 (by assumption) (by assumption) (by assumption) (by assumption) (by assumption) (by assumption) ht ki hI8 hI9 h6 h7 rfl rfl kw hb hos
end Mine
end
theorem Mine.calmCWays4 : True := by w_top off; first | walk1 | trivial
section
open PySem PySem.W PyProof.Rows PySem.Calls PySem.Spec PyProof.Rows.LCg
set_option maxRecDepth 100000
namespace Mine
local macro_rules | `(tactic| walk_at $s) => Mine.mw s [("pyIter ref", Mine.m9e23), ("call builtin:len", Mine.m9e23), ("call type:range", Mine.m9e23)]
theorem small_ok : ∀ k : Nat, k ≤ 8 → Builtin.Range.small 0 (k : Int) 1 = true ∧ Builtin.Range.rangeSize 0 (k : Int) 1 = k := by decide +kernel
theorem TM.imp {g : Heap} {C L D : Addr} {oL oD : Obj} {os : OsState} {news0 its : List (Addr × Obj)} {K K' : (Str → Option Value) → List (Addr × Obj) → Prop} {s : Shared} (h : TM g C L D oL oD os news0 its K s) (k : ∀ m t, K m t → K' m t) : TM g C L D oL oD os news0 its K' s := by
  obtain ⟨mC, tus, h1, h2⟩ := h
  exact ⟨mC, tus, k _ _ h1, h2⟩
set_option maxHeartbeats 8000000 in
theorem wyInner (w : World) (L C D I I2 xa xb : Addr) (ca cb : Nat) (oc oL o' : Obj) (now : Int) (tn : Tok) (hoc : oc.data = .cell (some (.int now tn))) (nr : List (Addr × Obj)) (iv wv : List Value) (ins ws : List Int) (ways : List (List Int × List Int)) (i : Nat) (hri : ways[i]? = some (ins, ws)) (hsz : ∀ i, ((ways.take i).flatMap (stepG now)).length < 1000)
    (h2 : (xa, W.listOf iv.toArray ca) ∈ nr) (h3 : (xb, W.listOf wv.toArray cb) ∈ nr) (h4 : IntsAre iv ins) (h5 : IntsAre wv ws) (h6 : ins.length ≤ 8) (h7 : ws.length ≤ 7)
    (loose : List Str) (mean : ExcName → Option Value) (mg mb : Str → Option Value) (dp un : Nat) (gd : Option (List Code)) (cn : Str) (cs0 : Scope) (Lc a : Addr) (ccd : Value) (cls : List (Str × Addr)) (outer : List Env) (base g : Heap)
    (B : Below (ktrTop dp un gd cn cs0 Lc a ccd cls outer) base (envX cn cs0 Lc a ccd cls :: outer) g) (X : (KK w).In g) (T : Top VV loose mean mg mb g) (hd : dp + 30 < recursionLimit) (hu : un + 300 < cLine) (os : OsState)
    (hDC : @LT.lt Nat _ D C) (hLD : @LT.lt Nat _ L D) (hID : @LT.lt Nat _ I D) (hn0 : ∀ p ∈ (L + 1, oc) :: nr, @LT.lt Nat _ p.1 D)
    (tus : List (Addr × Obj)) (mC : Str → Option Value) (ys : List Value) (s : Shared) (hK : WyAt (tus ++ ((L + 1, oc) :: nr)) ys ((ways.take i).flatMap (stepG now))) (ht : ∀ p ∈ tus, @LT.lt Nat _ D p.1)
    (hI2 : ∀ p ∈ (I, o') :: (L, oL) :: (D, lst ys) :: (tus ++ ((L + 1, oc) :: nr)), @LT.lt Nat _ p.1 I2) (ka : mC (Str.ofString "inside") = some (.ref xa)) (kb : mC (Str.ofString "waits") = some (.ref xb))
    (F : Fr g C s.heap mC) (N : News g C s.heap ((I2, { cls := .type "range_iterator", dict := none, data := .fields #[rawInt 0, rawInt (iv.toArray.size : Int), rawInt 1], slots := #[] }) :: (I, o') :: (L, oL) :: (D, lst ys) :: (tus ++ ((L + 1, oc) :: nr)))) (hb : AllBare s.gens) (hos : s.os = os) :
    codeAny (model PP w) ((ktrTop dp un gd cn cs0 Lc a ccd cls outer).deeper (wyEnv L)) (.compStart (asVal wyA2) 1 (.ref I2) (.ref D) (wyC2 L C))
        (fun r s' => r = .ok .next ∧ OT g C L D oL os ((L + 1, oc) :: nr) [(I, o')] (fun ys tus => WyAt (tus ++ ((L + 1, oc) :: nr)) ys ((ways.take (i + 1)).flatMap (stepG now))) s') s := by
  have l9 : Mine.Lead9 := trivial
  have l0 : Mine.Lead0 := trivial
  revert hoc hri hsz h2 h3 h4 h5 h6 h7 B X T hd hu hDC hLD hID hn0 hK ht hI2 ka kb F N hb hos
  revert w L C D I I2 xa xb ca cb oc oL o' now tn nr iv wv ins ws ways i loose mean mg mb dp un gd cn cs0 Lc a ccd cls outer base g os tus mC ys s
  intro w L C D I I2 xa xb ca cb oc oL o' now tn nr iv wv ins ws ways i loose mean mg mb dp un gd cn cs0 Lc a ccd cls outer base g os tus mC ys s
  intros hoc hri hsz h2 h3 h4 h5 h6 h7 B X T hd hu hDC hLD hID hn0 hK ht hI2 ka kb F N hb hos
  rename Mine.Lead0 => l0; clear l0
  have hlen := IntsAre_len h4
  have hI2D : @LT.lt Nat _ D I2 := hI2 (D, _) (.tail _ (.tail _ (.head _)))
  generalize hb5 : asVal wyA2 = e
  conv at hb5 => { lhs; whnf }
  subst hb5
  refine (fun loop => compStart_at1 loop (wpAny_pyIter_rangeiter (N _ (.head _)).1 loop)) ?_
  exact
    comp_inner (itsO := [(I, o')]) (news0 := (L + 1, oc) :: nr) (L := L) (D := D) (oL := oL) (os := os) (g := g) (C := C) (R := fun r s' => r = .ok .next ∧ OT g C L D oL os ((L + 1, oc) :: nr) [(I, o')] (fun ys tus => WyAt (tus ++ ((L + 1, oc) :: nr)) ys ((ways.take (i + 1)).flatMap (stepG now))) s')
      (src_range (I := I2) (a := 0) (n := ins.length) rfl (fun _ _ => rfl) (fun _ _ => rfl)) (fun j mC ys tus => WyK ((L + 1, oc) :: nr) xa xb I2 ((ways.take i).flatMap (stepG now)) now (ins, ws) j mC ys tus ∧ j ≤ ins.length) hDC hLD hn0
      (fun j mC ys tus hk => by rw [hk.1.w.length, List.length_append, List.length_map, List.length_range]; have := hsz i; omega)
      (by
        rintro j its rfl q hq
        rw [List.mem_singleton.mp hq]
        refine ⟨hI2D, fun p hp => ?_⟩
        rw [List.mem_singleton.mp hp]
        exact neN (Nat.ne_of_lt (Nat.lt_trans hID hI2D)))
      (by
        intro q hq
        rw [List.mem_singleton.mp hq]
        exact hID)
      (by
        rintro j its tus rfl ht mC ys hk p hp q hq
        rw [List.mem_singleton.mp hq]
        exact hk.1.i p hp)
      (by
        intro j v its new tus mC ys s E hj hv hS hK ht F N hb hos
        refine wpAny_mono (wyTurn2 w L C D I I2 xa xb ca cb oc oL o' now tn hoc nr iv wv ins ws _ h2 h3 h4 h5 h6 h7 loose mean mg mb dp un gd cn cs0 Lc a ccd cls outer base g B X T hd hu os hDC hLD hI2D j hj v its new tus mC ys s E hv hS hK.1 ht F N hb hos) (fun _ s₂ h => wpAny_mono h (fun x s₄ h => h.imp fun m t k => ⟨k, hj⟩) fun _ _ e => e) fun _ _ e => e)
      (by
        intro mC ys tus s hK ht F N hb hos
        refine ⟨rfl, mC, ys, tus, ?_, ht, F, N, hb, hos⟩
        have := hK.1.w
        rw [List.take_succ, hri, List.flatMap_append]
        simpa [stepG] using this)
      ins.length 0 [(I2, _)] tus mC ys s (by omega) rfl ⟨⟨ka, kb, by simpa using hK, fun q hq => neN (Nat.ne_of_lt (hI2 q (.tail _ (.tail _ (.tail _ (List.mem_append_left _ hq))))))⟩, Nat.zero_le _⟩ ht F (by
        intro p hp
        rcases List.mem_cons.mp hp with rfl | hp
        · have := N _ (.head _)
          rw [show (0 + ((0 : Nat) : Int)) = 0 by rfl, show ((ins.length : Int) - ((0 : Nat) : Int)) = (iv.toArray.size : Int) by rw [List.size_toArray]; omega]
          exact this
        · exact N p (.tail _ hp)) hb hos
set_option maxHeartbeats 8000000 in
theorem wyTurnO (w : World) (L C D I l : Addr) (oc oL : Obj) (now : Int) (tn : Tok) (hoc : oc.data = .cell (some (.int now tn))) (nr : List (Addr × Obj)) (vs : List Value) (ways : List (List Int × List Int)) (hw : WyAt nr vs ways) (hb7 : ∀ p ∈ ways, p.2.length ≤ 7) (hsz : ∀ i, ((ways.take i).flatMap (stepG now)).length < 1000)
    (loose : List Str) (mean : ExcName → Option Value) (mg mb : Str → Option Value) (dp un : Nat) (gd : Option (List Code)) (cn : Str) (cs0 : Scope) (Lc a : Addr) (ccd : Value) (cls : List (Str × Addr)) (outer : List Env) (base g : Heap)
    (B : Below (ktrTop dp un gd cn cs0 Lc a ccd cls outer) base (envX cn cs0 Lc a ccd cls :: outer) g) (X : (KK w).In g) (T : Top VV loose mean mg mb g) (hd : dp + 30 < recursionLimit) (hu : un + 300 < cLine) (os : OsState)
    (hDC : @LT.lt Nat _ D C) (hLD : @LT.lt Nat _ L D) (hID : @LT.lt Nat _ I D) (hn0 : ∀ p ∈ (L + 1, oc) :: nr, @LT.lt Nat _ p.1 D)
    (i : Nat) (v : Value) (its new tus : List (Addr × Obj)) (mC : Str → Option Value) (ys : List Value) (s : Shared) (E : Value → Shared → Prop) (hv : VL vs i v new) (hS : SL I l (i + 1) its) (hK : WyAt (tus ++ ((L + 1, oc) :: nr)) ys ((ways.take i).flatMap (stepG now))) (ht : ∀ p ∈ tus, @LT.lt Nat _ D p.1)
    (F : Fr g C s.heap mC) (N : News g C s.heap (its ++ (new ++ ((L, oL) :: (D, lst ys) :: (tus ++ ((L + 1, oc) :: nr)))))) (hb : AllBare s.gens) (hos : s.os = os) :
      wpAny (model PP w) ((ktrTop dp un gd cn cs0 Lc a ccd cls outer).deeper (wyEnv L)) (assign (gTarget default wyG2) (wyC2 L C) v) (fun _ s₂ => wpAny (model PP w) ((ktrTop dp un gd cn cs0 Lc a ccd cls outer).deeper (wyEnv L)) (eval (gSndIter default wyG2) (wyC2 L C)) (fun x s₄ => wpAny (model PP w) ((ktrTop dp un gd cn cs0 Lc a ccd cls outer).deeper (wyEnv L)) (pyIter x) (fun it2 s₅ => codeAny (model PP w) ((ktrTop dp un gd cn cs0 Lc a ccd cls outer).deeper (wyEnv L)) (.compStart (asVal wyA2) 1 it2 (.ref D) (wyC2 L C))
        (fun r s' => r = .ok .next ∧ OT g C L D oL os ((L + 1, oc) :: nr) its (fun ys tus => WyAt (tus ++ ((L + 1, oc) :: nr)) ys ((ways.take (i + 1)).flatMap (stepG now))) s') s₅) E s₄) E s₂) E s := by
  have l9 : Mine.Lead9 := trivial
  have l0 : Mine.Lead0 := trivial
  revert hoc hw hb7 hsz B X T hd hu hDC hLD hID hn0 hv hS hK ht F N hb hos
  revert w L C D I l oc oL now tn nr vs ways loose mean mg mb dp un gd cn cs0 Lc a ccd cls outer base g os i v its new tus mC ys s E
  intro w L C D I l oc oL now tn nr vs ways loose mean mg mb dp un gd cn cs0 Lc a ccd cls outer base g os i v its new tus mC ys s E
  intros hoc hw hb7 hsz B X T hd hu hDC hLD hID hn0 hv hS hK ht F N hb hos
  rename Mine.Lead0 => l0; clear l0
  dsimp only [PP, KK] at *
  revert X; k_fill; intro X
  obtain ⟨hvi, rfl⟩ := hv
  obtain ⟨o', rfl, ho'⟩ := hS
  obtain ⟨t, xa, xb, ins, ws, c, ca, cb, iv, wv, rfl, hri, h1, h2, h3, h4, h5, h6, h7⟩ := hw.get hvi
  have hlen := IntsAre_len h4
  have hrz : iv.toArray.size < 1000 := by rw [List.size_toArray]; omega
  dsimp only [wyC2, wyEnv] at *
  generalize hb1 : gTarget default wyG2 = target
  generalize hb2 : gSndIter default wyG2 = i2
  generalize hb3 : fdScope wyStmt = scope
  generalize hb4 : lcScope default (asVal wyA2) = scope2
  conv at hb1 => { lhs; whnf }
  conv at hb2 => { lhs; whnf }
  conv at hb3 => { lhs; whnf }
  conv at hb4 => { lhs; whnf }
  subst hb1 hb2 hb3 hb4
  generalize hb5 : asVal wyA2 = e
  conv at hb5 => { lhs; whnf }
  subst hb5
  obtain ⟨heap', gens', drawn', toks', os'⟩ := s
  simp only [List.cons_append, List.nil_append] at N
  generalize hnr : tus ++ ((L + 1, oc) :: nr) = nr2 at *
  have h1' : (t, _) ∈ nr2 := hnr ▸ List.mem_append_right _ (.tail _ h1)
  have h2' : (xa, _) ∈ nr2 := hnr ▸ List.mem_append_right _ (.tail _ h2)
  have h3' : (xb, _) ∈ nr2 := hnr ▸ List.mem_append_right _ (.tail _ h3)
  k_steps
  (with_reducible rename News _ _ _ _ => N9)
  refine Halt.mk (call_len_list (N9.isList (.tail _ (.tail _ (.tail _ h2')))) (by rw [List.size_toArray]; omega) ?_)
  (try dsimp only)
  k_steps
  (with_reducible rename Fr _ _ _ _ => F9)
  obtain ⟨sm1, sm2⟩ := small_ok iv.toArray.size (by rw [List.size_toArray]; omega)
  refine Halt.mk (call_range_1 ?_)
  (try dsimp only)
  refine wpAny_pyIter_range (Heap.get?_push_size _ rfl) sm1 ?_
  rw [sm2]
  have N10 := N9.push F9 { cls := .type "range", data := .fields #[.int 0 (toks' + 1 + 1 + 1 + 1), .int iv.toArray.size (toks' + 1 + 1 + 1), .int 1 (toks' + 1 + 1 + 1 + 1 + 1)] }
  have F10 := F9.push { cls := .type "range", data := .fields #[.int 0 (toks' + 1 + 1 + 1 + 1), .int iv.toArray.size (toks' + 1 + 1 + 1), .int 1 (toks' + 1 + 1 + 1 + 1 + 1)] }
  have N11 := N10.push F10 { cls := .type "range_iterator", data := .fields #[rawInt 0, rawInt iv.toArray.size, rawInt 1] }
  have F11 := F10.push { cls := .type "range_iterator", data := .fields #[rawInt 0, rawInt iv.toArray.size, rawInt 1] }
  have big : ∀ p ∈ (I, o') :: (L, oL) :: (D, lst ys) :: nr2, @LT.lt Nat _ p.1 _ := fun p hp => Heap.lt_size (N10 p (.tail _ hp)).1
  subst hnr
  refine wyInner w L C D I _ xa xb ca cb oc oL o' now tn hoc nr iv wv ins ws ways i hri hsz h2 h3 h4 h5 h6 (hb7 _ (List.mem_of_getElem? hri)) loose mean mg mb dp un gd cn cs0 Lc a ccd cls outer base g B X T hd hu os hDC hLD hID hn0 tus _ ys _ hK ht big rfl rfl F11 (cb_drop N11 ?_) hb hos
  intro p hp
  rcases List.mem_cons.mp hp with rfl | hp
  · exact .head _
  · exact .tail _ (.tail _ hp)
end Mine
end
section
open PySem PySem.W PyProof.Rows PySem.Calls PySem.Spec PyProof.Rows.LCg
set_option maxRecDepth 100000
namespace Mine
set_option maxHeartbeats 8000000 in
theorem wyComp2 (w : World) (L wyA : Addr) (cW : Nat) (oc : Obj) (now : Int) (tn : Tok) (hoc : oc.data = .cell (some (.int now tn))) (nr : List (Addr × Obj)) (vs : List Value) (ways : List (List Int × List Int)) (hw : WyAt nr vs ways) (hb7 : ∀ p ∈ ways, p.2.length ≤ 7) (hsz : ∀ i, ((ways.take i).flatMap (stepG now)).length < 1000)
    (hW : (wyA, W.listOf vs.toArray cW) ∈ nr) 
    (loose : List Str) (mean : ExcName → Option Value) (mg mb : Str → Option Value) (dp un : Nat) (gd : Option (List Code)) (cn : Str) (cs0 : Scope) (Lc a : Addr) (ccd : Value) (cls : List (Str × Addr)) (outer : List Env) (base g : Heap)
    (B : Below (ktrTop dp un gd cn cs0 Lc a ccd cls outer) base (envX cn cs0 Lc a ccd cls :: outer) g) (X : (KK w).In g) (T : Top VV loose mean mg mb g) (hd : dp + 30 < recursionLimit) (hu : un + 300 < cLine) (os : OsState)
    (m : Str → Option Value) (hm : m (Str.ofString "ways") = some (.ref wyA)) (s : Shared) (F : Fr g L s.heap m) (N : News g L s.heap ((L + 1, oc) :: nr)) (hb : AllBare s.gens) (hos : s.os = os) (Q : Flow → Shared → Prop) (E : Value → Shared → Prop)
    (hQ : ∀ (D : Addr) (ys : List Value) (tus : List (Addr × Obj)) (s' : Shared), WyAt (tus ++ ((L + 1, oc) :: nr)) ys (ways.flatMap (stepG now)) → @LT.lt Nat _ L D → (∀ p ∈ (L + 1, oc) :: nr, @LT.lt Nat _ p.1 D) → (∀ p ∈ tus, @LT.lt Nat _ D p.1) →
      Fr g L s'.heap (fun z => if z = Str.ofString "ways" then some (.ref D) else m z) → News g L s'.heap ((D, lst ys) :: (tus ++ ((L + 1, oc) :: nr))) → AllBare s'.gens → s'.os = os → Q .next s') :
    wpAny (model PP w) ((ktrTop dp un gd cn cs0 Lc a ccd cls outer).deeper (wyEnv L)) (exec wyA2 (wyEnv L)) Q E s := by
  generalize hb1 : wyA2 = st
  conv at hb1 => { lhs; whnf }
  subst hb1
  have hlen := hw.length
  refine comp_assign os ((L + 1, oc) :: nr) (fun ys tus => WyAt (tus ++ ((L + 1, oc) :: nr)) ys ((ways.take vs.length).flatMap (stepG now))) (m := m) (g := g) (L := L) rfl (by with_unfolding_all rfl) (by with_unfolding_all rfl) (by decide +kernel) (by rfl) (by decide +kernel) (by rfl) (by rfl) (by intro _; rfl) ?_
  refine wpAny_Name (wpAny_loadName_local rfl rfl F.ns hm ?_) (by decide)
  refine iter_list_K F N (.tail _ hW) fun I h' o' hI F' N' hlt => ?_
  refine ⟨_, F', N', (fun p hp => .tail _ hp), fun D C oL h2 tk mC hLD hDC hn0 hoL FC NC => ?_, fun D C ys tus s' hP => ?_⟩
  · have hit : h2.IsListIter I wyA 0 := ⟨o', (NC _ (.tail _ (.tail _ (.head _)))).1, hI.1, hI.2⟩
    refine comp_start_li hit ?_
    refine comp_outer (src_list (l := wyA) (I := I) (items := vs) (c := cW) rfl ?_) (by intro _; rfl) (fun i ys tus => WyAt (tus ++ ((L + 1, oc) :: nr)) ys ((ways.take i).flatMap (stepG now))) ?_ hDC (fun p hp => (N p hp).2.1) ?_ ?_ vs.length 0 [(I, o')] [] mC [] _ (by omega) ⟨o', rfl, hI⟩ .nil (fun _ h => absurd h List.not_mem_nil) FC (cb_drop NC ?_) hb hos
    · intro i v s Q E hv hit hq
      obtain ⟨i0, hi0, e0⟩ := List.mem_iff_getElem.mp hv
      obtain ⟨t, xa, xb, ins, ws, c, ca, cb, iv, wv, e1, -⟩ := hw.get (i := i0) (v := v) (by rw [← e0]; simp [hi0])
      subst e1
      exact wpAny_letOwnedTupleGo_listiter hit hq
    · intro p hp
      rw [List.mem_singleton.mp hp]
      exact .tail _ hW
    · rintro i its ⟨o, rfl, ho⟩ q hq
      rw [List.mem_singleton.mp hq]
      exact ⟨hn0 (I, o') (.head _), (N' (I, o') (.head _)).2.1, fun p hp => neN (Nat.ne_of_lt (hlt p hp))⟩
    · intro i v its new tus mC ys s E hi hv hS hK ht hnew hoff F N hb hos
      exact wyTurnO w L C D I wyA oc oL now tn hoc nr vs ways hw hb7 hsz loose mean mg mb dp un gd cn cs0 Lc a ccd cls outer base g B X T hd hu os hDC hLD (hn0 (I, o') (.head _)) (fun p hp => hn0 p (.tail _ hp)) i v its new tus mC ys s E hv hS hK ht F N hb hos
    · intro p hp
      first
        | ((revert p hp); (try dsimp only [List.cons_append, List.nil_append]); (repeat' (first | with_reducible refine List.forall_mem_cons.mpr ⟨?_, ?_⟩ | with_reducible refine List.forall_mem_append.mpr ⟨?_, ?_⟩ | with_reducible exact List.forall_mem_nil _ | (intro _ _; ((repeat (first | with_reducible assumption | with_reducible exact List.mem_cons_self | (with_reducible refine List.mem_append_left _ ?_; (repeat (first | with_reducible exact List.mem_cons_self | with_reducible refine List.mem_cons_of_mem _ ?_ | with_reducible assumption)); done) | with_reducible refine List.mem_append_right _ ?_ | with_reducible refine List.mem_cons_of_mem _ ?_)); done)) | ((repeat (first | with_reducible assumption | with_reducible exact List.mem_cons_self | (with_reducible refine List.mem_append_left _ ?_; (repeat (first | with_reducible exact List.mem_cons_self | with_reducible refine List.mem_cons_of_mem _ ?_ | with_reducible assumption)); done) | with_reducible refine List.mem_append_right _ ?_ | with_reducible refine List.mem_cons_of_mem _ ?_)); done))); done)
        | (simp only [List.cons_append, List.nil_append, List.mem_cons] at hp ⊢; rcases hp with h | h | h | h | h <;> simp [h])
  · rw [hlen, List.take_length] at hP
    exact fun h1 h2 h3 h4 h5 h6 h7 => hQ D ys tus s' hP h1 h2 h3 h4 h5 h6 h7
noncomputable def wayStep (ways : List (List Int × List Int)) (h : Bool × Int) : List (List Int × List Int) := if h.1 then ways.map (stepC h.2) else ways.flatMap (stepG h.2)
noncomputable def waysL (hs : List (Bool × Int)) : List (List Int × List Int) := hs.foldl wayStep [([], [])]
structure WyOk (hs : List (Bool × Int)) : Prop where
  n : hs.length ≤ 8
  b : ∀ i < hs.length, ∀ p ∈ waysL (hs.take i), p.1.length ≤ 7 ∧ p.2.length ≤ 7
  l : ∀ i ≤ hs.length, (waysL (hs.take i)).length < 1000
  g : ∀ i < hs.length, ∀ n j, (((waysL (hs.take i)).take j).flatMap (stepG n)).length < 1000
noncomputable abbrev wyMap (l wyA : Addr) (v1 : Option Value) : Str → Option Value := fun y =>
  if y = Str.ofString "comes" then v1 else if y = Str.ofString "ways" then some (.ref wyA) else if y = Str.ofString "hours" then some (.ref l) else none
structure WyInv (L l I : Addr) (news0 : List (Addr × Obj)) (hs : List (Bool × Int)) (i : Nat) (m : Str → Option Value) (news : List (Addr × Obj)) : Prop where
  out : ∃ (wyA : Addr) (v1 : Option Value) (vs : List Value) (cW : Nat) (oc : Obj) (vc : Option Value) (tus : List (Addr × Obj)), (∀ y, m y = wyMap l wyA v1 y) ∧ news = (L + 1, oc) :: (tus ++ news0) ∧ oc.data = .cell vc ∧ (wyA, W.listOf vs.toArray cW) ∈ tus ∧ WyAt (tus ++ news0) vs (waysL (hs.take i)) ∧ (∀ p ∈ tus, @LT.lt Nat _ (L + 1) p.1)
end Mine
end
theorem Mine.calmCWays6 : True := by w_top off; first | walk1 | trivial
section
open PySem PySem.W PyProof.Rows PySem.Calls PySem.Spec PyProof.Rows.LCg
set_option maxRecDepth 100000
namespace Mine
local macro_rules | `(tactic| walk_at $s) => Mine.mw s [("ite", Mine.m9k6), ("exec Assign cons ListComp", Mine.m9e23)]
section
variable {prog : Program} {w : World} {A : Around} {R : Result → Shared → Prop} {s : Shared} {target : PySem.Expr} {body : List Stmt} {env : Env} {g : Heap} {L : Addr} {os : OsState} {I l : Addr}
theorem for_listI {items : List Value} {c : Nat} (hh : A.handled = none) (J : Nat → (Str → Option Value) → List (Addr × Obj) → Prop)
    (hJ : ∀ i m news, J i m news → (l, W.listOf items.toArray c) ∈ news ∧ ∀ p ∈ news, p.1 ≠ I)
    (hlet : ∀ (i : Nat) (v : Value) (s : Shared) (Q : Unit → Shared → Prop) (E : Value → Shared → Prop), v ∈ items → s.heap.IsListIter I l i → Q () s → wpAny (model prog w) A (letOwnedTupleGo target (.ref I) v) Q E s)
    (turn : ∀ (i : Nat) (v : Value) (o' : Obj) (m : Str → Option Value) (news : List (Addr × Obj)) (s : Shared), items[i]? = some v → J i m news → Fr g L s.heap m → News g L s.heap ((I, o') :: news) → AllBare s.gens → s.os = os → LIter o' l (i + 1) →
      wpAny (model prog w) A (assign target env v) (fun _ s₂ => wpAny (model prog w) A (execs body env) (fun f s₃ => match f with
          | .next | .cont => ∃ m₃ news₃, J (i + 1) m₃ news₃ ∧ Fr g L s₃.heap m₃ ∧ News g L s₃.heap ((I, o') :: news₃) ∧ AllBare s₃.gens ∧ s₃.os = os
          | .brk => R (.ok .next) s₃
          | .ret v => R (.ok (.ret v)) s₃) (notedBy (model prog w) A env fun e s' => R (.error e) s') s₂) (notedBy (model prog w) A env fun e s' => R (.error e) s') s)
    (done : ∀ (m : Str → Option Value) (news : List (Addr × Obj)) (s : Shared), J items.length m news → Fr g L s.heap m → News g L s.heap news → AllBare s.gens → s.os = os → R (.ok .next) s) :
    ∀ (k i : Nat) (m : Str → Option Value) (news : List (Addr × Obj)) (o' : Obj) (s : Shared), i + k = items.length → LIter o' l i → J i m news → Fr g L s.heap m → News g L s.heap ((I, o') :: news) → AllBare s.gens → s.os = os →
      codeAny (model prog w) A (.forLoop target (.ref I) body [] env) R s := by
  intro k
  induction k with
  | zero =>
    intro i m news o' s hk ho hj F N hb hos
    obtain ⟨hl, hne⟩ := hJ i m news hj
    refine for_turn2 (end_list_K hh F N ho hl (by simp; omega) hne fun h' F' N' => ?_)
    refine wpAny_execs_nil ?_
    rw [show i = items.length by omega] at hj
    exact done m news _ hj F' N' hb hos
  | succ k ih =>
    intro i m news o' s hk ho hj F N hb hos
    obtain ⟨hl, hne⟩ := hJ i m news hj
    have hi : items[i]? = some items[i] := by simp
    refine for_turn2 (next_list_K F N ho hl hi hne fun h' o2 ho2 F2 N2 => ?_)
    refine hlet (i + 1) _ _ _ _ (List.mem_of_getElem? hi) (liter_at N2 ho2) ?_
    refine wpAny_mono (turn i _ o2 m news _ hi hj F2 N2 hb hos ho2) (fun _ s₂ h₂ => wpAny_mono h₂ (fun f s₃ h₃ => ?_) fun _ _ e => e) fun _ _ e => e
    have nx : (∃ m₃ news₃, J (i + 1) m₃ news₃ ∧ Fr g L s₃.heap m₃ ∧ News g L s₃.heap ((I, o2) :: news₃) ∧ AllBare s₃.gens ∧ s₃.os = os) → codeAny (model prog w) A (.forLoop target (.ref I) body [] env) R s₃ := by
      rintro ⟨m₃, news₃, hj3, F3, N3, hb3, ho3⟩
      exact ih (i + 1) m₃ news₃ o2 s₃ (by omega) ho2 hj3 F3 N3 hb3 ho3
    cases f with
    | next => exact nx h₃
    | cont => exact nx h₃
    | brk => exact h₃
    | ret v => exact h₃
end
theorem WyAt.monoS {news news' : List (Addr × Obj)} {vs : List Value} {r : List (List Int × List Int)} (h : WyAt news vs r) (k : ∀ p ∈ news, (∃ a c, p.2.data = .seq a c) → p ∈ news') : WyAt news' vs r := by
  induction h with
  | nil => exact .nil
  | cons c ca cb iv wv h1 h2 h3 h4 h5 h6 h7 _ ih => exact .cons c ca cb iv wv (k _ h1 ⟨_, _, rfl⟩) (k _ h2 ⟨_, _, rfl⟩) (k _ h3 ⟨_, _, rfl⟩) h4 h5 h6 h7 ih
theorem wyEnd_mk {l L I D : Addr} {o' : Obj} {g : Heap} {os : OsState} {news0 tus tus2 : List (Addr × Obj)} {hs : List (Bool × Int)} {i : Nat} {m : Str → Option Value} {oc : Obj} {vc v1 : Option Value} {ys : List Value} {s : Shared} {W2 : List (List Int × List Int)}
    (hm : ∀ y, m y = wyMap l D v1 y) (hoc : oc.data = .cell vc) (hK : WyAt (tus2 ++ ((L + 1, oc) :: (I, o') :: (tus ++ news0))) ys W2) (e : W2 = waysL (hs.take (i + 1))) (hLD : @LT.lt Nat _ (L + 1) D) (h2 : ∀ p ∈ tus2, @LT.lt Nat _ D p.1) (hD : @LT.lt Nat _ I D) (ht : ∀ p ∈ tus, @LT.lt Nat _ (L + 1) p.1 ∧ p.1 ≠ I)
    (hI : ∀ p ∈ news0, p.1 ≠ I) (hLI : @LT.lt Nat _ (L + 1) I) (hli : LIter o' l (i + 1))
    (F : Fr g L s.heap m) (N : News g L s.heap ((D, lst ys) :: (tus2 ++ ((L + 1, oc) :: (I, o') :: (tus ++ news0))))) (hb : AllBare s.gens) (hos : s.os = os) :
    EndAt (fun m news => WyInv L l I news0 hs (i + 1) m news ∧ ∀ p ∈ news, p.1 ≠ I) g L I o' os s := by
  subst e
  refine ⟨_, _, ⟨⟨D, v1, ys, _, oc, vc, (D, lst ys) :: (tus2 ++ tus), hm, rfl, hoc, .head _, hK.monoS ?_, ?_⟩, ?_⟩, F, cb_drop N ?_, hb, hos⟩
  · rw [List.cons_append, List.append_assoc]
    exact kS_tail (kS_app (kS_skip (fun ⟨_, _, hd⟩ => by rw [hoc] at hd; cases hd) (kS_skip (fun ⟨_, _, hd⟩ => by rw [hli.2] at hd; cases hd) kS_refl)))
  · refine List.forall_mem_cons.mpr ⟨hLD, fun p hp => ?_⟩
    rcases List.mem_append.mp hp with hp | hp
    · exact Nat.lt_trans hLD (h2 p hp)
    · exact (ht p hp).1
  · refine List.forall_mem_cons.mpr ⟨neN (Nat.ne_of_lt hLI), List.forall_mem_cons.mpr ⟨neN (Nat.ne_of_gt hD), fun p hp => ?_⟩⟩
    rcases List.mem_append.mp hp with hp | hp
    · rcases List.mem_append.mp hp with hp | hp
      · exact neN (Nat.ne_of_gt (Nat.lt_trans hD (h2 p hp)))
      · exact (ht p hp).2
    · exact hI p hp
  · intro p hp
    first
      | ((revert p hp); (try dsimp only [List.cons_append]); (repeat' (first | with_reducible refine List.forall_mem_cons.mpr ⟨?_, ?_⟩ | with_reducible refine List.forall_mem_append.mpr ⟨?_, ?_⟩ | with_reducible exact List.forall_mem_nil _ | (intro _ _; ((repeat (first | with_reducible assumption | with_reducible exact List.mem_cons_self | (with_reducible refine List.mem_append_left _ ?_; (repeat (first | with_reducible exact List.mem_cons_self | with_reducible refine List.mem_cons_of_mem _ ?_ | with_reducible assumption)); done) | with_reducible refine List.mem_append_right _ ?_ | with_reducible refine List.mem_cons_of_mem _ ?_)); done)) | ((repeat (first | with_reducible assumption | with_reducible exact List.mem_cons_self | (with_reducible refine List.mem_append_left _ ?_; (repeat (first | with_reducible exact List.mem_cons_self | with_reducible refine List.mem_cons_of_mem _ ?_ | with_reducible assumption)); done) | with_reducible refine List.mem_append_right _ ?_ | with_reducible refine List.mem_cons_of_mem _ ?_)); done))); done)
      | (simp only [List.cons_append, List.mem_append, List.mem_cons] at hp ⊢; rcases hp with h | h | h | (h | h) | h <;> simp [h])
set_option maxHeartbeats 8000000 in
theorem wyTurn (w : World) (l I L : Addr) (hv : List Value) (hs : List (Bool × Int)) (news0 : List (Addr × Obj)) (hH : HrAt news0 hv hs) (hok : WyOk hs)
    (loose : List Str) (mean : ExcName → Option Value) (mg mb : Str → Option Value) (dp un : Nat) (gd : Option (List Code)) (cn : Str) (cs0 : Scope) (Lc a : Addr) (ccd : Value) (cls : List (Str × Addr)) (outer : List Env) (base g : Heap) (R : Result → Shared → Prop)
    (B : Below (ktrTop dp un gd cn cs0 Lc a ccd cls outer) base (envX cn cs0 Lc a ccd cls :: outer) g) (X : (KK w).In g) (T : Top VV loose mean mg mb g) (hd : dp + 30 < recursionLimit) (hu : un + 300 < cLine) (os : OsState)
    (hLI : @LT.lt Nat _ (L + 1) I) (hn0 : ∀ p ∈ news0, p.1 ≠ L + 1) (hnI : ∀ p ∈ news0, p.1 ≠ I) 
    (i : Nat) (v : Value) (o' : Obj) (m : Str → Option Value) (news : List (Addr × Obj)) (s : Shared) (hi : hv[i]? = some v) (hj : WyInv L l I news0 hs i m news) (hIn : ∀ p ∈ news, p.1 ≠ I) (F : Fr g L s.heap m) (N : News g L s.heap ((I, o') :: news)) (hb : AllBare s.gens) (hos : s.os = os) (hli : LIter o' l (i + 1))
    (E E2 : Value → Shared → Prop) :
      wpAny (model PP w) ((ktrTop dp un gd cn cs0 Lc a ccd cls outer).deeper (wyEnv L)) (assign (forTarget wyFor) (wyEnv L) v) (fun _ s₂ => wpAny (model PP w) ((ktrTop dp un gd cn cs0 Lc a ccd cls outer).deeper (wyEnv L)) (execs (forBody wyFor) (wyEnv L)) (fun f s₃ => match f with
          | .next | .cont => EndAt (fun m news => WyInv L l I news0 hs (i + 1) m news ∧ ∀ p ∈ news, p.1 ≠ I) g L I o' os s₃
          | .brk => R (.ok .next) s₃
          | .ret v => R (.ok (.ret v)) s₃) E s₂) E2 s := by
  have l9 : Mine.Lead9 := trivial
  have l0 : Mine.Lead0 := trivial
  revert hH hok B X T hd hu hLI hn0 hnI hi hj hIn F N hb hos hli
  revert w l I L hv hs news0 loose mean mg mb dp un gd cn cs0 Lc a ccd cls outer base g R os i v o' m news s E E2
  intro w l I L hv hs news0 loose mean mg mb dp un gd cn cs0 Lc a ccd cls outer base g R os i v o' m news s E E2
  intros hH hok B X T hd hu hLI hn0 hnI hi hj hIn F N hb hos hli
  rename Mine.Lead0 => l0; clear l0
  dsimp only [PP, KK] at *
  revert X; k_fill; intro X
  obtain ⟨wyA, v1, vs, cW, oc, vc, tus, hm, rfl, hoc, hW, hK, ht⟩ := hj
  obtain ⟨ha, b, n, t, c, rfl, hsi, hmt, hn1, hn4⟩ := hH.get hi
  have F0 := fr_cast F hm
  clear F hm
  have hlt' := (List.getElem?_eq_some_iff.mp hsi).1
  have htake : waysL (hs.take (i + 1)) = wayStep (waysL (hs.take i)) (b, n) := by
    rw [List.take_succ, hsi]; simp [waysL, List.foldl_append]
  dsimp only [wyEnv] at *
  generalize hb1 : forBody wyFor = body
  generalize hb2 : forTarget wyFor = target
  generalize hb3 : fdScope wyStmt = scope
  conv at hb1 => { lhs; whnf }
  conv at hb2 => { lhs; whnf }
  conv at hb3 => { lhs; whnf }
  subst hb1 hb2 hb3
  obtain ⟨heap', gens', drawn', toks', os'⟩ := s
  generalize hnr : tus ++ news0 = nr at *
  have hmt' : (ha, _) ∈ nr := hnr ▸ List.mem_append_right _ hmt
  have hne : ∀ p ∈ nr, p.1 ≠ L + 1 := by
    intro p hp
    rw [← hnr] at hp
    exact (List.mem_append.mp hp).elim (fun h => neN (Nat.ne_of_gt (ht p h))) (fun h => hn0 p h)
  have hneI : @Ne Nat I (L + 1) := Nat.ne_of_gt hLI
  cases b with
  | true =>
    k_steps
    (with_reducible rename News _ _ _ _ => N9)
    (with_reducible rename Fr _ _ _ _ => F9)
    (with_reducible rename _ = Data.cell _ => d9)
    refine Halt.mk (wyComp1 w L wyA cW _ n t d9 ((I, o') :: nr) vs _ (hK.mono fun p hp => .tail _ hp) (fun p hp => (hok.b i hlt' p hp).1) (Nat.lt_trans (hok.l i (Nat.le_of_lt hlt')) (by decide)) (.tail _ (hnr ▸ List.mem_append_left _ hW)) loose mean mg mb dp un gd cn cs0 Lc a ccd cls outer base g B X T hd hu os _ rfl _ F9 (cb_drop N9 ?_) (by exact hb) (by exact hos) _ _ ?_)
    · intro p hp
      first
        | ((revert p hp); (repeat' (first | with_reducible refine List.forall_mem_cons.mpr ⟨?_, ?_⟩ | with_reducible refine List.forall_mem_append.mpr ⟨?_, ?_⟩ | with_reducible exact List.forall_mem_nil _ | (intro _ _; ((repeat (first | with_reducible assumption | with_reducible exact List.mem_cons_self | (with_reducible refine List.mem_append_left _ ?_; (repeat (first | with_reducible exact List.mem_cons_self | with_reducible refine List.mem_cons_of_mem _ ?_ | with_reducible assumption)); done) | with_reducible refine List.mem_append_right _ ?_ | with_reducible refine List.mem_cons_of_mem _ ?_)); done)) | ((repeat (first | with_reducible assumption | with_reducible exact List.mem_cons_self | (with_reducible refine List.mem_append_left _ ?_; (repeat (first | with_reducible exact List.mem_cons_self | with_reducible refine List.mem_cons_of_mem _ ?_ | with_reducible assumption)); done) | with_reducible refine List.mem_append_right _ ?_ | with_reducible refine List.mem_cons_of_mem _ ?_)); done))); done)
        | (simp only [List.mem_cons] at hp ⊢; rcases hp with h | h | h <;> simp [h])
    · intro D ys tus2 s' hW2 hLD hnD ht2 F2 N2 hb2 ho2
      obtain ⟨heap2, gens2, drawn2, toks2, os2⟩ := s'
      (try dsimp only)
      subst hnr
      k_steps
      refine wyEnd_mk (v1 := some (.bool true)) ?_ d9 hW2 (by rw [htake]; rfl) (hnD _ (.head _)) ht2 (hnD _ (.tail _ (.head _))) (fun p hp => ⟨ht p hp, fun e => hIn p (.tail _ (List.mem_append_left _ hp)) e⟩) hnI hLI hli F2 N2 hb2 ho2
      intro y
      by_cases h1 : y = Str.ofString "comes"; (focus (subst h1; rfl)); by_cases h2 : y = Str.ofString "ways"; (focus (subst h2; rfl)); by_cases h3 : y = Str.ofString "hours"; (focus (subst h3; rfl))
      simp only [wyMap, if_neg h1, if_neg h2, if_neg h3]
  | false =>
    k_steps
    (with_reducible rename News _ _ _ _ => N9)
    (with_reducible rename Fr _ _ _ _ => F9)
    (with_reducible rename _ = Data.cell _ => d9)
    refine Halt.mk (wyComp2 w L wyA cW _ n t d9 ((I, o') :: nr) vs _ (hK.mono fun p hp => .tail _ hp) (fun p hp => (hok.b i hlt' p hp).2) (fun j => hok.g i hlt' n j) (.tail _ (hnr ▸ List.mem_append_left _ hW)) loose mean mg mb dp un gd cn cs0 Lc a ccd cls outer base g B X T hd hu os _ rfl _ F9 (cb_drop N9 ?_) (by exact hb) (by exact hos) _ _ ?_)
    · intro p hp
      first
        | ((revert p hp); (repeat' (first | with_reducible refine List.forall_mem_cons.mpr ⟨?_, ?_⟩ | with_reducible refine List.forall_mem_append.mpr ⟨?_, ?_⟩ | with_reducible exact List.forall_mem_nil _ | (intro _ _; ((repeat (first | with_reducible assumption | with_reducible exact List.mem_cons_self | (with_reducible refine List.mem_append_left _ ?_; (repeat (first | with_reducible exact List.mem_cons_self | with_reducible refine List.mem_cons_of_mem _ ?_ | with_reducible assumption)); done) | with_reducible refine List.mem_append_right _ ?_ | with_reducible refine List.mem_cons_of_mem _ ?_)); done)) | ((repeat (first | with_reducible assumption | with_reducible exact List.mem_cons_self | (with_reducible refine List.mem_append_left _ ?_; (repeat (first | with_reducible exact List.mem_cons_self | with_reducible refine List.mem_cons_of_mem _ ?_ | with_reducible assumption)); done) | with_reducible refine List.mem_append_right _ ?_ | with_reducible refine List.mem_cons_of_mem _ ?_)); done))); done)
        | (simp only [List.mem_cons] at hp ⊢; rcases hp with h | h | h <;> simp [h])
    · intro D ys tus2 s' hW2 hLD hnD ht2 F2 N2 hb2 ho2
      obtain ⟨heap2, gens2, drawn2, toks2, os2⟩ := s'
      (try dsimp only)
      subst hnr
      k_steps
      refine wyEnd_mk (v1 := some (.bool false)) ?_ d9 hW2 (by rw [htake]; rfl) (hnD _ (.head _)) ht2 (hnD _ (.tail _ (.head _))) (fun p hp => ⟨ht p hp, fun e => hIn p (.tail _ (List.mem_append_left _ hp)) e⟩) hnI hLI hli F2 N2 hb2 ho2
      intro y
      by_cases h1 : y = Str.ofString "comes"; (focus (subst h1; rfl)); by_cases h2 : y = Str.ofString "ways"; (focus (subst h2; rfl)); by_cases h3 : y = Str.ofString "hours"; (focus (subst h3; rfl))
      simp only [wyMap, if_neg h1, if_neg h2, if_neg h3]
end Mine
end
theorem Mine.calmCWays7 : True := by w_top off; first | walk1 | trivial
section
open PySem PySem.W PyProof.Rows PySem.Calls PySem.Spec PyProof.Rows.LCg
set_option maxRecDepth 100000
namespace Mine
noncomputable def retVal : Stmt → PySem.Expr
  | .Return (some e) _ => e
  | _ => .Constant .none 0 ⟨0, 0, 0, 0⟩
noncomputable def wyE3 : PySem.Expr := retVal (sAt (fdBody wyStmt) 2)
inductive WsAt (news : List (Addr × Obj)) : List Value → List (List Int) → Prop
  | nil : WsAt news [] []
  | cons {b : Addr} {vs : List Value} {ws : List Int} {r : List (List Int)} (cb : Nat) (wv : List Value) : (b, W.listOf wv.toArray cb) ∈ news → IntsAre wv ws → WsAt news vs r → WsAt news (.ref b :: vs) (ws :: r)
theorem WsAt.mono {news news' : List (Addr × Obj)} {vs : List Value} {r : List (List Int)} (h : WsAt news vs r) (k : ∀ p ∈ news, p ∈ news') : WsAt news' vs r := by
  induction h with
  | nil => exact .nil
  | cons cb wv h1 h2 _ ih => exact .cons cb wv (k _ h1) h2 ih
theorem WsAt.append {news : List (Addr × Obj)} {a b : List Value} {x y : List (List Int)} (h : WsAt news a x) (k : WsAt news b y) : WsAt news (a ++ b) (x ++ y) := by
  induction h with
  | nil => exact k
  | cons cb wv h1 h2 _ ih => exact .cons cb wv h1 h2 ih
theorem WsAt.length {news : List (Addr × Obj)} {vs : List Value} {r : List (List Int)} (h : WsAt news vs r) : vs.length = r.length := by
  induction h with
  | nil => rfl
  | cons _ _ _ _ _ ih => simp [ih]
theorem WsAt.get {news : List (Addr × Obj)} {vs : List Value} {r : List (List Int)} (h : WsAt news vs r) : ∀ {i : Nat} {v : Value}, vs[i]? = some v → ∃ (b : Addr) (ws : List Int) (cb : Nat) (wv : List Value), v = .ref b ∧ r[i]? = some ws ∧ (b, W.listOf wv.toArray cb) ∈ news ∧ IntsAre wv ws := by
  induction h with
  | nil => intro i v hv; simp at hv
  | @cons b vs ws r cb wv h1 h2 _ ih =>
    intro i v hv
    cases i with
    | zero => simp at hv; exact ⟨b, ws, cb, wv, hv.symm, by simp, h1, h2⟩
    | succ i => exact ih (by simpa using hv)
noncomputable abbrev wyC3 (L C : Addr) : Env := compEnvC (lcScope default wyE3) [] C (wyEnv L)
theorem te3_mk {g : Heap} {C L D I xb : Addr} {oL o' : Obj} {os : OsState} {nr0 nr1 : List (Addr × Obj)} {ys wv : List Value} {mC : Str → Option Value} {s : Shared} {ways : List (List Int × List Int)} {ins ws : List Int} {i cb : Nat}
    (F : Fr g C s.heap mC) (N : News g C s.heap ((I, o') :: (L, oL) :: (D, lst ys) :: nr0)) (hw : IntsAre wv ws) (h3 : (xb, W.listOf wv.toArray cb) ∈ nr1)
    (hri : ways[i]? = some (ins, ws)) (hK : WsAt nr1 ys ((ways.take i).map (·.2))) (hb : AllBare s.gens) (hos : s.os = os) :
    TE g C L D oL (lst ys) os nr0 [(I, o')] (fun tus => tus = [] ∧ WsAt nr1 (ys ++ [.ref xb]) ((ways.take (i + 1)).map (·.2))) s := by
  refine ⟨_, [], ⟨rfl, ?_⟩, (fun _ h => absurd h List.not_mem_nil), F, N, hb, hos⟩
  rw [List.take_succ, hri, List.map_append]
  exact hK.append (.cons cb wv h3 hw .nil)
set_option maxHeartbeats 8000000 in
theorem wyTurn3 (w : World) (L C D I l : Addr) (oL : Obj) (news0 nr : List (Addr × Obj)) (hsub : ∀ p ∈ nr, p ∈ news0) (vs : List Value) (ways : List (List Int × List Int)) (hw : WyAt nr vs ways)
    (loose : List Str) (mean : ExcName → Option Value) (mg mb : Str → Option Value) (dp un : Nat) (gd : Option (List Code)) (cn : Str) (cs0 : Scope) (Lc a : Addr) (ccd : Value) (cls : List (Str × Addr)) (outer : List Env) (base g : Heap)
    (B : Below (ktrTop dp un gd cn cs0 Lc a ccd cls outer) base (envX cn cs0 Lc a ccd cls :: outer) g) (X : (KK w).In g) (T : Top VV loose mean mg mb g) (hd : dp + 30 < recursionLimit) (hu : un + 300 < cLine) (os : OsState)
    (hDC : @LT.lt Nat _ D C) (hLD : @LT.lt Nat _ L D)
    (i : Nat) (v : Value) (its new tus : List (Addr × Obj)) (mC : Str → Option Value) (ys : List Value) (s : Shared) (E : Value → Shared → Prop) (hv : VL vs i v new) (hS : SL I l (i + 1) its) (hK : tus = [] ∧ WsAt nr ys ((ways.take i).map (·.2)))
    (F : Fr g C s.heap mC) (N : News g C s.heap (its ++ (new ++ ((L, oL) :: (D, lst ys) :: (tus ++ news0))))) (hb : AllBare s.gens) (hos : s.os = os) :
      wpAny (model PP w) ((ktrTop dp un gd cn cs0 Lc a ccd cls outer).deeper (wyEnv L)) (assign (gTarget default (lcGens wyE3)) (wyC3 L C) v) (fun _ s₂ => wpAny (model PP w) ((ktrTop dp un gd cn cs0 Lc a ccd cls outer).deeper (wyEnv L)) (eval (lcElt wyE3) (wyC3 L C)) (fun x s₄ => TE g C L D oL (lst ys) os news0 its (fun tus => tus = [] ∧ WsAt nr (ys ++ [x]) ((ways.take (i + 1)).map (·.2))) s₄) E s₂) E s := by
  dsimp only [PP, KK] at *
  revert X; k_fill; intro X
  obtain ⟨hvi, rfl⟩ := hv
  obtain ⟨o', rfl, ho'⟩ := hS
  obtain ⟨rfl, hK⟩ := hK
  obtain ⟨t, xa, xb, ins, ws, c, ca, cb, iv, wv, rfl, hri, h1, h2, h3, h4, h5, h6, h7⟩ := hw.get hvi
  dsimp only [wyC3, wyEnv] at *
  generalize hb1 : gTarget default (lcGens wyE3) = target
  generalize hb2 : lcElt wyE3 = elt
  generalize hb3 : fdScope wyStmt = scope
  generalize hb4 : lcScope default wyE3 = scope2
  conv at hb1 => { lhs; whnf }
  conv at hb2 => { lhs; whnf }
  conv at hb3 => { lhs; whnf }
  conv at hb4 => { lhs; whnf }
  subst hb1 hb2 hb3 hb4
  obtain ⟨heap', gens', drawn', toks', os'⟩ := s
  simp only [List.cons_append, List.nil_append] at N
  have h1' : (t, _) ∈ news0 := hsub _ h1
  k_steps
  (with_reducible rename News _ _ _ _ => N9)
  (with_reducible rename Fr _ _ _ _ => F9)
  exact te3_mk F9 N9 h5 h3 hri hK hb hos
theorem wyComp3 (w : World) (L wyA : Addr) (cW : Nat) (news0 nr : List (Addr × Obj)) (hsub : ∀ p ∈ nr, p ∈ news0) (vs : List Value) (ways : List (List Int × List Int)) (hw : WyAt nr vs ways) (hsz : ways.length < 10000)
    (hW : (wyA, W.listOf vs.toArray cW) ∈ news0) 
    (loose : List Str) (mean : ExcName → Option Value) (mg mb : Str → Option Value) (dp un : Nat) (gd : Option (List Code)) (cn : Str) (cs0 : Scope) (Lc a : Addr) (ccd : Value) (cls : List (Str × Addr)) (outer : List Env) (base g : Heap)
    (B : Below (ktrTop dp un gd cn cs0 Lc a ccd cls outer) base (envX cn cs0 Lc a ccd cls :: outer) g) (X : (KK w).In g) (T : Top VV loose mean mg mb g) (hd : dp + 30 < recursionLimit) (hu : un + 300 < cLine) (os : OsState)
    (m : Str → Option Value) (hm : m (Str.ofString "ways") = some (.ref wyA)) (s : Shared) (F : Fr g L s.heap m) (N : News g L s.heap news0) (hb : AllBare s.gens) (hos : s.os = os) (Q : Value → Shared → Prop) (E : Value → Shared → Prop)
    (hQ : ∀ (D : Addr) (ys : List Value) (s' : Shared), WsAt nr ys (ways.map (·.2)) → @LT.lt Nat _ L D → (∀ p ∈ news0, @LT.lt Nat _ p.1 D) → 
      Fr g L s'.heap m → News g L s'.heap ((D, lst ys) :: news0) → AllBare s'.gens → s'.os = os → Q (.ref D) s') :
    wpAny (model PP w) ((ktrTop dp un gd cn cs0 Lc a ccd cls outer).deeper (wyEnv L)) (eval wyE3 (wyEnv L)) Q E s := by
  generalize hb1 : wyE3 = st
  conv at hb1 => { lhs; whnf }
  subst hb1
  have hlen := hw.length
  refine comp_eval os news0 (fun ys tus => tus = [] ∧ WsAt nr ys ((ways.take vs.length).map (·.2))) (m := m) (g := g) (L := L) (by with_unfolding_all rfl) (by decide +kernel) (by rfl) (by decide +kernel) (by intro _; rfl) ?_
  refine wpAny_Name (wpAny_loadName_local rfl rfl F.ns hm ?_) (by decide)
  refine iter_list_K F N hW fun I h' o' hI F' N' hlt => ?_
  refine ⟨_, F', N', (fun p hp => .tail _ hp), fun D C oL h2 tk mC hLD hDC hn0 hoL FC NC => ?_, fun D C ys tus s' hP => ?_⟩
  · have hit : h2.IsListIter I wyA 0 := ⟨o', (NC _ (.tail _ (.tail _ (.head _)))).1, hI.1, hI.2⟩
    refine comp_start_li hit ?_
    refine comp_loop0 (prog := PP) (w := w) (A := (ktrTop dp un gd cn cs0 Lc a ccd cls outer).deeper (wyEnv L)) (g := g) (C := C) (L := L) (D := D) (oL := oL) (os := os) (news0 := news0) (K := fun i ys tus => tus = [] ∧ WsAt nr ys ((ways.take i).map (·.2))) (src_list (l := wyA) (I := I) (items := vs) (c := cW) rfl ?_) (by omega) ?_ hDC hLD (fun p hp => hn0 p (.tail _ hp)) (fun p hp => (N p hp).2.1) ?_ ?_ vs.length 0 [(I, o')] [] mC [] { s with heap := h2, toks := tk } (by omega) (Nat.le_refl _) ⟨o', rfl, hI⟩ ⟨rfl, .nil⟩ (fun _ h => absurd h List.not_mem_nil) FC (cb_drop NC ?_) (by exact hb) (by exact hos)
    · intro i v s Q E hv hit hq
      obtain ⟨i0, hi0, e0⟩ := List.mem_iff_getElem.mp hv
      obtain ⟨t, xa, xb, ins, ws, c, ca, cb, iv, wv, e1, -⟩ := hw.get (i := i0) (v := v) (by rw [← e0]; simp [hi0])
      subst e1
      exact wpAny_letOwnedTupleGo_listiter hit hq
    · intro p hp
      rw [List.mem_singleton.mp hp]
      exact hW
    · rintro i its ⟨o, rfl, ho⟩ q hq
      rw [List.mem_singleton.mp hq]
      exact ⟨hn0 (I, o') (.head _), (N' (I, o') (.head _)).2.1, fun p hp => neN (Nat.ne_of_lt (hlt p hp))⟩
    · intro i v its new tus mC ys s E hi hv hS hK ht hnew hoff F N hb hos
      exact wyTurn3 w L C D I wyA oL news0 nr hsub vs ways hw loose mean mg mb dp un gd cn cs0 Lc a ccd cls outer base g B X T hd hu os hDC hLD i v its new tus mC ys s E hv hS hK F N hb hos
    · intro p hp
      first
        | ((revert p hp); (try dsimp only [List.cons_append, List.nil_append]); (repeat' (first | with_reducible refine List.forall_mem_cons.mpr ⟨?_, ?_⟩ | with_reducible refine List.forall_mem_append.mpr ⟨?_, ?_⟩ | with_reducible exact List.forall_mem_nil _ | (intro _ _; ((repeat (first | with_reducible assumption | with_reducible exact List.mem_cons_self | (with_reducible refine List.mem_append_left _ ?_; (repeat (first | with_reducible exact List.mem_cons_self | with_reducible refine List.mem_cons_of_mem _ ?_ | with_reducible assumption)); done) | with_reducible refine List.mem_append_right _ ?_ | with_reducible refine List.mem_cons_of_mem _ ?_)); done)) | ((repeat (first | with_reducible assumption | with_reducible exact List.mem_cons_self | (with_reducible refine List.mem_append_left _ ?_; (repeat (first | with_reducible exact List.mem_cons_self | with_reducible refine List.mem_cons_of_mem _ ?_ | with_reducible assumption)); done) | with_reducible refine List.mem_append_right _ ?_ | with_reducible refine List.mem_cons_of_mem _ ?_)); done))); done)
        | (simp only [List.cons_append, List.nil_append, List.mem_cons] at hp ⊢; rcases hp with h | h | h | h <;> simp [h])
  · obtain ⟨rfl, hP⟩ := hP
    rw [hlen, List.take_length] at hP
    exact fun h1 h2 h3 h4 h5 h6 h7 => hQ D ys s' hP h1 h2 h4 h5 h6 h7
end Mine
end
section
open PySem PySem.W PyProof.Rows PySem.Calls PySem.Spec PyProof.Rows.LCg
set_option maxRecDepth 100000
namespace Mine
theorem lawEval6 (w : World) (L fa gl : Addr) (gv : List Value) (gc : Nat) (gs : List (Int × Str)) (news0 : List (Addr × Obj)) (hG : GuAt news0 gv gs) (hgl : (gl, W.listOf gv.toArray gc) ∈ news0) (hg8 : gs.length ≤ 8) (hok : ∀ p ∈ gs, WrOk p)
    (loose : List Str) (mean : ExcName → Option Value) (mg mb : Str → Option Value) (g : Heap) (m : Str → Option Value)
    (B : Below callerA g [] g) (X : (KK w).In g) (T : Top VV loose mean mg mb g) (os : OsState) (hm1 : m (Str.ofString "guests") = some (.ref gl)) (s : Shared) (F : Fr g L s.heap m) (N : News g L s.heap news0) (hb : AllBare s.gens) (hos : s.os = os) (Q : Value → Shared → Prop) (E : Value → Shared → Prop) (e9 : PySem.Expr) (he9 : lawE6 = e9)
    (hQ : ∀ (D : Addr) (ys : List Value) (s' : Shared), StrV ys (gs.map fun p => writtenS p.1 p.2) → @LT.lt Nat _ L D → (∀ p ∈ news0, @LT.lt Nat _ p.1 D) → Fr g L s'.heap m → News g L s'.heap ((D, lst ys) :: news0) → AllBare s'.gens → s'.os = os → Q (.ref D) s') :
    wpAny (model PP w) (lawA L fa) (eval e9 (lawEnv L fa)) Q E s := by
  subst he9
  have hvl := hG.length
  generalize hb1 : lawE6 = st
  conv at hb1 => { lhs; whnf }
  subst hb1
  refine compX_eval os (m := m) (g := g) (L := L) (by with_unfolding_all rfl) (by decide +kernel) (by rfl) (by decide +kernel) (by intro _; rfl) ?_
  refine wpAny_Name (wpAny_loadName_local rfl rfl F.ns hm1 ?_) (by decide)
  refine ⟨news0, KB gs gv.length, h_list (items := gv) (c := gc) rfl ?_ hgl (by omega) F N hb hos (KB gs) ⟨rfl, .nil⟩ (boTurn w L fa gv gs news0 hG hok gv.length loose mean mg mb g m B X T os), ?_⟩
  · intro I i v s Q E hv hit hq
    obtain ⟨i0, hi0, e0⟩ := List.mem_iff_getElem.mp hv
    obtain ⟨t, c, r, t1, t2, k, e1, -⟩ := hG.get (i := i0) (v := v) (by rw [← e0]; simp [hi0])
    subst e1
    exact wpAny_letOwnedTupleGo_listiter hit hq
  · rintro D ys tus s' ⟨rfl, hP⟩ hLD hn0 ht2 F3 N3 hb3 ho3
    rw [List.take_of_length_le (by omega)] at hP
    exact hQ D ys s' hP hLD hn0 F3 N3 hb3 ho3
theorem lawEval8 (w : World) (L fa gl : Addr) (gv : List Value) (gc : Nat) (gs : List (Int × Str)) (news0 : List (Addr × Obj)) (hG : GuAt news0 gv gs) (hgl : (gl, W.listOf gv.toArray gc) ∈ news0) (hg8 : gs.length ≤ 8) 
    (loose : List Str) (mean : ExcName → Option Value) (mg mb : Str → Option Value) (g : Heap) (m : Str → Option Value)
    (B : Below callerA g [] g) (X : (KK w).In g) (T : Top VV loose mean mg mb g) (os : OsState) (hm1 : m (Str.ofString "guests") = some (.ref gl)) (s : Shared) (F : Fr g L s.heap m) (N : News g L s.heap news0) (hb : AllBare s.gens) (hos : s.os = os) (Q : Value → Shared → Prop) (E : Value → Shared → Prop) (e9 : PySem.Expr) (he9 : lawE8 = e9)
    (hQ : ∀ (D : Addr) (ys : List Value) (s' : Shared), StrV ys (gs.map (·.2)) → @LT.lt Nat _ L D → (∀ p ∈ news0, @LT.lt Nat _ p.1 D) → Fr g L s'.heap m → News g L s'.heap ((D, lst ys) :: news0) → AllBare s'.gens → s'.os = os → Q (.ref D) s') :
    wpAny (model PP w) (lawA L fa) (eval e9 (lawEnv L fa)) Q E s := by
  subst he9
  have hvl := hG.length
  generalize hb1 : lawE8 = st
  conv at hb1 => { lhs; whnf }
  subst hb1
  refine compX_eval os (m := m) (g := g) (L := L) (by with_unfolding_all rfl) (by decide +kernel) (by rfl) (by decide +kernel) (by intro _; rfl) ?_
  refine wpAny_Name (wpAny_loadName_local rfl rfl F.ns hm1 ?_) (by decide)
  refine ⟨news0, KR gs gv.length, h_list (items := gv) (c := gc) rfl ?_ hgl (by omega) F N hb hos (KR gs) ⟨rfl, .nil⟩ (rpTurn w L fa gv gs news0 hG gv.length loose mean mg mb g m B X T os), ?_⟩
  · intro I i v s Q E hv hit hq
    obtain ⟨i0, hi0, e0⟩ := List.mem_iff_getElem.mp hv
    obtain ⟨t, c, r, t1, t2, k, e1, -⟩ := hG.get (i := i0) (v := v) (by rw [← e0]; simp [hi0])
    subst e1
    exact wpAny_letOwnedTupleGo_listiter hit hq
  · rintro D ys tus s' ⟨rfl, hP⟩ hLD hn0 ht2 F3 N3 hb3 ho3
    rw [List.take_of_length_le (by omega)] at hP
    exact hQ D ys s' hP hLD hn0 F3 N3 hb3 ho3
end Mine
end
theorem Mine.calmLawC : True := by w_top off; first | walk1 | trivial
section
open PySem PySem.W PyProof.Rows PySem.Calls PySem.Spec PyProof.Rows.LCg
set_option maxRecDepth 100000
namespace Mine
local macro_rules | `(tactic| walk_at $s) => Mine.mw s [("ite", Mine.m9k6)]
noncomputable def forS13 (k : Nat) : Stmt := sAt (forBody (lawS 13)) k
noncomputable def lawE13 : PySem.Expr := cmpRight (boolVal (ifTest (forS13 1)))
noncomputable def KT (i : Nat) (ys : List Value) (tus : List (Addr × Obj)) : Prop := tus = [] ∧ ys = List.replicate i (.bool true)
noncomputable def Between (lo mi hi : List Int) : Prop := ∀ (i : Nat) (a b c : Int), lo[i]? = some a → mi[i]? = some b → hi[i]? = some c → a ≤ b ∧ b ≤ c
set_option maxHeartbeats 8000000 in
theorem zoTurn (w : World) (L fa : Addr) (lv rv mv : List Value) (les rws mos : List Int) (h1 : IntsAre lv les) (h2 : IntsAre rv rws) (h3 : IntsAre mv mos) (hbt : Between les rws mos) (news0 : List (Addr × Obj)) (n : Nat)
    (loose : List Str) (mean : ExcName → Option Value) (mg mb : Str → Option Value) (g : Heap) (m : Str → Option Value)
    (B : Below callerA g [] g) (X : (KK w).In g) (T : Top VV loose mean mg mb g) (os : OsState) :
    TurnG PP w (lawA L fa) (lcElt lawE13) (gTarget default (lcGens lawE13)) [] (lcScope default lawE13) (lawEnv L fa) [] g L m os news0 n (VZ3 lv rv mv) KT := by
  intro D C oL its i v new tus mC ys s E hoL hgL hLD hDC hn0 hi hv' hK ht hnew hoff hnL F N hb hos
  dsimp only [PP, KK] at *
  revert X; k_fill; intro X
  obtain ⟨x, y, z, Tz, hx, hy, hz, rfl, rfl⟩ := hv'
  obtain ⟨a, ta, rfl, ha⟩ := ints_atL' h1 hx
  obtain ⟨b, tb, rfl, hb0⟩ := ints_atL' h2 hy
  obtain ⟨c, tc, rfl, hc⟩ := ints_atL' h3 hz
  obtain ⟨q1, q2⟩ := hbt i a b c ha hb0 hc
  obtain ⟨rfl, rfl⟩ := hK
  have hnext : List.replicate (i + 1) (Value.bool true) = List.replicate i (Value.bool true) ++ [.bool true] := List.replicate_succ'
  have q1' : decide (a ≤ b) = true := decide_eq_true q1
  have q2' : decide (b ≤ c) = true := decide_eq_true q2
  dsimp only [lawA, lawEnv] at *
  generalize hb1 : gTarget default (lcGens lawE13) = target
  generalize hb2 : lcElt lawE13 = elt
  generalize hb3 : fdScope lawStmt = scope
  generalize hb4 : lcScope default lawE13 = scope2
  conv at hb1 => { lhs; whnf }
  conv at hb2 => { lhs; whnf }
  conv at hb3 => { lhs; whnf }
  conv at hb4 => { lhs; whnf }
  subst hb1 hb2 hb3 hb4
  obtain ⟨heap', gens', drawn', toks', os'⟩ := s
  simp only [List.nil_append] at N
  have N0 : News g C heap' ((L, oL) :: (Tz, tup3 (.int a ta) (.int b tb) (.int c tc)) :: (D, lst (List.replicate i (.bool true))) :: (its ++ news0)) := cb_drop N (by
    intro p hp
    first
      | ((revert p hp); (repeat' (first | with_reducible refine List.forall_mem_cons.mpr ⟨?_, ?_⟩ | with_reducible refine List.forall_mem_append.mpr ⟨?_, ?_⟩ | with_reducible exact List.forall_mem_nil _ | (intro _ _; ((repeat (first | with_reducible assumption | with_reducible exact List.mem_cons_self | (with_reducible refine List.mem_append_left _ ?_; (repeat (first | with_reducible exact List.mem_cons_self | with_reducible refine List.mem_cons_of_mem _ ?_ | with_reducible assumption)); done) | with_reducible refine List.mem_append_right _ ?_ | with_reducible refine List.mem_cons_of_mem _ ?_)); done)) | ((repeat (first | with_reducible assumption | with_reducible exact List.mem_cons_self | (with_reducible refine List.mem_append_left _ ?_; (repeat (first | with_reducible exact List.mem_cons_self | with_reducible refine List.mem_cons_of_mem _ ?_ | with_reducible assumption)); done) | with_reducible refine List.mem_append_right _ ?_ | with_reducible refine List.mem_cons_of_mem _ ?_)); done))); done)
      | (simp only [List.mem_append, List.mem_cons, List.mem_singleton] at hp ⊢; rcases hp with h | h | h | h | h <;> simp [h]))
  generalize hnr : its ++ news0 = nr at *
  clear N
  k_steps
  (with_reducible rename News _ _ _ _ => N9)
  (with_reducible rename Fr _ _ _ _ => F9)
  subst hnr
  refine teS_mk hoL ⟨rfl, ?_⟩ F9 N9 ?_ hb hos
  · rw [hnext]
    rw [q2']
  · intro p hp
    first
      | ((revert p hp); (repeat' (first | with_reducible refine List.forall_mem_cons.mpr ⟨?_, ?_⟩ | with_reducible refine List.forall_mem_append.mpr ⟨?_, ?_⟩ | with_reducible exact List.forall_mem_nil _ | (intro _ _; ((repeat (first | with_reducible assumption | with_reducible exact List.mem_cons_self | (with_reducible refine List.mem_append_left _ ?_; (repeat (first | with_reducible exact List.mem_cons_self | with_reducible refine List.mem_cons_of_mem _ ?_ | with_reducible assumption)); done) | with_reducible refine List.mem_append_right _ ?_ | with_reducible refine List.mem_cons_of_mem _ ?_)); done)) | ((repeat (first | with_reducible assumption | with_reducible exact List.mem_cons_self | (with_reducible refine List.mem_append_left _ ?_; (repeat (first | with_reducible exact List.mem_cons_self | with_reducible refine List.mem_cons_of_mem _ ?_ | with_reducible assumption)); done) | with_reducible refine List.mem_append_right _ ?_ | with_reducible refine List.mem_cons_of_mem _ ?_)); done))); done)
      | (simp only [List.mem_append, List.mem_cons] at hp ⊢; rcases hp with h | h | h | h <;> simp [h])
end Mine
end
theorem Mine.calmLawC2 : True := by w_top off; first | walk1 | trivial
section
open PySem PySem.W PyProof.Rows PySem.Calls PySem.Spec PyProof.Rows.LCg
set_option maxRecDepth 100000
namespace Mine
local macro_rules | `(tactic| walk_at $s) => Mine.mw s [("call type:zip", Mine.m9e23)]
theorem lawEval13 (w : World) (L fa le ro mo : Addr) (lv rv mv : List Value) (c1 c2 c3 : Nat) (les rws mos : List Int) (h1 : IntsAre lv les) (h2 : IntsAre rv rws) (h3 : IntsAre mv mos) (n : Nat) (hn : n ≤ 8) (e1 : les.length = n) (e2 : rws.length = n) (e3 : mos.length = n) (hbt : Between les rws mos)
    (news0 : List (Addr × Obj)) (hle : (le, W.listOf lv.toArray c1) ∈ news0) (hro : (ro, W.listOf rv.toArray c2) ∈ news0) (hmo : (mo, W.listOf mv.toArray c3) ∈ news0)
    (loose : List Str) (mean : ExcName → Option Value) (mg mb : Str → Option Value) (g : Heap) (m : Str → Option Value)
    (B : Below callerA g [] g) (X : (KK w).In g) (T : Top VV loose mean mg mb g) (os : OsState) (hm1 : m (Str.ofString "least") = some (.ref le)) (hm2 : m (Str.ofString "row") = some (.ref ro)) (hm3 : m (Str.ofString "most") = some (.ref mo)) (s : Shared) (F : Fr g L s.heap m) (N : News g L s.heap news0) (hb : AllBare s.gens) (hos : s.os = os) (Q : Value → Shared → Prop) (E : Value → Shared → Prop) (e9 : PySem.Expr) (he9 : lawE13 = e9)
    (hQ : ∀ (D : Addr) (s' : Shared), @LT.lt Nat _ L D → (∀ p ∈ news0, @LT.lt Nat _ p.1 D) → Fr g L s'.heap m → News g L s'.heap ((D, lst (List.replicate n (.bool true))) :: news0) → AllBare s'.gens → s'.os = os → Q (.ref D) s') :
    wpAny (model PP w) (lawA L fa) (eval e9 (lawEnv L fa)) Q E s := by
  have X0 := X
  dsimp only [PP, KK] at *
  revert X; k_fill; intro X
  subst he9
  have em : ∀ y, m y = (fun y => if y = Str.ofString "least" then some (Value.ref le) else if y = Str.ofString "row" then some (Value.ref ro) else if y = Str.ofString "most" then some (Value.ref mo) else m y) y := fun y => by
    by_cases q : y = Str.ofString "least"
    · simp only [if_pos q]; rw [q, hm1]
    by_cases q2 : y = Str.ofString "row"
    · simp only [if_neg q, if_pos q2]; rw [q2, hm2]
    by_cases q3 : y = Str.ofString "most"
    · simp only [if_neg q, if_neg q2, if_pos q3]; rw [q3, hm3]
    · simp only [if_neg q, if_neg q2, if_neg q3]
  have F1 := fr_cast F em
  clear F
  generalize hb1 : lawE13 = st
  conv at hb1 => { lhs; whnf }
  subst hb1
  refine compX_eval os (m := fun y => if y = Str.ofString "least" then some (Value.ref le) else if y = Str.ofString "row" then some (Value.ref ro) else if y = Str.ofString "most" then some (Value.ref mo) else m y) (g := g) (L := L) (by with_unfolding_all rfl) (by decide +kernel) (by rfl) (by decide +kernel) (by intro _; rfl) ?_
  obtain ⟨heap', gens', drawn', toks', os'⟩ := s
  dsimp only [lawA, lawEnv] at *
  generalize hb3 : fdScope lawStmt = scope
  conv at hb3 => { lhs; whnf }
  subst hb3
  k_steps
  refine Halt.mk (zip3_list_K F1 N hle hro hmo ?_)
  intro z its h9 b1 b2 b3 hS F2 N2 hLz hlt2
  refine ⟨news0, KT n, h_zip3 rfl b1 b2 b3 hS ((IntsAre_len h1).trans e1) ((IntsAre_len h2).trans e2) ((IntsAre_len h3).trans e3) hle hro hmo hLz hlt2 (by omega) F2 N2 (by exact hb) (by exact hos) KT ⟨rfl, rfl⟩ (zoTurn w L fa lv rv mv les rws mos h1 h2 h3 hbt news0 n loose mean mg mb g _ B X0 T os), ?_⟩
  rintro D ys tus s' ⟨rfl, rfl⟩ hLD hn0 ht2 F3 N3 hb3 ho3
  exact hQ D s' hLD hn0 (fr_cast F3 fun y => (em y).symm) N3 hb3 ho3
end Mine
end
theorem Mine.calmLawD : True := by w_top off; first | walk1 | trivial
section
open PySem PySem.W PyProof.Rows PySem.Calls PySem.Spec PyProof.Rows.LCg
set_option maxRecDepth 100000
namespace Mine
def m9e79 : Lean.MacroM (Lean.TSyntax `tactic) := Mine.t9rf "Halt.mk ?_" []
def m9k45 : Lean.MacroM (Lean.TSyntax `tactic) := Mine.t9repp (Mine.t9first [Mine.t9seq [Mine.m9e2, Mine.t9try (Mine.m9e3)], Mine.t9seq [Mine.m9e4, Mine.m9e5], Mine.t9seq [Mine.m9e6, Mine.t9all (Mine.t9try (Mine.t9seq [Mine.t9fis (Mine.t9red (Mine.m9e7)), Mine.t9fis (Mine.t9red (Mine.m9e79)), Mine.m9e3]))], Mine.t9seq [Mine.m9e3, Mine.m9e6], Mine.t9seq [Mine.m9e8, Mine.t9try (Mine.m9e3)], Mine.m9l0])
local macro_rules | `(tactic| k_steps) => Mine.m9k45
local macro_rules | `(tactic| walk_at $s) => Mine.mw s [("subscriptTail Name Slice ref ref", Mine.m9e23), ("pyIter ref", Mine.m9e23)]
noncomputable def mod6 (c : Int) : Int := c.fmod 1000000
noncomputable def KD (ns : List Int) (i : Nat) (ys : List Value) (tus : List (Addr × Obj)) : Prop := tus = [] ∧ IntsAre ys ((ns.take i).map mod6)
theorem teD_mk {g : Heap} {C L D : Addr} {oL : Obj} {m : Str → Option Value} {os : OsState} {its news0 : List (Addr × Obj)} {ns : List Int} {i : Nat} {ys : List Value} {n v : Int} {t : Tok} {mC : Str → Option Value} {s : Shared} (hoL : NsObj oL m) (hi : ns[i]? = some n) (hK : KD ns i ys []) (e : v = mod6 n) (F : Fr g C s.heap mC) (N : News g C s.heap (its ++ ((L, oL) :: (D, lst ys) :: news0))) (hb : AllBare s.gens) (hos : s.os = os) :
    TEX g C L D m (lst ys) os news0 its (KD ns (i + 1) (ys ++ [.int v t])) s := by
  subst e
  refine ⟨oL, _, [], hoL, ⟨rfl, ?_⟩, (fun _ h => absurd h List.not_mem_nil), F, N, hb, hos⟩
  rw [List.take_succ, hi, List.map_append]
  exact ints_appD hK.2 (.cons _ _ .nil)
where
  ints_appD {a b : List Value} {x y : List Int} (h : IntsAre a x) (k : IntsAre b y) : IntsAre (a ++ b) (x ++ y) := by
    induction h with
    | nil => exact k
    | cons n t _ ih => exact .cons n t ih
theorem ints_atD {vs : List Value} {ns : List Int} (h : IntsAre vs ns) : ∀ {i : Nat} {v : Value}, vs[i]? = some v → ∃ n t, v = .int n t ∧ ns[i]? = some n := by
  induction h with
  | nil => intro i v hv; simp at hv
  | cons n t _ ih =>
    intro i v hv
    cases i with
    | zero => simp at hv; exact ⟨n, t, hv.symm, by simp⟩
    | succ i => exact ih (by simpa using hv)
set_option maxHeartbeats 8000000 in
theorem drTurn (w : World) (L fa : Addr) (vs : List Value) (ns : List Int) (hI : IntsAre vs ns) (news0 : List (Addr × Obj))
    (loose : List Str) (mean : ExcName → Option Value) (mg mb : Str → Option Value) (g : Heap) (m : Str → Option Value)
    (B : Below callerA g [] g) (X : (KK w).In g) (T : Top VV loose mean mg mb g) (os : OsState) :
    TurnG PP w (lawA L fa) (lcElt (asVal (lawS 0))) (gTarget default (lcGens (asVal (lawS 0)))) [] (lcScope default (asVal (lawS 0))) (lawEnv L fa) [] g L m os news0 vs.length (VL vs) (KD ns) := by
  intro D C oL its i v new tus mC ys s E hoL hgL hLD hDC hn0 hi hv hK ht hnew hoff hnL F N hb hos
  dsimp only [PP, KK] at *
  revert X; k_fill; intro X
  obtain ⟨hvi, rfl⟩ := hv
  obtain ⟨n, t, rfl, hni⟩ := ints_atD hI hvi
  obtain ⟨rfl, hK'⟩ := id hK
  dsimp only [lawA, lawEnv] at *
  generalize hb1 : gTarget default (lcGens (asVal (lawS 0))) = target
  generalize hb2 : lcElt (asVal (lawS 0)) = elt
  generalize hb3 : fdScope lawStmt = scope
  generalize hb4 : lcScope default (asVal (lawS 0)) = scope2
  conv at hb1 => { lhs; whnf }
  conv at hb2 => { lhs; whnf }
  conv at hb3 => { lhs; whnf }
  conv at hb4 => { lhs; whnf }
  subst hb1 hb2 hb3 hb4
  obtain ⟨heap', gens', drawn', toks', os'⟩ := s
  simp only [List.nil_append] at N
  k_steps
  (with_reducible rename News _ _ _ _ => N9)
  (with_reducible rename Fr _ _ _ _ => F9)
  exact teD_mk hoL hni hK rfl F9 N9 hb hos
theorem lawDrawn (w : World) (L fa sc : Addr) (vs : List Value) (ns : List Int) (hI : IntsAre vs ns) (hlen : ns.length ≤ 63) (news0 : List (Addr × Obj))
    (loose : List Str) (mean : ExcName → Option Value) (mg mb : Str → Option Value) (g : Heap) (m : Str → Option Value) (hsc : g.IsList sc vs.toArray)
    (B : Below callerA g [] g) (X : (KK w).In g) (T : Top VV loose mean mg mb g) (os : OsState) (hm : m (Str.ofString "script") = some (.ref sc)) (s : Shared) (F : Fr g L s.heap m) (N : News g L s.heap news0) (hb : AllBare s.gens) (hos : s.os = os) (Q : Flow → Shared → Prop) (E : Value → Shared → Prop)
    (hQ : ∀ (D D0 : Addr) (us ys : List Value) (s' : Shared), IntsAre ys ((ns.take 8).map mod6) → @LT.lt Nat _ L D → (∀ p ∈ news0, @LT.lt Nat _ p.1 D0) → @LT.lt Nat _ D0 D → 
      Fr g L s'.heap (fun z => if z = Str.ofString "drawn" then some (.ref D) else m z) → News g L s'.heap ((D, lst ys) :: (D0, W.listOf us.toArray 0) :: news0) → AllBare s'.gens → s'.os = os → Q .next s') :
    wpAny (model PP w) (lawA L fa) (exec (lawS 0) (lawEnv L fa)) Q E s := by
  have l9 : Mine.Lead9 := trivial
  have l0 : Mine.Lead0 := trivial
  revert hI hlen hsc B X T hm F N hb hos hQ
  revert w L fa sc vs ns news0 loose mean mg mb g m os s Q E
  intro w L fa sc vs ns news0 loose mean mg mb g m os s Q E
  intros hI hlen hsc B X T hm F N hb hos hQ
  rename Mine.Lead0 => l0; clear l0
  dsimp only [PP, KK] at *
  revert X; k_fill; intro X
  generalize hb1 : lawS 0 = st
  conv at hb1 => { lhs; whnf }
  subst hb1
  have F0 := F
  have hl : s.heap.IsList sc vs.toArray := by obtain ⟨o, e, r⟩ := hsc; exact ⟨o, F.keep _ _ e, r⟩
  have hln := IntsAre.length hI
  have hz : vs.toArray.size ≤ sizeLine := Nat.le_trans (show vs.toArray.size ≤ 1000 by rw [List.size_toArray]; omega) (by decide)
  have ht : (vs.take 8).toArray = slicePick vs.toArray none (some 8) none := by
    have e : sliceBounds none (some 8) none vs.toArray.size = (((0 : Nat) : Int), ((min 8 vs.toArray.size : Nat) : Int), 1) := by
      simp only [sliceBounds, Option.getD_none, show (1 : Int) > 0 by decide, if_true, if_neg (show ¬ ((8 : Int) < 0) by decide)]
      congr 1
      congr 1
      exact clip_nat (x := 8) (by decide) _
    rw [kmk_pick_nat _ e, List.size_toArray]
    show _ = (((vs.drop 0).take (min 8 vs.length - 0))).toArray
    rw [List.drop_zero, Nat.sub_zero, kmk_take_min]
  have em : ∀ y, m y = (fun y => if y = Str.ofString "script" then some (Value.ref sc) else m y) y := fun y => by
    by_cases q : y = Str.ofString "script"
    · simp only [if_pos q]; rw [q, hm]
    · simp only [if_neg q]
  have F1 := fr_cast F em
  clear F F0
  refine compX_assign os (m := fun y => if y = Str.ofString "script" then some (Value.ref sc) else m y) (g := g) (L := L) rfl (by with_unfolding_all rfl) (by with_unfolding_all rfl) (by decide +kernel) (by rfl) (by decide +kernel) (by rfl) (by rfl) (by intro _; rfl) ?_
  obtain ⟨heap', gens', drawn', toks', os'⟩ := s
  dsimp only [lawA, lawEnv] at *
  generalize hb3 : fdScope lawStmt = scope
  have hb3' := hb3
  conv at hb3 => { lhs; whnf }
  subst hb3
  k_steps
  refine Halt.mk (kmk_slice (by k_asm) N hl IsPart.none (IsPart.int _ _) ?_ (by with_unfolding_all rfl) (by kmk_pure) hz)
  intro D0 h2 F2 N2 hlt2
  rw [← ht] at N2
  refine ⟨(D0, W.listOf (vs.take 8).toArray 0) :: news0, KD (ns.take 8) (vs.take 8).length, h_list (items := vs.take 8) (c := 0) rfl (fun I i v s Q E _ _ hq => wpAny_of_eq (by rfl) hq) (.head _) (by rw [List.length_take]; omega) F2 N2 (by exact hb) (by exact hos) (KD (ns.take 8)) ⟨rfl, .nil⟩ ?_, ?_⟩
  · have := drTurn w L fa (vs.take 8) (ns.take 8) (hI.take 8) ((D0, W.listOf (vs.take 8).toArray 0) :: news0) loose mean mg mb g (fun y => if y = Str.ofString "script" then some (Value.ref sc) else m y) B X T os
    exact this
  · intro D ys tus s' hP hLD hn0 ht2 F3 N3 hb3 ho3
    obtain ⟨rfl, hP⟩ := hP
    rw [List.take_of_length_le (show (ns.take 8).length ≤ (vs.take 8).length by simp only [List.length_take]; omega)] at hP
    refine hQ D D0 (vs.take 8) ys s' hP hLD hlt2 (hn0 _ (.head _)) (fr_cast F3 fun y => ?_) N3 hb3 ho3
    by_cases q : y = Str.ofString "drawn"
    · simp only [if_pos q]
    · simp only [if_neg q]
      exact (em y).symm
end Mine
end
theorem Mine.calmLaw1 : True := by w_top off; first | walk1 | trivial
section
open PySem PySem.W PyProof.Rows PySem.Calls PySem.Spec PyProof.Rows.LCg
set_option maxRecDepth 100000
namespace Mine
def m9e80 : Lean.MacroM (Lean.TSyntax `tactic) := Mine.t9ex "List.Mem.head _" []
def m9e81 : Lean.MacroM (Lean.TSyntax `tactic) := Mine.t9ex "News.isList ( ^items ( List.toArray ( List.cons _ ( List.cons _ ( List.cons _ ( List.cons _ ( List.cons _ ( List.cons _ ( List.cons _ ( List.cons _ List.nil ) ) ) ) ) ) ) ) ) ) %0 %1" [(Mine.m9e13), (Mine.m9e80)]
def m9e82 : Lean.MacroM (Lean.TSyntax `tactic) := Mine.t9kw "PySem.W.tacticL_ints l_ints"
def m9e83 : Lean.MacroM (Lean.TSyntax `tactic) := Mine.t9ex "kmk_from %0 %1" [(Mine.m9e82), (Mine.m9l4)]
def m9e84 : Lean.MacroM (Lean.TSyntax `tactic) := Mine.t9ex "Nat.le_trans ( Mine.sh9 ( LE.le 8 1000 ) %0 ) %1" [(Mine.m9l9), (Mine.m9l9)]
def m9k46 : Lean.MacroM (Lean.TSyntax `tactic) := Mine.t9seq [Mine.m9e57, Mine.t9red (Mine.m9e73), Mine.t9dflt (Mine.t9seq [Mine.t9ref "kmk_slice_ints" "F N l p q i m c _ s t z", Mine.t9case "F" (Mine.m9e13), Mine.t9case "N" (Mine.m9e13), Mine.t9case "l" (Mine.m9e81), Mine.t9case "p" (Mine.m9e75), Mine.t9case "q" (Mine.m9e75), Mine.t9case "i" (Mine.m9e82), Mine.t9case "m" (Mine.m9e83), Mine.t9case "c" (Mine.m9e47), Mine.t9case "s" (Mine.t9unf (Mine.m9l8)), Mine.t9case "t" (Mine.m9e42), Mine.t9case "z" (Mine.m9e84)]), Mine.t9intro "D' ws' h' F' N' l1 hI' hC' hL'", Mine.t9try (Mine.m9e27), Mine.t9try (Mine.m9e28)]
def m9e85 : Lean.MacroM (Lean.TSyntax `tactic) := Mine.t9sh "wpAny _ _ ( execs ( List.cons ( Stmt.Assign ( List.cons ( PySem.Expr.Name ( Str.ofString $guests$ ) _ ) List.nil ) _ _ ) _ ) _ ) _ _ _" []
def m9k47 : Lean.MacroM (Lean.TSyntax `tactic) := Mine.t9seq [Mine.t9red (Mine.m9e85), Mine.m9e23]
local macro_rules | `(tactic| k_steps) => Mine.m9k45
local macro_rules | `(tactic| walk_at $s) => Mine.mw s [("exec Assign cons ListComp", Mine.m9e23), ("eval ListComp", Mine.m9e23), ("subscriptTail", Mine.m9e23), ("subscriptTail Name Slice ref ref", Mine.m9k46), ("call builtin:len", Mine.m9e23), ("call ref", Mine.m9e23), ("call type:zip", Mine.m9e23), ("execs cons", Mine.m9k47)]
noncomputable def dflt8 : List Int := [324, 2328, 1281, 820, 3442, 7, 2561, 11]
noncomputable def cellsL (ns : List Int) : List Int := (ns.take 8).map mod6 ++ dflt8.drop (min 8 ns.length)
theorem cellsL_len (ns : List Int) : (cellsL ns).length = 8 := by
  unfold cellsL
  rw [List.length_append, List.length_map, List.length_take, List.length_drop, show dflt8.length = 8 from rfl]
  omega
theorem cellsL_ok (ns : List Int) : ∀ c ∈ cellsL ns, 0 ≤ c ∧ c < 1000000 := by
  intro c hc
  rcases List.mem_append.mp hc with hc | hc
  · obtain ⟨x, -, rfl⟩ := List.mem_map.mp hc
    unfold mod6
    rw [Int.fmod_eq_emod_of_nonneg _ (by decide)]
    exact ⟨Int.emod_nonneg _ (by decide), Int.emod_lt_of_pos _ (by decide)⟩
  · exact (show ∀ c ∈ dflt8, 0 ≤ c ∧ c < 1000000 by decide) c (List.mem_of_mem_drop hc)
noncomputable abbrev lawMap (sc dr ca hl : Addr) : Str → Option Value := fun y =>
  if y = Str.ofString "hours" then some (.ref hl) else if y = Str.ofString "cells" then some (.ref ca) else if y = Str.ofString "drawn" then some (.ref dr) else if y = Str.ofString "script" then some (.ref sc) else none
noncomputable abbrev lawNews (L : Addr) (oc1 oc2 : Obj) (tab : List (Addr × Obj)) (nr : List (Addr × Obj)) : List (Addr × Obj) := (L + 1, oc1) :: (L + 1 + 1, oc2) :: (tab ++ nr)
theorem law1_cont {w : World} {L fa sc : Addr} {ns : List Int} {oc1 oc2 : Obj} {g : Heap} {os : OsState} {Q : Flow → Shared → Prop} {E : Value → Shared → Prop} {dr ca hl D0 l1 l2 : Addr} {o0 o1 o2 o3 : Obj} {cv hv : List Value} {n1 n2 : Nat} {tus : List (Addr × Obj)} {m : Str → Option Value} {s : Shared}
    (hcont : ∀ (dr ca hl : Addr) (cv hv : List Value) (n1 n2 : Nat) (nr : List (Addr × Obj)) (m : Str → Option Value) (s : Shared), (∀ y, m y = lawMap sc dr ca hl y) → IntsAre cv (cellsL ns) → (ca, W.listOf cv.toArray n1) ∈ nr → (hl, W.listOf hv.toArray n2) ∈ nr → HrAt nr hv (hoursL 0 4 0 (cellsL ns)) → (∀ p ∈ nr, @LT.lt Nat _ (L + 1 + 1) p.1) →
      Fr g L s.heap m → News g L s.heap (lawNews L oc1 oc2 [(123, tabObj #[])] nr) → AllBare s.gens → s.os = os → wpAny (model PP w) (lawA L fa) (execs (lawTail 3) (lawEnv L fa)) Q E s)
    (hm : ∀ y, m y = lawMap sc dr ca hl y) (hcv : IntsAre cv (cellsL ns)) (hH : HrAt tus hv (hoursL 0 4 0 (cellsL ns))) (hlt1 : ∀ p ∈ tus, @LT.lt Nat _ hl p.1)
    (F : Fr g L s.heap m) (N : News g L s.heap ((hl, W.listOf hv.toArray n2) :: (tus ++ [(ca, W.listOf cv.toArray n1), (l2, o2), (l1, o1), (dr, o3), (D0, o0), (L + 1 + 1, oc2), (L + 1, oc1), (123, tabObj #[])])))
    (q0 : @LT.lt Nat _ (L + 1 + 1) D0) (q1 : @LT.lt Nat _ D0 dr) (q2 : @LT.lt Nat _ dr l1) (q3 : @LT.lt Nat _ dr l2) (q4 : @LT.lt Nat _ dr ca) (q5 : @LT.lt Nat _ ca hl) (hb : AllBare s.gens) (hos : s.os = os) :
    wpAny (model PP w) (lawA L fa) (execs (lawTail 3) (lawEnv L fa)) Q E s := by
  refine hcont dr ca hl cv hv n1 n2 ((hl, W.listOf hv.toArray n2) :: (tus ++ [(ca, W.listOf cv.toArray n1), (l2, o2), (l1, o1), (dr, o3), (D0, o0)])) m s hm hcv (.tail _ (List.mem_append_right _ (.head _))) (.head _) (hH.mono fun p hp => .tail _ (List.mem_append_left _ hp)) ?_ F (cb_drop N ?_) hb hos
  · refine List.forall_mem_cons.mpr ⟨Nat.lt_trans q0 (Nat.lt_trans q1 (Nat.lt_trans q4 q5)), fun p hp => ?_⟩
    rcases List.mem_append.mp hp with hp | hp
    · exact Nat.lt_trans (Nat.lt_trans q0 (Nat.lt_trans q1 (Nat.lt_trans q4 q5))) (hlt1 p hp)
    · simp only [List.mem_cons, List.mem_nil_iff, or_false] at hp
      rcases hp with h | h | h | h | h <;> subst h
      · exact Nat.lt_trans q0 (Nat.lt_trans q1 q4)
      · exact Nat.lt_trans q0 (Nat.lt_trans q1 q3)
      · exact Nat.lt_trans q0 (Nat.lt_trans q1 q2)
      · exact Nat.lt_trans q0 q1
      · exact q0
  · intro p hp
    first
      | ((revert p hp); (try dsimp only [lawNews, List.cons_append, List.nil_append]); (repeat' (first | with_reducible refine List.forall_mem_cons.mpr ⟨?_, ?_⟩ | with_reducible refine List.forall_mem_append.mpr ⟨?_, ?_⟩ | with_reducible exact List.forall_mem_nil _ | (intro _ _; ((repeat (first | with_reducible assumption | with_reducible exact List.mem_cons_self | (with_reducible refine List.mem_append_left _ ?_; (repeat (first | with_reducible exact List.mem_cons_self | with_reducible refine List.mem_cons_of_mem _ ?_ | with_reducible assumption)); done) | with_reducible refine List.mem_append_right _ ?_ | with_reducible refine List.mem_cons_of_mem _ ?_)); done)) | ((repeat (first | with_reducible assumption | with_reducible exact List.mem_cons_self | (with_reducible refine List.mem_append_left _ ?_; (repeat (first | with_reducible exact List.mem_cons_self | with_reducible refine List.mem_cons_of_mem _ ?_ | with_reducible assumption)); done) | with_reducible refine List.mem_append_right _ ?_ | with_reducible refine List.mem_cons_of_mem _ ?_)); done))); done)
      | (simp only [lawNews, List.cons_append, List.nil_append, List.mem_append, List.mem_cons, List.mem_nil_iff, or_false] at hp ⊢; rcases hp with h | h | h | h | h | h | h | h | h | h <;> simp [h])
set_option maxHeartbeats 16000000 in
theorem law1 (w : World) (L fa sc : Addr) (vs : List Value) (ns : List Int) (hI : IntsAre vs ns) (hlen : ns.length ≤ 63) (oc1 oc2 : Obj) (vc1 vc2 : Option Value) (hc1 : oc1.data = .cell vc1) (hc2 : oc2.data = .cell vc2)
    (loose : List Str) (mean : ExcName → Option Value) (mg mb : Str → Option Value) (g : Heap) (hsc : g.IsList sc vs.toArray) (h123 : @LT.lt Nat _ 123 L)
    (B : Below callerA g [] g) (X : (KK w).In g) (T : Top VV loose mean mg mb g) (os : OsState) (m : Str → Option Value) (hm : ∀ y, m y = if y = Str.ofString "script" then some (.ref sc) else none) (s : Shared) (F : Fr g L s.heap m) (N : News g L s.heap [(L + 1 + 1, oc2), (L + 1, oc1), (123, tabObj #[])]) (hb : AllBare s.gens) (hos : s.os = os) (Q : Flow → Shared → Prop) (E : Value → Shared → Prop)
    (hcont : ∀ (dr ca hl : Addr) (cv hv : List Value) (n1 n2 : Nat) (nr : List (Addr × Obj)) (m : Str → Option Value) (s : Shared), (∀ y, m y = lawMap sc dr ca hl y) → IntsAre cv (cellsL ns) → (ca, W.listOf cv.toArray n1) ∈ nr → (hl, W.listOf hv.toArray n2) ∈ nr → HrAt nr hv (hoursL 0 4 0 (cellsL ns)) → (∀ p ∈ nr, @LT.lt Nat _ (L + 1 + 1) p.1) →
      Fr g L s.heap m → News g L s.heap (lawNews L oc1 oc2 [(123, tabObj #[])] nr) → AllBare s.gens → s.os = os → wpAny (model PP w) (lawA L fa) (execs (lawTail 3) (lawEnv L fa)) Q E s) :
    wpAny (model PP w) (lawA L fa) (execs (lawTail 0) (lawEnv L fa)) Q E s := by
  have l9 : Mine.Lead9 := trivial
  have l0 : Mine.Lead0 := trivial
  revert hI hlen hc1 hc2 hsc h123 B X T hm F N hb hos hcont
  revert w L fa sc vs ns oc1 oc2 vc1 vc2 loose mean mg mb g os m s Q E
  intro w L fa sc vs ns oc1 oc2 vc1 vc2 loose mean mg mb g os m s Q E
  intros hI hlen hc1 hc2 hsc h123 B X T hm F N hb hos hcont
  rename Mine.Lead0 => l0; clear l0
  dsimp only [PP, KK] at *
  revert X; k_fill; intro X
  have F0 := fr_cast F hm
  clear F hm
  dsimp only [lawA, lawEnv, lawTail] at *
  generalize hb1 : (fdBody lawStmt).drop 0 = body
  generalize hb3 : fdScope lawStmt = scope
  conv at hb1 => { lhs; whnf }
  conv at hb3 => { lhs; whnf }
  subst hb1 hb3
  obtain ⟨heap', gens', drawn', toks', os'⟩ := s
  k_steps
  refine Halt.mk (lawDrawn w L fa sc vs ns hI hlen _ loose mean mg mb g _ hsc B X T os rfl _ F0 N (by exact hb) (by exact hos) _ _ ?_)
  intro D D0 us ys s2 hys hLD hD0 hDD F2 N2 hb2 ho2
  obtain ⟨heap2, gens2, drawn2, toks2, os2⟩ := s2
  (try dsimp only)
  k_steps
  (with_reducible rename News _ _ _ _ => N9)
  have hyl := IntsAre.length hys
  rw [List.length_map, List.length_take] at hyl
  refine Halt.mk (call_len_list (items := ys.toArray) (N9.isList (n := ys.length) (.tail _ (.head _))) (by rw [List.size_toArray]; omega) ?_)
  (try dsimp only)
  k_steps
  refine Halt.mk ?_
  walk_at "last subscriptTail"
  k_steps
  (with_reducible rename News _ _ _ _ => N10)
  (with_reducible rename Fr _ _ _ _ => F10)
  (with_reducible rename IntsAre _ (_ ++ _) => hcv)
  have ecl : (ns.take 8).map mod6 ++ ([324, 2328, 1281, 820, 3442, 7, 2561, 11] : List Int).drop ((ys.toArray.size : Nat) : Int).toNat = cellsL ns := by
    unfold cellsL
    rw [Int.toNat_natCast, List.size_toArray, hyl]
    rfl
  rw [ecl] at hcv
  refine Halt.mk (law_call (c_hours w _ _ 0 (cellsL ns) _) B F10 X N10 T ⟨.head _, hcv, by rw [cellsL_len]; exact Nat.le_refl _, cellsL_ok ns⟩ (by decide) (by exact hb2) ?_)
  rintro v news' s3 ⟨hl, hv, n1, tus, rfl, hH, hlt1, hlt2, rfl⟩ F11 N11 hb3 ho3
  obtain ⟨heap3, gens3, drawn3, toks3, os3⟩ := s3
  (try dsimp only)
  k_steps
  (with_reducible rename News _ _ _ _ => N12)
  (with_reducible rename Fr _ _ _ _ => F12)
  refine Halt.mk (law1_cont hcont ?_ hcv hH hlt1 F12 N12 (hD0 _ (.head _)) hDD ?_ ?_ ?_ (hlt2 _ (.head _)) hb3 (ho3.trans ho2))
  · intro y
    by_cases h1 : y = Str.ofString "hours"; (focus (subst h1; rfl)); by_cases h2 : y = Str.ofString "cells"; (focus (subst h2; rfl)); by_cases h3 : y = Str.ofString "drawn"; (focus (subst h3; rfl)); by_cases h4 : y = Str.ofString "script"; (focus (subst h4; rfl))
    simp only [lawMap, if_neg h1, if_neg h2, if_neg h3, if_neg h4]
  all_goals (repeat ((with_reducible rename _ ∧ _ => hc); obtain ⟨_, _⟩ := hc))
  all_goals assumption
end Mine
end
theorem Mine.calmLawG2 : True := by w_top off; first | walk1 | trivial
section
open PySem PySem.W PyProof.Rows PySem.Calls PySem.Spec PyProof.Rows.LCg
set_option maxRecDepth 100000
namespace Mine
local macro_rules | `(tactic| walk_at $s) => Mine.mw s [("call type:zip", Mine.m9e23)]
theorem lawGuests (w : World) (L fa ca hl : Addr) (cv hv : List Value) (c1 c2 : Nat) (cells : List Int) (hs : List (Bool × Int)) (hI : IntsAre cv cells) (hl1 : cells.length = 8) (hl2 : hs.length = 8) (news0 : List (Addr × Obj)) (hH : HrAt news0 hv hs) (hca : (ca, W.listOf cv.toArray c1) ∈ news0) (hhl : (hl, W.listOf hv.toArray c2) ∈ news0) (hc : ∀ c ∈ cells, 0 ≤ c ∧ c < 1000000) (hh : ∀ h ∈ hs, 1 ≤ h.2 ∧ h.2 ≤ 320)
    (loose : List Str) (mean : ExcName → Option Value) (mg mb : Str → Option Value) (g : Heap) (m : Str → Option Value)
    (B : Below callerA g [] g) (X : (KK w).In g) (T : Top VV loose mean mg mb g) (os : OsState) (hm1 : m (Str.ofString "cells") = some (.ref ca)) (hm2 : m (Str.ofString "hours") = some (.ref hl)) (s : Shared) (F : Fr g L s.heap m) (N : News g L s.heap news0) (hb : AllBare s.gens) (hos : s.os = os) (Q : Flow → Shared → Prop) (E : Value → Shared → Prop)
    (hQ : ∀ (D : Addr) (ys : List Value) (tus : List (Addr × Obj)) (s' : Shared), GuAt (tus ++ news0) ys ((cells.zip hs).filterMap guest) → @LT.lt Nat _ L D → (∀ p ∈ news0, @LT.lt Nat _ p.1 D) → (∀ p ∈ tus, @LT.lt Nat _ D p.1) →
      Fr g L s'.heap (fun z => if z = Str.ofString "guests" then some (.ref D) else m z) → News g L s'.heap ((D, lst ys) :: (tus ++ news0)) → AllBare s'.gens → s'.os = os → Q .next s') :
    wpAny (model PP w) (lawA L fa) (exec (lawS 3) (lawEnv L fa)) Q E s := by
  have X0 := X
  dsimp only [PP, KK] at *
  revert X; k_fill; intro X
  have hvl : hv.length = 8 := hH.length.trans hl2
  have hcvl : cv.length = 8 := (IntsAre_len hI).trans hl1
  have em : ∀ y, m y = (fun y => if y = Str.ofString "cells" then some (Value.ref ca) else if y = Str.ofString "hours" then some (Value.ref hl) else m y) y := fun y => by
    by_cases q : y = Str.ofString "cells"
    · simp only [if_pos q]; rw [q, hm1]
    by_cases q2 : y = Str.ofString "hours"
    · simp only [if_neg q, if_pos q2]; rw [q2, hm2]
    · simp only [if_neg q, if_neg q2]
  have F1 := fr_cast F em
  clear F
  generalize hb1 : lawS 3 = st
  conv at hb1 => { lhs; whnf }
  subst hb1
  refine compX_assign os (m := fun y => if y = Str.ofString "cells" then some (Value.ref ca) else if y = Str.ofString "hours" then some (Value.ref hl) else m y) (g := g) (L := L) rfl (by with_unfolding_all rfl) (by with_unfolding_all rfl) (by decide +kernel) (by rfl) (by decide +kernel) (by rfl) (by rfl) (by intro _; rfl) ?_
  obtain ⟨heap', gens', drawn', toks', os'⟩ := s
  dsimp only [lawA, lawEnv] at *
  generalize hb3 : fdScope lawStmt = scope
  conv at hb3 => { lhs; whnf }
  subst hb3
  k_steps
  refine Halt.mk (zip_list_K F1 N hca hhl ?_)
  intro z TI TO i1 i2 its h2 Dz hS F2 N2 hlt2
  refine ⟨news0, KG news0 (cells.zip hs) 8, h_zip rfl Dz hS hcvl hvl hca hhl hlt2 (by decide) F2 N2 (by exact hb) (by exact hos) (KG news0 (cells.zip hs)) GuAt.nil (guTurn w L fa cv hv cells hs hI news0 hH hc hh 8 loose mean mg mb g _ B X0 T os), ?_⟩
  intro D ys tus s' hP hLD hn0 ht2 F3 N3 hb3 ho3
  refine hQ D ys tus s' (by have := hP; unfold KG at this; rw [List.take_of_length_le (by rw [List.length_zip]; omega)] at this; exact this) hLD hn0 ht2 (fr_cast F3 fun y => ?_) N3 hb3 ho3
  by_cases q : y = Str.ofString "guests"
  · simp only [if_pos q]
  · simp only [if_neg q]
    exact (em y).symm
end Mine
end
theorem Mine.calmLawP2 : True := by w_top off; first | walk1 | trivial
section
open PySem PySem.W PyProof.Rows PySem.Calls PySem.Spec PyProof.Rows.LCg
set_option maxRecDepth 100000
namespace Mine
local macro_rules | `(tactic| walk_at $s) => Mine.mw s [("call type:zip", Mine.m9e23)]
theorem lawPieces (w : World) (L fa ca hl : Addr) (cv hv : List Value) (c1 c2 : Nat) (cells : List Int) (hs : List (Bool × Int)) (hI : IntsAre cv cells) (hl1 : cells.length = 8) (hl2 : hs.length = 8) (news0 : List (Addr × Obj)) (hH : HrAt news0 hv hs) (hca : (ca, W.listOf cv.toArray c1) ∈ news0) (hhl : (hl, W.listOf hv.toArray c2) ∈ news0) (hc : ∀ c ∈ cells, 0 ≤ c ∧ c < 1000000) (dl : Addr) (oc : Obj) (hoc : oc.data = .cell (some (.ref dl))) (dv : List Value) (dc : Nat) (hdv : StrV dv dressT) (hdl : (dl, W.listOf dv.toArray dc) ∈ news0) (hcl : (L + 1, oc) ∈ news0)
    (loose : List Str) (mean : ExcName → Option Value) (mg mb : Str → Option Value) (g : Heap) (m : Str → Option Value)
    (B : Below callerA g [] g) (X : (KK w).In g) (T : Top VV loose mean mg mb g) (os : OsState) (hm1 : m (Str.ofString "cells") = some (.ref ca)) (hm2 : m (Str.ofString "hours") = some (.ref hl)) (s : Shared) (F : Fr g L s.heap m) (N : News g L s.heap news0) (hb : AllBare s.gens) (hos : s.os = os) (Q : Flow → Shared → Prop) (E : Value → Shared → Prop)
    (hQ : ∀ (D : Addr) (ys : List Value) (tus : List (Addr × Obj)) (s' : Shared), tus = [] ∧ StrV ys ((cells.zip hs).map pieceS) → @LT.lt Nat _ L D → (∀ p ∈ news0, @LT.lt Nat _ p.1 D) → (∀ p ∈ tus, @LT.lt Nat _ D p.1) →
      Fr g L s'.heap (fun z => if z = Str.ofString "pieces" then some (.ref D) else m z) → News g L s'.heap ((D, lst ys) :: (tus ++ news0)) → AllBare s'.gens → s'.os = os → Q .next s') :
    wpAny (model PP w) (lawA L fa) (exec (lawS 5) (lawEnv L fa)) Q E s := by
  have X0 := X
  dsimp only [PP, KK] at *
  revert X; k_fill; intro X
  have hvl : hv.length = 8 := hH.length.trans hl2
  have hcvl : cv.length = 8 := (IntsAre_len hI).trans hl1
  have em : ∀ y, m y = (fun y => if y = Str.ofString "cells" then some (Value.ref ca) else if y = Str.ofString "hours" then some (Value.ref hl) else m y) y := fun y => by
    by_cases q : y = Str.ofString "cells"
    · simp only [if_pos q]; rw [q, hm1]
    by_cases q2 : y = Str.ofString "hours"
    · simp only [if_neg q, if_pos q2]; rw [q2, hm2]
    · simp only [if_neg q, if_neg q2]
  have F1 := fr_cast F em
  clear F
  generalize hb1 : lawS 5 = st
  conv at hb1 => { lhs; whnf }
  subst hb1
  refine compX_assign os (m := fun y => if y = Str.ofString "cells" then some (Value.ref ca) else if y = Str.ofString "hours" then some (Value.ref hl) else m y) (g := g) (L := L) rfl (by with_unfolding_all rfl) (by with_unfolding_all rfl) (by decide +kernel) (by rfl) (by decide +kernel) (by rfl) (by rfl) (by intro _; rfl) ?_
  obtain ⟨heap', gens', drawn', toks', os'⟩ := s
  dsimp only [lawA, lawEnv] at *
  generalize hb3 : fdScope lawStmt = scope
  conv at hb3 => { lhs; whnf }
  subst hb3
  k_steps
  refine Halt.mk (zip_list_K F1 N hca hhl ?_)
  intro z TI TO i1 i2 its h2 Dz hS F2 N2 hlt2
  refine ⟨news0, KP (cells.zip hs) 8, h_zip rfl Dz hS hcvl hvl hca hhl hlt2 (by decide) F2 N2 (by exact hb) (by exact hos) (KP (cells.zip hs)) ⟨rfl, .nil⟩ (piTurn w L fa dl oc hoc dv dc hdv cv hv cells hs hI news0 hdl hcl hH hc 8 loose mean mg mb g _ B X0 T os), ?_⟩
  intro D ys tus s' hP hLD hn0 ht2 F3 N3 hb3 ho3
  refine hQ D ys tus s' (by have := hP; unfold KP at this; rw [List.take_of_length_le (by rw [List.length_zip]; omega)] at this; exact this) hLD hn0 ht2 (fr_cast F3 fun y => ?_) N3 hb3 ho3
  by_cases q : y = Str.ofString "pieces"
  · simp only [if_pos q]
  · simp only [if_neg q]
    exact (em y).symm
end Mine
end
theorem Mine.calmLaw2 : True := by w_top off; first | walk1 | trivial
section
open PySem PySem.W PyProof.Rows PySem.Calls PySem.Spec PyProof.Rows.LCg
set_option maxRecDepth 100000
namespace Mine
def m9e86 : Lean.MacroM (Lean.TSyntax `tactic) := Mine.t9sh "wpAny _ _ ( execs ( List.cons ( Stmt.Assign ( List.cons ( PySem.Expr.Tuple _ _ _ ) List.nil ) _ _ ) _ ) _ ) _ _ _" []
def m9k48 : Lean.MacroM (Lean.TSyntax `tactic) := Mine.t9seq [Mine.t9red (Mine.m9e86), Mine.m9e23]
local macro_rules | `(tactic| k_steps) => Mine.m9k45
local macro_rules | `(tactic| walk_at $s) => Mine.mw s [("exec Assign cons ListComp", Mine.m9e23), ("eval ListComp", Mine.m9e23), ("call builtin:str.join", Mine.m9e23), ("pyIter ref", Mine.m9e23), ("execs cons", Mine.m9k48)]
noncomputable abbrev lawMap2 (sc dr ca hl gl pl : Addr) (bk : Str) (tb : Tok) : Str → Option Value := fun y =>
  if y = Str.ofString "book" then some (.str bk tb) else if y = Str.ofString "pieces" then some (.ref pl) else if y = Str.ofString "guests" then some (.ref gl) else lawMap sc dr ca hl y
noncomputable def bookOf (gs : List (Int × Str)) : Str := Txt.join (Str.ofString "") (gs.map fun p => writtenS p.1 p.2)
theorem GuAt.monoS {news news' : List (Addr × Obj)} {vs : List Value} {r : List (Int × Str)} (h : GuAt news vs r) (k : ∀ p ∈ news, (∃ a c, p.2.data = .seq a c) → p ∈ news') : GuAt news' vs r := by
  induction h with
  | nil => exact .nil
  | cons t1 t2 c h1 _ ih => exact .cons t1 t2 c (k _ h1 ⟨_, _, rfl⟩) ih
set_option maxHeartbeats 16000000 in
theorem law2 (w : World) (L fa sc dr ca hl : Addr) (cv hv : List Value) (n1 n2 : Nat) (cells : List Int) (hs : List (Bool × Int)) (hI : IntsAre cv cells) (hl1 : cells.length = 8) (hl2 : hs.length = 8) (nr : List (Addr × Obj)) (hH : HrAt nr hv hs) (hca : (ca, W.listOf cv.toArray n1) ∈ nr) (hhl : (hl, W.listOf hv.toArray n2) ∈ nr) (hc : ∀ c ∈ cells, 0 ≤ c ∧ c < 1000000) (hh : ∀ h ∈ hs, 1 ≤ h.2 ∧ h.2 ≤ 320)
    (gs : List (Int × Str)) (hgs : gs = (cells.zip hs).filterMap guest) (hg8 : gs.length ≤ 8) (hwr : ∀ p ∈ gs, WrOk p) (hjb : ((gs.map fun p => writtenS p.1 p.2).map (·.length)).sum + (gs.map fun p => writtenS p.1 p.2).length ≤ 1048576)
    (oc1 oc2 : Obj) (vc1 vc2 : Option Value) (hc1 : oc1.data = .cell vc1) (hc2 : oc2.data = .cell vc2) (hnr : ∀ p ∈ nr, @LT.lt Nat _ (L + 1 + 1) p.1)
    (loose : List Str) (mean : ExcName → Option Value) (mg mb : Str → Option Value) (g : Heap) (h123 : @LT.lt Nat _ 123 L)
    (B : Below callerA g [] g) (X : (KK w).In g) (T : Top VV loose mean mg mb g) (os : OsState) (m : Str → Option Value) (hm : ∀ y, m y = lawMap sc dr ca hl y) (s : Shared) (F : Fr g L s.heap m) (N : News g L s.heap (lawNews L oc1 oc2 [(123, tabObj #[])] nr)) (hb : AllBare s.gens) (hos : s.os = os) (Q : Flow → Shared → Prop) (E : Value → Shared → Prop)
    (hcont : ∀ (gl pl dl : Addr) (gv pv : List Value) (n3 n4 : Nat) (tb : Tok) (oc1 : Obj) (nr : List (Addr × Obj)) (m : Str → Option Value) (s : Shared), (∀ y, m y = lawMap2 sc dr ca hl gl pl (bookOf gs) tb y) → oc1.data = .cell (some (.ref dl)) → (ca, W.listOf cv.toArray n1) ∈ nr → (hl, W.listOf hv.toArray n2) ∈ nr → HrAt nr hv hs →
      (gl, W.listOf gv.toArray n3) ∈ nr → GuAt nr gv gs → (pl, W.listOf pv.toArray n4) ∈ nr → StrV pv ((cells.zip hs).map pieceS) → (∀ p ∈ nr, @LT.lt Nat _ (L + 1 + 1) p.1) →
      Fr g L s.heap m → News g L s.heap (lawNews L oc1 oc2 [(123, tabObj #[])] nr) → AllBare s.gens → s.os = os → wpAny (model PP w) (lawA L fa) (execs (lawTail 7) (lawEnv L fa)) Q E s) :
    wpAny (model PP w) (lawA L fa) (execs (lawTail 3) (lawEnv L fa)) Q E s := by
  have l9 : Mine.Lead9 := trivial
  have l0 : Mine.Lead0 := trivial
  revert hI hl1 hl2 hH hca hhl hc hh hgs hg8 hwr hjb hc1 hc2 hnr h123 B X T hm F N hb hos hcont
  revert w L fa sc dr ca hl cv hv n1 n2 cells hs nr gs oc1 oc2 vc1 vc2 loose mean mg mb g os m s Q E
  intro w L fa sc dr ca hl cv hv n1 n2 cells hs nr gs oc1 oc2 vc1 vc2 loose mean mg mb g os m s Q E
  intros hI hl1 hl2 hH hca hhl hc hh hgs hg8 hwr hjb hc1 hc2 hnr h123 B X T hm F N hb hos hcont
  rename Mine.Lead0 => l0; clear l0
  have X0 := X
  dsimp only [PP, KK] at *
  revert X; k_fill; intro X
  have F0 := fr_cast F hm
  clear F hm
  dsimp only [lawA, lawEnv, lawTail] at *
  generalize hb1 : (fdBody lawStmt).drop 3 = body
  generalize hb3 : fdScope lawStmt = scope
  conv at hb1 => { lhs; whnf }
  conv at hb3 => { lhs; whnf }
  subst hb1 hb3
  obtain ⟨heap', gens', drawn', toks', os'⟩ := s
  dsimp only [lawNews] at N
  simp only [List.cons_append, List.nil_append] at N
  k_steps
  refine Halt.mk (lawGuests w L fa ca hl cv hv n1 n2 cells hs hI hl1 hl2 _ (hH.mono fun p hp => .tail _ (.tail _ (.tail _ hp))) (.tail _ (.tail _ (.tail _ hca))) (.tail _ (.tail _ (.tail _ hhl))) hc hh loose mean mg mb g _ B X0 T os rfl rfl _ F0 N (by exact hb) (by exact hos) _ _ ?_)
  intro D ys tus s2 hG hLD hn0 ht2 F2 N2 hb2 ho2
  rw [← hgs] at hG
  obtain ⟨heap2, gens2, drawn2, toks2, os2⟩ := s2
  (try dsimp only at F2)
  (try dsimp only at N2)
  have e1 : ∀ p ∈ tus ++ nr, @LT.lt Nat _ (L + 1 + 1) p.1 := fun p hp => (List.mem_append.mp hp).elim (fun h => Nat.lt_trans (hn0 _ (.tail _ (.head _))) (ht2 p h)) (fun h => hnr p h)
  have N3 : News g L heap2 ((L + 1, oc1) :: (L + 1 + 1, oc2) :: (123, tabObj #[]) :: ((D, lst ys) :: (tus ++ nr))) := cb_drop N2 (by
    intro p hp
    first
      | ((revert p hp); (repeat' (first | with_reducible refine List.forall_mem_cons.mpr ⟨?_, ?_⟩ | with_reducible refine List.forall_mem_append.mpr ⟨?_, ?_⟩ | with_reducible exact List.forall_mem_nil _ | (intro _ _; ((repeat (first | with_reducible assumption | with_reducible exact List.mem_cons_self | (with_reducible refine List.mem_append_left _ ?_; (repeat (first | with_reducible exact List.mem_cons_self | with_reducible refine List.mem_cons_of_mem _ ?_ | with_reducible assumption)); done) | with_reducible refine List.mem_append_right _ ?_ | with_reducible refine List.mem_cons_of_mem _ ?_)); done)) | ((repeat (first | with_reducible assumption | with_reducible exact List.mem_cons_self | (with_reducible refine List.mem_append_left _ ?_; (repeat (first | with_reducible exact List.mem_cons_self | with_reducible refine List.mem_cons_of_mem _ ?_ | with_reducible assumption)); done) | with_reducible refine List.mem_append_right _ ?_ | with_reducible refine List.mem_cons_of_mem _ ?_)); done))); done)
      | (simp only [List.mem_append, List.mem_cons] at hp ⊢; rcases hp with h | h | h | h | h | h <;> simp [h]))
  have e2 : ∀ p ∈ (D, lst ys) :: (tus ++ nr), @LT.lt Nat _ (L + 1 + 1) p.1 := List.forall_mem_cons.mpr ⟨hn0 _ (.tail _ (.head _)), e1⟩
  have hgl : (D, lst ys) ∈ (D, lst ys) :: (tus ++ nr) := .head _
  have hG2 : GuAt ((D, lst ys) :: (tus ++ nr)) ys gs := hG.monoS (kS_tail (kS_app (kS_skip (fun ⟨_, _, hd⟩ => by rw [hc1] at hd; cases hd) (kS_skip (fun ⟨_, _, hd⟩ => by rw [hc2] at hd; cases hd) (kS_skip (fun ⟨_, _, hd⟩ => by cases hd) kS_refl)))))
  have hsub : ∀ p ∈ nr, p ∈ (D, lst ys) :: (tus ++ nr) := fun p hp => .tail _ (List.mem_append_right _ hp)
  generalize (D, lst ys) :: (tus ++ nr) = nr2 at *
  clear N N2 F0
  have f1 : ∀ p ∈ nr2, p.1 ≠ L + 1 := fun p hp => neN (Nat.ne_of_gt (Nat.lt_of_succ_lt (e2 p hp)))
  have f2 : ∀ p ∈ nr2, p.1 ≠ L + 1 + 1 := fun p hp => neN (Nat.ne_of_gt (e2 p hp))
  (try dsimp only)
  k_steps
  (with_reducible rename News _ _ _ _ => N9)
  (with_reducible rename Fr _ _ _ _ => F9)
  (with_reducible rename _ = Data.cell (some (Value.ref _)) => d9)
  have hH2 := hH.mono hsub
  refine Halt.mk (lawPieces w L fa ca hl cv hv n1 n2 cells hs hI hl1 hl2 _ (hH2.mono fun p hp => .tail _ (.tail _ (.tail _ (.tail _ hp)))) (.tail _ (.tail _ (.tail _ (.tail _ (hsub _ hca))))) (.tail _ (.tail _ (.tail _ (.tail _ (hsub _ hhl))))) hc _ _ d9 [_, _, _, _, _, _] 0 (.cons _ (.cons _ (.cons _ (.cons _ (.cons _ (.cons _ .nil)))))) (.head _) (.tail _ (.head _)) loose mean mg mb g _ B X0 T os rfl rfl _ F9 N9 (by exact hb2) (by exact ho2) _ _ ?_)
  intro D5 ys5 tus5 s5 hP5 hLD5 hn5 ht5 F5 N5 hb5 ho5
  obtain ⟨rfl, hP5⟩ := hP5
  obtain ⟨heap5, gens5, drawn5, toks5, os5⟩ := s5
  (try dsimp only at F5)
  (try dsimp only at N5)
  (try dsimp only)
  simp only [List.nil_append] at N5
  clear N9 F9
  k_steps
  refine Halt.mk (lawEval6 w L fa D ys ys.length gs _ (hG2.mono fun p hp => .tail _ (.tail _ (.tail _ (.tail _ (.tail _ hp))))) (.tail _ (.tail _ (.tail _ (.tail _ (.tail _ hgl))))) hg8 hwr loose mean mg mb g _ B X0 T os rfl _ F5 N5 (by exact hb5) (by exact ho5) _ _ _ (by with_unfolding_all rfl) ?_)
  intro D6 ys6 s6 hP6 hLD6 hn6 F6 N6 hb6 ho6
  obtain ⟨heap6, gens6, drawn6, toks6, os6⟩ := s6
  (try dsimp only at F6)
  (try dsimp only at N6)
  (try dsimp only)
  k_steps
  refine Halt.mk (jn_SV N6 (.head _) hP6 (by decide) hjb ?_)
  intro t7 k7
  (try dsimp only)
  k_steps
  (with_reducible rename Fr _ _ _ _ => F7)
  (with_reducible rename News _ _ _ _ => N7)
  have z0 := hn6 _ (.tail _ (.tail _ (.tail _ (.head _))))
  have z1 := hn5 _ (.tail _ (.tail _ (.head _)))
  have z2 : @LT.lt Nat _ (L + 1 + 1) D6 := z0
  have z3 : @LT.lt Nat _ (L + 1 + 1) D5 := z1
  refine Halt.mk (hcont D D5 _ ys ys5 ys.length ys5.length t7 _ ((D6, lst ys6) :: (D5, lst ys5) :: nr2) _ _ (fun y => rfl) d9 (.tail _ (.tail _ (hsub _ hca))) (.tail _ (.tail _ (hsub _ hhl))) (hH2.mono fun p hp => .tail _ (.tail _ hp)) (.tail _ (.tail _ hgl)) (hG2.mono fun p hp => .tail _ (.tail _ hp)) (.tail _ (.head _)) hP5
    (List.forall_mem_cons.mpr ⟨z2, List.forall_mem_cons.mpr ⟨z3, e2⟩⟩) F7 (cb_drop N7 ?_) (by exact hb6) (by exact ho6))
  intro p hp
  first
    | ((revert p hp); (try dsimp only [lawNews, List.cons_append, List.nil_append]); (repeat' (first | with_reducible refine List.forall_mem_cons.mpr ⟨?_, ?_⟩ | with_reducible refine List.forall_mem_append.mpr ⟨?_, ?_⟩ | with_reducible exact List.forall_mem_nil _ | (intro _ _; ((repeat (first | with_reducible assumption | with_reducible exact List.mem_cons_self | (with_reducible refine List.mem_append_left _ ?_; (repeat (first | with_reducible exact List.mem_cons_self | with_reducible refine List.mem_cons_of_mem _ ?_ | with_reducible assumption)); done) | with_reducible refine List.mem_append_right _ ?_ | with_reducible refine List.mem_cons_of_mem _ ?_)); done)) | ((repeat (first | with_reducible assumption | with_reducible exact List.mem_cons_self | (with_reducible refine List.mem_append_left _ ?_; (repeat (first | with_reducible exact List.mem_cons_self | with_reducible refine List.mem_cons_of_mem _ ?_ | with_reducible assumption)); done) | with_reducible refine List.mem_append_right _ ?_ | with_reducible refine List.mem_cons_of_mem _ ?_)); done))); done)
    | (simp only [lawNews, List.cons_append, List.nil_append, List.mem_cons] at hp ⊢; rcases hp with h | h | h | h | h | h <;> simp [h])
end Mine
end
theorem Mine.calmCBrackets : True := by w_top off; first | walk1 | trivial
section
open PySem PySem.W PyProof.Rows PySem.Calls PySem.Spec PyProof.Rows.LCg
set_option maxRecDepth 100000
namespace Mine
local macro_rules | `(tactic| walk_at $s) => Mine.mw s [("exec For Tuple Call cons nil", Mine.m9e23), ("call type:enumerate", Mine.m9e23)]
theorem brLoop (w : World) (hA pA rA hd wl el e it : Addr) (hv pv rv : List Value) (nc pc rc : Nat) (hs : List (Bool × Int)) (ps : List Str) (up : List (Str × Int)) (mt : Nat → Nat) (wt : Nat → Int) (news0 : List (Addr × Obj)) (hok : BrOk hs ps up mt wt) (hH : HrAt news0 hv hs) (hpv : StrV pv ps) (hrv : StrV rv (up.map (·.1)))
    (hhA : (hA, W.listOf hv.toArray nc) ∈ news0) (hpA : (pA, W.listOf pv.toArray pc) ∈ news0) (hrA : (rA, W.listOf rv.toArray rc) ∈ news0) (lo : (hd == sysModules) = false)
    (loose : List Str) (mean : ExcName → Option Value) (mg mb : Str → Option Value) (dp un : Nat) (gd : Option (List Code)) (cn : Str) (cs0 : Scope) (Lc a : Addr) (ccd : Value) (cls : List (Str × Addr)) (outer : List Env) (base g : Heap) (L : Addr) (R : Result → Shared → Prop)
    (B : Below (ktrTop dp un gd cn cs0 Lc a ccd cls outer) base (envX cn cs0 Lc a ccd cls :: outer) g) (X : (KK w).In g) (T : Top VV loose mean mg mb g) (hd0 : dp + 90 < recursionLimit) (hu : un + 900 < cLine) (os : OsState)
    (a1 : @LT.lt Nat _ hd wl) (a2 : @LT.lt Nat _ wl el) (a3 : @LT.lt Nat _ el it) (a4 : @LT.lt Nat _ it e) (hn0 : ∀ p ∈ news0, @LT.lt Nat _ p.1 hd)
    {oH : Obj} (hoD : oH.IsDictOf (PySem.intKind PP w) ([] : List (Int × Value)))
    (oi : Obj) (hoi : LIter oi hA 0) (m : Str → Option Value) (s : Shared) (hm : ∀ y, m y = brMap hA pA rA hd wl el none none none none y) (F : Fr g L s.heap m) (N : News g L s.heap ((e, enumObj it 0 .none) :: (it, oi) :: (hd, oH) :: (wl, W.listOf #[] 0) :: (el, W.listOf #[] 0) :: news0)) (hb : AllBare s.gens) (hos : s.os = os)
    (done : ∀ (m : Str → Option Value) (news : List (Addr × Obj)) (s : Shared), BrInv w hA pA rA hd wl el news0 hs up ps wt hs.length m news → Fr g L s.heap m → News g L s.heap news → AllBare s.gens → s.os = os → R (.ok .next) s) :
    codeAny (model PP w) ((ktrTop dp un gd cn cs0 Lc a ccd cls outer).deeper (brEnv L)) (.forLoop (forTarget brFor) (.ref e) (forBody brFor) [] (brEnv L)) R s := by
  have hlen : hv.length = hs.length := hH.length
  generalize hb2 : forTarget brFor = target
  have hb2' := hb2
  conv at hb2 => { lhs; whnf }
  subst hb2
  refine for_src (prog := PP) (w := w) (A := (ktrTop dp un gd cn cs0 Lc a ccd cls outer).deeper (brEnv L)) (g := g) (L := L) (os := os) (src_enum (items := hv) (c := nc) (l := hA) (e := e) (it := it) rfl (neN (Nat.ne_of_gt a4))) (fun i m news => BrInv w hA pA rA hd wl el news0 hs up ps wt i m news) ?_ ?_ ?_ hv.length 0 [(e, enumObj it 0 .none), (it, oi)] m _ s (by omega) ⟨.none, oi, rfl, hoi⟩ ⟨none, none, none, none, oH, [], [], 0, [], 0, rfl, hm, hoD, ?_, ?_, ?_⟩ F N hb hos
  · rintro i m news ⟨vp, vc, vn, vm, oH, kvs, wv, n1, ev, n2, rfl, -⟩
    refine ⟨fun p hp => ?_, ?_⟩
    · rw [List.mem_singleton.mp hp]
      exact .tail _ (.tail _ (.tail _ hhA))
    · rintro i' its ⟨old, o, rfl, ho⟩ p hp q hq
      have hp' : @LT.lt Nat _ p.1 it := by
        rcases List.mem_cons.mp hp with rfl | hp
        · exact Nat.lt_trans a1 (Nat.lt_trans a2 a3)
        rcases List.mem_cons.mp hp with rfl | hp
        · exact Nat.lt_trans a2 a3
        rcases List.mem_cons.mp hp with rfl | hp
        · exact a3
        · exact Nat.lt_trans (hn0 p hp) (Nat.lt_trans a1 (Nat.lt_trans a2 a3))
      rcases List.mem_cons.mp hq with rfl | hq
      · exact neN (Nat.ne_of_lt (Nat.lt_trans hp' a4))
      · rw [List.mem_singleton.mp hq]
        exact neN (Nat.ne_of_lt hp')
  · intro i v its new m news s hi hV hS hj hnew F N hb hos
    rw [← hb2']
    exact brTurn w hA pA rA hd wl el e it hv pv rv nc pc rc hs ps up mt wt news0 hok hH hpv hrv hpA hrA lo loose mean mg mb dp un gd cn cs0 Lc a ccd cls outer base g L R B X T hd0 hu os a1 a2 a3 a4 hn0 i v its new m news s hi hV hS hj hnew F N hb hos _ _
  · rw [hlen]; exact done
  · exact .nil
  · exact .nil
  · exact .nil
set_option maxHeartbeats 8000000 in
theorem c_brackets (w : World) (hA pA rA : Addr) (hv pv rv : List Value) (nc pc rc : Nat) (hs : List (Bool × Int)) (ps : List Str) (up : List (Str × Int)) (mt : Nat → Nat) (wt : Nat → Int) (news : List (Addr × Obj)) :
   CC 100 w 168 news ((hA, W.listOf hv.toArray nc) ∈ news ∧ HrAt news hv hs ∧ (pA, W.listOf pv.toArray pc) ∈ news ∧ StrV pv ps ∧ (rA, W.listOf rv.toArray rc) ∈ news ∧ StrV rv (up.map (·.1)) ∧ BrOk hs ps up mt wt) [.ref hA, .ref pA, .ref rA]
    (fun v news2 => ∃ (Tt wl el : Addr) (wv ev : List Value) (n1 n2 : Nat), v = .ref Tt ∧ IntsAre wv (wtPre hs wt hs.length) ∧ BlV ev ((List.range hs.length).map fun k => takenB (rowT ps k)) ∧ @LT.lt Nat _ wl el ∧ @LT.lt Nat _ el Tt ∧ (∀ p ∈ news, @LT.lt Nat _ p.1 wl) ∧
      news2 = (Tt, { cls := .type "tuple", data := .seq #[.ref wl, .ref el] }) :: (wl, W.listOf wv.toArray n1) :: (el, W.listOf ev.toArray n2) :: news) := by
  have l9 : Mine.Lead9 := trivial
  have l0 : Mine.Lead0 := trivial
  revert w hA pA rA hv pv rv nc pc rc hs ps up mt wt news
  intro w hA pA rA hv pv rv nc pc rc hs ps up mt wt news
  rename Mine.Lead0 => l0; clear l0
  dsimp only [CC, PP, KK]
  k_fill
  intro loose mean mg mb dp un gd cn cs' a ccd cl outer A₀ base h₀ L m s Q B F X N T hk hp hd hu hb hret
  obtain ⟨hhA, hH, hpA, hpv, hrA, hrv, hok⟩ := hp
  k_dflt cell_enter
  k_steps
  refine Halt.mk (wpAny_For ?_)
  k_steps
  (with_reducible rename News _ _ _ _ => N9)
  (with_reducible rename Fr _ _ _ _ => F9)
  (with_reducible rename Below _ _ _ _ => B9)
  (with_reducible rename Top _ _ _ _ _ _ => T9)
  (with_reducible rename Frag.In _ _ => X9)
  (with_reducible rename ∀ p ∈ news, p.1 < _ => l8)
  (with_reducible rename Obj.IsDictOf (intKind _ _) _ [] => d9)
  (with_reducible rename (_ == sysModules) = false => lo9)
  have N10 : News _ _ _ ((_, _) :: (_, W.listOf #[] 0) :: (_, W.listOf #[] 0) :: news) := cb_drop N9 (fun p hp => by
    rcases List.mem_cons.mp hp with rfl | hp
    · exact .tail _ (.tail _ (.tail _ (.head _)))
    rcases List.mem_cons.mp hp with rfl | hp
    · exact .tail _ (.tail _ (.head _))
    rcases List.mem_cons.mp hp with rfl | hp
    · exact .tail _ (.head _)
    · exact .tail _ (.tail _ (.tail _ (.tail _ hp))))
  clear N9
  refine Halt.mk (enum_list_K F9 N10 (.tail _ (.tail _ (.tail _ hhA))) ?_)
  intro e it h12 oi hoi F12 N12 hlt hie
  refine wpAny_pyIter_enum (N12 _ (.head _)).1 ?_
  (repeat ((with_reducible rename _ ∧ _ => hc); obtain ⟨_, _⟩ := hc))
  have q3 := hlt _ (.tail _ (.tail _ (.head _)))
  dsimp only at q3
  refine brLoop w hA pA rA _ _ _ e it hv pv rv nc pc rc hs ps up mt wt news hok hH hpv hrv hhA hpA hrA lo9 loose mean mg mb dp un gd cn cs' L a ccd cl outer base _ _ _ B9 X9 T9 (by omega) (by omega) s.os ?_ ?_ q3 hie l8 d9 oi hoi _ _ ?_ F12 N12 (by exact hb) (by exact rfl) ?_
  · assumption
  · assumption
  · intro y
    show (if y = Str.ofString "held" then _ else if y = Str.ofString "waits" then _ else if y = Str.ofString "empty" then _ else List.lookup y [(Str.ofString "replies", Value.ref rA), (Str.ofString "pieces", Value.ref pA), (Str.ofString "hours", Value.ref hA)]) = _
    simp only [List.lookup]
    by_cases h1 : y = Str.ofString "mate"
    · subst h1; rfl
    by_cases h2 : y = Str.ofString "now"
    · subst h2; rfl
    by_cases h3 : y = Str.ofString "comes"
    · subst h3; rfl
    by_cases h4 : y = Str.ofString "place"
    · subst h4; rfl
    by_cases h5 : y = Str.ofString "empty"
    · subst h5; rfl
    by_cases h6 : y = Str.ofString "waits"
    · subst h6; rfl
    by_cases h7 : y = Str.ofString "held"
    · subst h7; rfl
    by_cases h8 : y = Str.ofString "replies"
    · subst h8; rfl
    by_cases h9 : y = Str.ofString "pieces"
    · subst h9; rfl
    by_cases h10 : y = Str.ofString "hours"
    · subst h10; rfl
    simp only [brMap, if_neg h1, if_neg h2, if_neg h3, if_neg h4, if_neg h5, if_neg h6, if_neg h7, if_neg h8, if_neg h9, if_neg h10, beq_eq_false_iff_ne.mpr h8, beq_eq_false_iff_ne.mpr h9, beq_eq_false_iff_ne.mpr h10]
  · rintro m14 news14 s14 ⟨vp, vc, vn, vm, oH, kvs, wv, n1, ev, n2, rfl, hm, hoD, hHe, hwv, hev⟩ F14 N14 hb14 ho14
    obtain ⟨heap14, gens14, drawn14, toks14, os14⟩ := s14
    have F15 := fr_cast F14 hm
    have N15 := cb_drop N14 (fun p hp => List.Mem.tail _ hp)
    clear F14 hm N14 N12 F12 N10 F9
    (repeat ((with_reducible rename PyProof.V.FlatPairs _ _ _ => hfl); clear hfl))
    (try dsimp only)
    k_steps
    (with_reducible rename _ ∧ _ => l9)
    refine hret _ _ _ ⟨_, _, _, wv, ev, n1, n2, rfl, hwv, hev, ?_, ?_, ?_, rfl⟩ (by k_asm) (by k_asm) hb14 ho14
    · assumption
    · obtain ⟨_, _, _⟩ := l9; assumption
    · exact fun p hp => Nat.lt_trans (l8 p hp) (by assumption)
end Mine
end
theorem Mine.calmCWays : True := by w_top off; first | walk1 | trivial
section
open PySem PySem.W PyProof.Rows PySem.Calls PySem.Spec PyProof.Rows.LCg
set_option maxRecDepth 100000
namespace Mine
local macro_rules | `(tactic| walk_at $s) => Mine.mw s [("exec For Tuple Name cons nil", Mine.m9e24), ("pyIter ref", Mine.m9e23), ("eval ListComp", Mine.m9e23), ("my enterC", Mine.m9k26)]
theorem wyLoop (w : World) (l I L : Addr) (hv : List Value) (nc : Nat) (hs : List (Bool × Int)) (news0 : List (Addr × Obj)) (hH : HrAt news0 hv hs) (hok : WyOk hs) (hl : (l, W.listOf hv.toArray nc) ∈ news0)
    (loose : List Str) (mean : ExcName → Option Value) (mg mb : Str → Option Value) (dp un : Nat) (gd : Option (List Code)) (cn : Str) (cs0 : Scope) (Lc a : Addr) (ccd : Value) (cls : List (Str × Addr)) (outer : List Env) (base g : Heap) (R : Result → Shared → Prop)
    (B : Below (ktrTop dp un gd cn cs0 Lc a ccd cls outer) base (envX cn cs0 Lc a ccd cls :: outer) g) (X : (KK w).In g) (T : Top VV loose mean mg mb g) (hd : dp + 30 < recursionLimit) (hu : un + 300 < cLine) (os : OsState)
    (hLI : @LT.lt Nat _ (L + 1) I) (hn0 : ∀ p ∈ news0, @LT.lt Nat _ p.1 (L + 1)) 
    (wyA : Addr) (cW : Nat) (vs : List Value) (oc : Obj) (vc : Option Value) (tus : List (Addr × Obj)) (hoc : oc.data = .cell vc) (hW : (wyA, W.listOf vs.toArray cW) ∈ tus) (hK : WyAt (tus ++ news0) vs [([], [])]) (ht : ∀ p ∈ tus, @LT.lt Nat _ (L + 1) p.1 ∧ @LT.lt Nat _ p.1 I)
    (m : Str → Option Value) (o' : Obj) (s : Shared) (hm : ∀ y, m y = wyMap l wyA none y) (ho : LIter o' l 0) (F : Fr g L s.heap m) (N : News g L s.heap ((I, o') :: (L + 1, oc) :: (tus ++ news0))) (hb : AllBare s.gens) (hos : s.os = os)
    (done : ∀ (m : Str → Option Value) (news : List (Addr × Obj)) (s : Shared), WyInv L l I news0 hs hs.length m news → Fr g L s.heap m → News g L s.heap news → AllBare s.gens → s.os = os → R (.ok .next) s) :
    codeAny (model PP w) ((ktrTop dp un gd cn cs0 Lc a ccd cls outer).deeper (wyEnv L)) (.forLoop (forTarget wyFor) (.ref I) (forBody wyFor) [] (wyEnv L)) R s := by
  have l9 : Mine.Lead9 := trivial
  have l0 : Mine.Lead0 := trivial
  revert hH hok hl B X T hd hu hLI hn0 hoc hW hK ht hm ho F N hb hos done
  revert w l I L hv nc hs news0 loose mean mg mb dp un gd cn cs0 Lc a ccd cls outer base g R os wyA cW vs oc vc tus m o' s
  intro w l I L hv nc hs news0 loose mean mg mb dp un gd cn cs0 Lc a ccd cls outer base g R os wyA cW vs oc vc tus m o' s
  intros hH hok hl B X T hd hu hLI hn0 hoc hW hK ht hm ho F N hb hos done
  rename Mine.Lead0 => l0; clear l0
  have hlen : hv.length = hs.length := hH.length
  refine for_listI (l := l) (items := hv) (c := nc) (os := os) rfl (fun i m news => WyInv L l I news0 hs i m news ∧ ∀ p ∈ news, p.1 ≠ I) ?_ ?_ ?_ ?_ hv.length 0 m ((L + 1, oc) :: (tus ++ news0)) o' s (by omega) ho ⟨⟨wyA, none, vs, cW, oc, vc, tus, hm, rfl, hoc, hW, hK, fun p hp => (ht p hp).1⟩, ?_⟩ F N hb hos
  · rintro i m news ⟨⟨wyA, v1, vs, cW, oc, vc, tus, hm, rfl, -⟩, hI⟩
    exact ⟨.tail _ (List.mem_append_right _ hl), hI⟩
  · intro i v s Q E hv hit hq
    obtain ⟨i0, hi0, e0⟩ := List.mem_iff_getElem.mp hv
    obtain ⟨t, b, n, tt, c, e1, -⟩ := hH.get (i := i0) (v := v) (by rw [← e0]; simp [hi0])
    subst e1
    exact wpAny_letOwnedTupleGo_listiter hit hq
  · intro i v o' m news s hi hj F N hb hos hli
    exact wyTurn w l I L hv hs news0 hH hok loose mean mg mb dp un gd cn cs0 Lc a ccd cls outer base g R B X T hd hu os hLI (fun p hp => neN (Nat.ne_of_lt (hn0 p hp))) (fun p hp => neN (Nat.ne_of_lt (Nat.lt_trans (hn0 p hp) hLI))) i v o' m news s hi hj.1 hj.2 F N hb hos hli _ _
  · rw [hlen]; exact fun m news s hj => done m news s hj.1
  · refine List.forall_mem_cons.mpr ⟨neN (Nat.ne_of_lt hLI), fun p hp => ?_⟩
    rcases List.mem_append.mp hp with hp | hp
    · exact neN (Nat.ne_of_lt (ht p hp).2)
    · exact neN (Nat.ne_of_lt (Nat.lt_trans (hn0 p hp) hLI))
theorem wyLoop0 (w : World) (l I L : Addr) (hv : List Value) (nc : Nat) (hs : List (Bool × Int)) (news0 : List (Addr × Obj)) (hH : HrAt news0 hv hs) (hok : WyOk hs) (hl : (l, W.listOf hv.toArray nc) ∈ news0)
    (loose : List Str) (mean : ExcName → Option Value) (mg mb : Str → Option Value) (dp un : Nat) (gd : Option (List Code)) (cn : Str) (cs0 : Scope) (Lc a : Addr) (ccd : Value) (cls : List (Str × Addr)) (outer : List Env) (base g : Heap) (R : Result → Shared → Prop)
    (B : Below (ktrTop dp un gd cn cs0 Lc a ccd cls outer) base (envX cn cs0 Lc a ccd cls :: outer) g) (X : (KK w).In g) (T : Top VV loose mean mg mb g) (hd : dp + 30 < recursionLimit) (hu : un + 300 < cLine) (os : OsState)
    (hn0 : ∀ p ∈ news0, @LT.lt Nat _ p.1 (L + 1)) 
    {D0 T0 A0 B0 : Addr} {oc : Obj} {vc : Option Value} (hoc : oc.data = .cell vc) (d1 : @LT.lt Nat _ (L + 1) D0) (d2 : @LT.lt Nat _ (L + 1) T0) (d3 : @LT.lt Nat _ (L + 1) A0) (d4 : @LT.lt Nat _ (L + 1) B0) 
    (m : Str → Option Value) (o' : Obj) (s : Shared) (hm : ∀ y, m y = wyMap l D0 none y) (ho : LIter o' l 0) (F : Fr g L s.heap m) (N : News g L s.heap ((I, o') :: (D0, W.listOf #[.ref T0] 0) :: (T0, { cls := .type "tuple", data := .seq #[.ref A0, .ref B0] }) :: (B0, W.listOf #[] 0) :: (A0, W.listOf #[] 0) :: (L + 1, oc) :: news0))
    (hlt : ∀ p ∈ (D0, W.listOf #[.ref T0] 0) :: (T0, { cls := .type "tuple", data := .seq #[.ref A0, .ref B0] }) :: (B0, W.listOf #[] 0) :: (A0, W.listOf #[] 0) :: (L + 1, oc) :: news0, @LT.lt Nat _ p.1 I) (hb : AllBare s.gens) (hos : s.os = os)
    (done : ∀ (m : Str → Option Value) (news : List (Addr × Obj)) (s : Shared), WyInv L l I news0 hs hs.length m news → Fr g L s.heap m → News g L s.heap news → AllBare s.gens → s.os = os → R (.ok .next) s) :
    codeAny (model PP w) ((ktrTop dp un gd cn cs0 Lc a ccd cls outer).deeper (wyEnv L)) (.forLoop (forTarget wyFor) (.ref I) (forBody wyFor) [] (wyEnv L)) R s := by
  have q1 := hlt _ (.head _)
  have q2 := hlt _ (.tail _ (.head _))
  have q3 := hlt _ (.tail _ (.tail _ (.head _)))
  have q4 := hlt _ (.tail _ (.tail _ (.tail _ (.head _))))
  have q5 := hlt _ (.tail _ (.tail _ (.tail _ (.tail _ (.head _)))))
  refine wyLoop w l I L hv nc hs news0 hH hok hl loose mean mg mb dp un gd cn cs0 Lc a ccd cls outer base g R B X T hd hu os q5 hn0 D0 0 [.ref T0] oc vc [(D0, W.listOf #[.ref T0] 0), (T0, { cls := .type "tuple", data := .seq #[.ref A0, .ref B0] }), (B0, W.listOf #[] 0), (A0, W.listOf #[] 0)] hoc (.head _) ?_ ?_ m o' s hm ho F (cb_drop N ?_) hb hos done
  · exact .cons 0 0 0 [] [] (.tail _ (.head _)) (.tail _ (.tail _ (.tail _ (.head _)))) (.tail _ (.tail _ (.head _))) .nil .nil (Nat.zero_le _) (Nat.zero_le _) .nil
  · refine List.forall_mem_cons.mpr ⟨⟨d1, q1⟩, List.forall_mem_cons.mpr ⟨⟨d2, q2⟩, List.forall_mem_cons.mpr ⟨⟨d4, q3⟩, List.forall_mem_cons.mpr ⟨⟨d3, q4⟩, fun _ h => absurd h List.not_mem_nil⟩⟩⟩⟩
  · intro p hp
    first
      | ((revert p hp); (try dsimp only [List.cons_append, List.nil_append]); (repeat' (first | with_reducible refine List.forall_mem_cons.mpr ⟨?_, ?_⟩ | with_reducible refine List.forall_mem_append.mpr ⟨?_, ?_⟩ | with_reducible exact List.forall_mem_nil _ | (intro _ _; ((repeat (first | with_reducible assumption | with_reducible exact List.mem_cons_self | (with_reducible refine List.mem_append_left _ ?_; (repeat (first | with_reducible exact List.mem_cons_self | with_reducible refine List.mem_cons_of_mem _ ?_ | with_reducible assumption)); done) | with_reducible refine List.mem_append_right _ ?_ | with_reducible refine List.mem_cons_of_mem _ ?_)); done)) | ((repeat (first | with_reducible assumption | with_reducible exact List.mem_cons_self | (with_reducible refine List.mem_append_left _ ?_; (repeat (first | with_reducible exact List.mem_cons_self | with_reducible refine List.mem_cons_of_mem _ ?_ | with_reducible assumption)); done) | with_reducible refine List.mem_append_right _ ?_ | with_reducible refine List.mem_cons_of_mem _ ?_)); done))); done)
      | (simp only [List.cons_append, List.nil_append, List.mem_cons] at hp ⊢; rcases hp with h | h | h | h | h | h | h <;> simp [h])
set_option maxHeartbeats 8000000 in
theorem c_ways (w : World) (l : Addr) (hv : List Value) (hs : List (Bool × Int)) (nc : Nat) (news : List (Addr × Obj)) :
   CC 40 w 173 news ((l, W.listOf hv.toArray nc) ∈ news ∧ HrAt news hv hs ∧ WyOk hs) [.ref l]
    (fun v news2 => ∃ (D : Addr) (ys : List Value) (tus : List (Addr × Obj)), v = .ref D ∧ WsAt (tus ++ news) ys ((waysL hs).map (·.2)) ∧ (∀ p ∈ tus, ∀ q ∈ news, @LT.lt Nat _ q.1 p.1) ∧ (∀ p ∈ tus ++ news, @LT.lt Nat _ p.1 D) ∧ news2 = (D, lst ys) :: (tus ++ news)) := by
  have l9 : Mine.Lead9 := trivial
  have l0 : Mine.Lead0 := trivial
  revert w l hv hs nc news
  intro w l hv hs nc news
  rename Mine.Lead0 => l0; clear l0
  dsimp only [CC, PP, KK]
  k_fill
  intro loose mean mg mb dp un gd cn cs' a ccd cl outer A₀ base h₀ L m s Q B F X N T hk hp hd hu hb hret
  obtain ⟨hl, hH, hok⟩ := hp
  k_dflt (walk_at "my enterC")
  k_steps
  (with_reducible rename News _ _ _ _ => N9)
  (with_reducible rename Fr _ _ _ _ => F9)
  (with_reducible rename Below _ _ _ _ => B9)
  (with_reducible rename Top _ _ _ _ _ _ => T9)
  (with_reducible rename Frag.In _ _ => X9)
  (with_reducible rename _ = Data.cell _ => d9)
  refine Halt.mk (iter_list_K F9 N9 (.tail _ (.tail _ (.tail _ (.tail _ (.tail _ hl))))) ?_)
  intro I h10 o10 hI10 F10 N10 hlt
  (with_reducible rename ∀ p ∈ news, p.1 < _ => l8)
  (repeat ((with_reducible rename _ ∧ _ => hc); obtain ⟨_, _⟩ := hc))
  refine wyLoop0 w l I _ hv nc hs news hH hok hl loose mean mg mb dp un gd cn cs' L a ccd cl outer base _ _ B9 X9 T9 (by omega) (by omega) s.os (fun p hp => Nat.lt_succ_of_lt (l8 p hp)) d9 (by assumption) (by assumption) (by assumption) (by assumption) _ o10 _ ?_ hI10 F10 N10 hlt (by exact hb) (by exact rfl) ?_
  · intro y
    by_cases h1 : y = Str.ofString "comes"
    · subst h1; rfl
    by_cases h2 : y = Str.ofString "ways"
    · subst h2; rfl
    by_cases h3 : y = Str.ofString "hours"
    · subst h3; rfl
    simp only [wyMap, if_neg h1, if_neg h2, if_neg h3]
    show (if y = Str.ofString "hours" then _ else _) = _
    rw [if_neg h3]
  · rintro m12 news12 s12 ⟨wyA, v1, vs, cW, oc, vc, tus, hm, rfl, hoc, hW, hK, ht⟩ F12 N12 hb12 ho12
    rw [List.take_length] at hK
    obtain ⟨heap12, gens12, drawn12, toks12, os12⟩ := s12
    have F13 := fr_cast F12 hm
    (try dsimp only)
    k_steps
    refine Halt.mk (wyComp3 w _ wyA cW _ (tus ++ news) (fun p hp => .tail _ hp) vs _ hK (Nat.lt_trans (by have := hok.l hs.length (Nat.le_refl _); rw [List.take_length] at this; exact this) (by decide)) (.tail _ (List.mem_append_left _ hW)) loose mean mg mb dp un gd cn cs' L a ccd cl outer base _ B9 X9 T9 (by omega) (by omega) s.os _ rfl _ F13 N12 (by exact hb12) (by exact ho12) _ _ ?_)
    intro D ys s' hP hLD hn0 F14 N14 hb14 ho14
    obtain ⟨heap14, gens14, drawn14, toks14, os14⟩ := s'
    have N15 : News _ _ heap14 ((D, lst ys) :: (tus ++ news)) := cb_drop N14 (fun p hp => by
      rcases List.mem_cons.mp hp with rfl | hp
      · exact .head _
      · exact .tail _ (.tail _ hp))
    clear N14 N12 F12 F13 N10 F10 N9 F9
    (try dsimp only)
    k_steps
    exact hret _ _ _ ⟨D, ys, tus, rfl, hP, fun p hp q hq => Nat.lt_trans (Nat.lt_succ_of_lt (l8 q hq)) (ht p hp), fun p hp => hn0 p (.tail _ hp), rfl⟩ (by k_asm) (by k_asm) hb14 ho14
end Mine
end
theorem Mine.calmLaw3 : True := by w_top off; first | walk1 | trivial
section
open PySem PySem.W PyProof.Rows PySem.Calls PySem.Spec PyProof.Rows.LCg
set_option maxRecDepth 100000
namespace Mine
def m9e87 : Lean.MacroM (Lean.TSyntax `tactic) := Mine.t9sh "wpAny _ _ ( execs ( List.cons ( Stmt.For _ _ _ _ _ ) _ ) _ ) _ _ _" []
def m9k49 : Lean.MacroM (Lean.TSyntax `tactic) := Mine.t9seq [Mine.t9red (Mine.m9e87), Mine.m9e23]
local macro_rules | `(tactic| k_steps) => Mine.m9k45
local macro_rules | `(tactic| walk_at $s) => Mine.mw s [("eval ListComp", Mine.m9e23), ("call ref", Mine.m9e23), ("compareOp NotEq ref ref", Mine.m9e23), ("execs cons", Mine.m9k49)]
theorem WsAt.monoS {news news' : List (Addr × Obj)} {vs : List Value} {r : List (List Int)} (h : WsAt news vs r) (k : ∀ p ∈ news, (∃ a c, p.2.data = .seq a c) → p ∈ news') : WsAt news' vs r := by
  induction h with
  | nil => exact .nil
  | cons cb wv h1 h2 _ ih => exact .cons cb wv (k _ h1 ⟨_, _, rfl⟩) h2 ih
noncomputable abbrev lawMap3 (m0 : Str → Option Value) (wl rl Eb Tt Dw le mo : Addr) : Str → Option Value := fun y =>
  if y = Str.ofString "least" then some (.ref le) else if y = Str.ofString "most" then some (.ref mo) else if y = Str.ofString "ways" then some (.ref Dw) else if y = Str.ofString "told" then some (.ref Tt) else if y = Str.ofString "ends" then some (.ref Eb) else if y = Str.ofString "replies" then some (.ref rl) else if y = Str.ofString "waits" then some (.ref wl) else m0 y
noncomputable def LongOf (ws sums : List Int) : Prop := ∃ srt : List Int, srt.Perm ws ∧ Ordered true srt ∧ sums = sumsL 0 srt
structure LawSt (nr : List (Addr × Obj)) (hl wl Tt wl2 el2 Dw le mo : Addr) (hs : List (Bool × Int)) (ps : List Str) (ws ws2 : List Int) (lev mov : List Value) (les mos : List Int) (yw : List Value) : Prop where
  hm : ∃ hv n2, (hl, W.listOf hv.toArray n2) ∈ nr ∧ HrAt nr hv hs
  wm : ∃ wv m2, (wl, W.listOf wv.toArray m2) ∈ nr ∧ IntsAre wv ws
  tm : (Tt, ({ cls := .type "tuple", data := .seq #[.ref wl2, .ref el2] } : Obj)) ∈ nr
  w2m : ∃ wv2 k1, (wl2, W.listOf wv2.toArray k1) ∈ nr ∧ IntsAre wv2 ws2
  em : ∃ ev2 k2, (el2, W.listOf ev2.toArray k2) ∈ nr ∧ BlV ev2 ((List.range hs.length).map fun k => takenB (rowT ps k))
  dm : (Dw, lst yw) ∈ nr
  ys : WsAt nr yw ((waysL hs).map (·.2))
  lm : ∃ c, (le, W.listOf lev.toArray c) ∈ nr
  mm : ∃ c, (mo, W.listOf mov.toArray c) ∈ nr
  li : IntsAre lev les
  mi : IntsAre mov mos
  lo : LongOf ws les
  mx : LongOf ws2 mos
  big : ∀ (L : Addr), (∀ p ∈ nr, @LT.lt Nat _ (L + 1 + 1) p.1) ∨ True
structure LawOk (cells : List Int) (hs : List (Bool × Int)) (gs : List (Int × Str)) (up : List (Str × Int)) (ws : List Int) (mt : Nat → Nat) (wt : Nat → Int) : Prop where
  upe : up.map (·.1) = gs.map (·.2)
  book : Book (bookOf gs).cps.toList (up.map (·.1))
  bkl : (bookOf gs).length ≤ 399
  nl : nls (bookOf gs).cps.toList = 4
  rep : ∀ r ∈ up, RepF r.1 r.2 ∧ 0 ≤ r.2 ∧ r.2 ≤ 400
  ff : fifo hs up [] = some ws
  wl : ws.length ≤ 8
  br : BrOk hs ((cells.zip hs).map pieceS) up mt wt
  wy : WyOk hs
  so : ∀ x ∈ up.map (·.1), PyData.strOk x = true
  wtl : (wtPre hs wt hs.length).length ≤ 8
theorem strs_carried : ∀ {vs : List Value} {ss : List Str}, StrV vs ss → CarriedAll vs (ss.map PyData.str)
  | _, _, .nil => .nil
  | _, _, .cons t r => .cons (.str _ t) (strs_carried r)
theorem strs_canLay : ∀ ss : List Str, (∀ x ∈ ss, PyData.strOk x = true) → PyData.canLayAll0 (ss.map PyData.str) = true
  | [], _ => rfl
  | x :: r, h => by simp [PyData.canLayAll0, PyData.canLay0, strs_canLay r fun y hy => h y (.tail _ hy), h x (.head _)]
theorem strs_depth : ∀ ss : List Str, PyData.depthAll (ss.map PyData.str) = 0
  | [] => rfl
  | _ :: r => by simp [PyData.depthAll, PyData.depth, strs_depth r]
theorem strs_shaped (ss : List Str) (h : ∀ x ∈ ss, PyData.strOk x = true) : SeqAt.shaped (.list (ss.map PyData.str)) = true := by
  simp [SeqAt.shaped, PyData.canLay0, PyData.depth, strs_canLay ss h, strs_depth]
theorem strs_eqv : ∀ ss : List Str, PyData.eqvAll (ss.map PyData.str) (ss.map PyData.str) = true
  | [] => by simp [PyData.eqvAll]
  | a :: r => by simp [PyData.eqvAll, PyData.eqv, strs_eqv r]
theorem ne_strs {prog : Program} {w : World} {A : Around} {E : Value → Shared → Prop} {s : Shared} {a b : Addr} {xs ys : List Value} {ss : List Str} {Q : Value → Shared → Prop} (ha : s.heap.IsList a xs.toArray) (hb : s.heap.IsList b ys.toArray) (hi : StrV xs ss) (hj : StrV ys ss) (hok : ∀ x ∈ ss, PyData.strOk x = true) (hu : A.units + 64 < cLine) (h : Q (.bool false) s) :
    wpAny (model prog w) A (compareOp .NotEq (.ref a) (.ref b)) Q E s :=
  ne_dataH (reads_newData ha (strs_carried hi)) (reads_newData hb (strs_carried hj)) (strs_shaped _ hok) (strs_shaped _ hok) hu (by rw [PyData.eqv, strs_eqv]; exact h)
set_option maxHeartbeats 16000000 in
theorem law3 (w : World) (L fa sc dr ca hl gl pl dl : Addr) (cv hv gv pv : List Value) (n1 n2 n3 n4 : Nat) (tb : Tok) (cells : List Int) (hs : List (Bool × Int)) (hl2 : hs.length = 8) (gs : List (Int × Str)) (hg8 : gs.length ≤ 8) (up : List (Str × Int)) (ws : List Int) (mt : Nat → Nat) (wt : Nat → Int) (ok : LawOk cells hs gs up ws mt wt)
    (nr : List (Addr × Obj)) (hH : HrAt nr hv hs) (hhl : (hl, W.listOf hv.toArray n2) ∈ nr) (hgl : (gl, W.listOf gv.toArray n3) ∈ nr) (hG : GuAt nr gv gs) (hpl : (pl, W.listOf pv.toArray n4) ∈ nr) (hP : StrV pv ((cells.zip hs).map pieceS))
    (oc1 oc2 : Obj) (vc1 vc2 : Option Value) (hc1 : oc1.data = .cell vc1) (hc2 : oc2.data = .cell vc2) (hnr : ∀ p ∈ nr, @LT.lt Nat _ (L + 1 + 1) p.1)
    (loose : List Str) (mean : ExcName → Option Value) (mg mb : Str → Option Value) (g : Heap) (h123 : @LT.lt Nat _ 123 L)
    (B : Below callerA g [] g) (X : (KK w).In g) (T : Top VV loose mean mg mb g) (os : OsState) (m : Str → Option Value) (hm : ∀ y, m y = lawMap2 sc dr ca hl gl pl (bookOf gs) tb y) (s : Shared) (F : Fr g L s.heap m) (N : News g L s.heap (lawNews L oc1 oc2 [(123, tabObj #[])] nr)) (hb : AllBare s.gens) (hos : s.os = os) (Q : Flow → Shared → Prop) (E : Value → Shared → Prop)
    (hcont : ∀ (wl rl Eb Tt Dw le mo wl2 el2 cc : Addr) (lev mov : List Value) (les mos : List Int) (yw : List Value) (nr : List (Addr × Obj)) (m : Str → Option Value) (s : Shared), LawSt nr hl wl Tt wl2 el2 Dw le mo hs ((cells.zip hs).map pieceS) ws (wtPre hs wt hs.length) lev mov les mos yw → (∀ p ∈ nr, @LT.lt Nat _ (L + 1 + 1) p.1) → (∀ y, m y = lawMap3 (lawMap2 sc dr ca hl gl pl (bookOf gs) tb) wl rl Eb Tt Dw le mo y) →
      Fr g L s.heap m → News g L s.heap (lawNews L oc1 oc2 [(123, tabObj #[rawInt 117, rawInt 4, .ref cc])] nr) → AllBare s.gens → s.os = os → wpAny (model PP w) (lawA L fa) (execs (lawTail 13) (lawEnv L fa)) Q E s) :
    wpAny (model PP w) (lawA L fa) (execs (lawTail 7) (lawEnv L fa)) Q E s := by
  have X0 := X
  dsimp only [PP, KK] at *
  revert X; k_fill; intro X
  have F0 := fr_cast F hm
  clear F hm
  dsimp only [lawA, lawEnv, lawTail] at *
  generalize hb1 : (fdBody lawStmt).drop 7 = body
  generalize hb3 : fdScope lawStmt = scope
  conv at hb1 => { lhs; whnf }
  conv at hb3 => { lhs; whnf }
  subst hb1 hb3
  obtain ⟨heap', gens', drawn', toks', os'⟩ := s
  have N0 : News g L heap' ((123, tabObj #[]) :: (L + 1, oc1) :: (L + 1 + 1, oc2) :: nr) := cb_drop N (by
    intro p hp
    first
      | ((revert p hp); (try dsimp only [lawNews, List.cons_append, List.nil_append]); (repeat' (first | with_reducible refine List.forall_mem_cons.mpr ⟨?_, ?_⟩ | with_reducible refine List.forall_mem_append.mpr ⟨?_, ?_⟩ | with_reducible exact List.forall_mem_nil _ | (intro _ _; ((repeat (first | with_reducible assumption | with_reducible exact List.mem_cons_self | (with_reducible refine List.mem_append_left _ ?_; (repeat (first | with_reducible exact List.mem_cons_self | with_reducible refine List.mem_cons_of_mem _ ?_ | with_reducible assumption)); done) | with_reducible refine List.mem_append_right _ ?_ | with_reducible refine List.mem_cons_of_mem _ ?_)); done)) | ((repeat (first | with_reducible assumption | with_reducible exact List.mem_cons_self | (with_reducible refine List.mem_append_left _ ?_; (repeat (first | with_reducible exact List.mem_cons_self | with_reducible refine List.mem_cons_of_mem _ ?_ | with_reducible assumption)); done) | with_reducible refine List.mem_append_right _ ?_ | with_reducible refine List.mem_cons_of_mem _ ?_)); done))); done)
      | (simp only [lawNews, List.cons_append, List.nil_append, List.mem_cons] at hp ⊢; rcases hp with h | h | h | h <;> simp [h]))
  clear N
  k_steps
  refine Halt.mk (law_call (c_byline w hl (bookOf gs) tb hv n2 hs up ws ((L + 1, oc1) :: (L + 1 + 1, oc2) :: nr)) B F0 X N0 T ⟨ok.bkl, ?_, hH.mono fun p hp => .tail _ (.tail _ hp), .tail _ (.tail _ hhl), by omega, ok.book, ok.rep, ok.ff⟩ (by decide) (by exact hb) ?_)
  · exact List.forall_mem_cons.mpr ⟨neN (Nat.ne_of_gt (Nat.lt_succ_of_lt h123)), List.forall_mem_cons.mpr ⟨neN (Nat.ne_of_gt (Nat.lt_succ_of_lt (Nat.lt_succ_of_lt h123))), fun p hp => neN (Nat.ne_of_gt (Nat.lt_trans (Nat.lt_succ_of_lt (Nat.lt_succ_of_lt h123)) (hnr p hp)))⟩⟩
  rintro v news' s2 ⟨Tb, Eb, wl, rl, cc, t1, t2, t3, wv, rv, m1, m2, k, rfl, hwv, hrv, hk, o1, o2, o3, o4, rfl⟩ F2 N2 hb2 ho2
  obtain ⟨heap2, gens2, drawn2, toks2, os2⟩ := s2
  (try dsimp only at F2)
  (try dsimp only at N2)
  rw [ok.nl] at hk
  have hk5 : k = 5 := hk
  subst hk5
  (try dsimp only)
  k_steps
  (with_reducible rename Fr _ _ _ _ => F3)
  (with_reducible rename News _ _ _ _ => N3)
  refine Halt.mk (lawEval8 w L fa gl gv n3 gs _ (hG.mono fun p hp => by (repeat (first | with_reducible assumption | refine List.mem_cons_of_mem _ ?_))) (by (repeat (first | with_reducible assumption | refine List.mem_cons_of_mem _ ?_))) hg8 loose mean mg mb g _ B X0 T os rfl _ F3 N3 (by exact hb2) (by exact ho2.trans hos) _ _ _ (by with_unfolding_all rfl) ?_)
  intro D8 ys8 s8 hP8 hLD8 hn8 F8 N8 hb8 ho8
  obtain ⟨heap8, gens8, drawn8, toks8, os8⟩ := s8
  (try dsimp only at F8)
  (try dsimp only at N8)
  rw [← ok.upe] at hP8
  (try dsimp only)
  k_steps
  refine Halt.mk (ne_strs (N8.isList (.tail _ (.tail _ (.tail _ (.head _))))) (N8.isList (.head _)) hrv hP8 ok.so (by ke_room) ?_)
  (try dsimp only)
  k_steps
  refine Halt.mk ?_
  (refine ne_dataH (by ke_read) (by ke_read) (by ke_shaped) (by ke_shaped) (by ke_room) ?_)
  ke_norm
  k_steps
  (with_reducible rename Fr _ _ _ _ => F9)
  (with_reducible rename News _ _ _ _ => N9)
  have N10 : News g L _ ((rl, W.listOf rv.toArray m1) :: (wl, W.listOf wv.toArray m2) :: (123, tabObj #[rawInt 117, rawInt 4, .ref cc]) :: (L + 1, oc1) :: (L + 1 + 1, oc2) :: nr) := cb_drop N9 (fun p hp => .tail _ (.tail _ (.tail _ (.tail _ hp))))
  clear N9
  refine Halt.mk (law_call (c_brackets w hl pl rl hv pv rv n2 n4 m1 hs _ up mt wt _) B F9 X N10 T ⟨.tail _ (.tail _ (.tail _ (.tail _ (.tail _ hhl)))), hH.mono fun p hp => .tail _ (.tail _ (.tail _ (.tail _ (.tail _ hp)))), .tail _ (.tail _ (.tail _ (.tail _ (.tail _ hpl)))), hP, .head _, hrv, ok.br⟩ (by decide) (by exact hb8) ?_)
  rintro v news' s10 ⟨Tt, wl2, el2, wv2, ev2, k1, k2, rfl, hwv2, hev2, p1, p2, p3, rfl⟩ F11 N11 hb11 ho11
  obtain ⟨heap11, gens11, drawn11, toks11, os11⟩ := s10
  (try dsimp only at F11)
  (try dsimp only at N11)
  clear F9 N10
  (try dsimp only)
  k_steps
  (with_reducible rename Fr _ _ _ _ => F12)
  (with_reducible rename News _ _ _ _ => N12)
  refine Halt.mk (law_call (c_ways w hl hv hs n2 _) B F12 X N12 T ⟨.tail _ (.tail _ (.tail _ (.tail _ (.tail _ (.tail _ (.tail _ (.tail _ hhl))))))), hH.mono fun p hp => .tail _ (.tail _ (.tail _ (.tail _ (.tail _ (.tail _ (.tail _ (.tail _ hp))))))), ok.wy⟩ (by decide) (by exact hb11) ?_)
  rintro v news' s13 ⟨Dw, yw, tus, rfl, hWs, q1, q2, rfl⟩ F13 N13 hb13 ho13
  obtain ⟨heap13, gens13, drawn13, toks13, os13⟩ := s13
  (try dsimp only at F13)
  (try dsimp only at N13)
  clear F12 N12
  (try dsimp only)
  k_steps
  (with_reducible rename Fr _ _ _ _ => F14)
  (with_reducible rename News _ _ _ _ => N14)
  have b1 : @LT.lt Nat _ (L + 1 + 1) rl := o1 _ (.tail _ (.head _))
  have b2 : @LT.lt Nat _ (L + 1 + 1) wl := Nat.lt_trans b1 o2
  have b3 : @LT.lt Nat _ (L + 1 + 1) wl2 := Nat.lt_trans b1 (p3 _ (.head _))
  have b4 : @LT.lt Nat _ (L + 1 + 1) el2 := Nat.lt_trans b3 p1
  have b5 : @LT.lt Nat _ (L + 1 + 1) Tt := Nat.lt_trans b4 p2
  have b6 : ∀ p ∈ tus, @LT.lt Nat _ (L + 1 + 1) p.1 := fun p hp => Nat.lt_trans b5 (q1 p hp _ (.head _))
  have b7 : @LT.lt Nat _ (L + 1 + 1) Dw := Nat.lt_trans b5 (q2 _ (List.mem_append_right _ (.head _)))
  have N15 : News g L _ ((L + 1, oc1) :: (L + 1 + 1, oc2) :: (123, tabObj #[rawInt 117, rawInt 4, .ref cc]) :: ((Dw, lst yw) :: (tus ++ ((Tt, ({ cls := .type "tuple", data := .seq #[.ref wl2, .ref el2] } : Obj)) :: (wl2, W.listOf wv2.toArray k1) :: (el2, W.listOf ev2.toArray k2) :: (rl, W.listOf rv.toArray m1) :: (wl, W.listOf wv.toArray m2) :: nr)))) := cb_drop N14 (by
    intro p hp
    first
      | ((revert p hp); (repeat' (first | with_reducible refine List.forall_mem_cons.mpr ⟨?_, ?_⟩ | with_reducible refine List.forall_mem_append.mpr ⟨?_, ?_⟩ | with_reducible exact List.forall_mem_nil _ | (intro _ _; ((repeat (first | with_reducible assumption | with_reducible exact List.mem_cons_self | (with_reducible refine List.mem_append_left _ ?_; (repeat (first | with_reducible exact List.mem_cons_self | with_reducible refine List.mem_cons_of_mem _ ?_ | with_reducible assumption)); done) | with_reducible refine List.mem_append_right _ ?_ | with_reducible refine List.mem_cons_of_mem _ ?_)); done)) | ((repeat (first | with_reducible assumption | with_reducible exact List.mem_cons_self | (with_reducible refine List.mem_append_left _ ?_; (repeat (first | with_reducible exact List.mem_cons_self | with_reducible refine List.mem_cons_of_mem _ ?_ | with_reducible assumption)); done) | with_reducible refine List.mem_append_right _ ?_ | with_reducible refine List.mem_cons_of_mem _ ?_)); done))); done)
      | (simp only [List.mem_append, List.mem_cons] at hp ⊢; rcases hp with h | h | h | h | h | h | h | h | h | h | h <;> simp [h]))
  have hWs2 : WsAt ((Dw, lst yw) :: (tus ++ ((Tt, ({ cls := .type "tuple", data := .seq #[.ref wl2, .ref el2] } : Obj)) :: (wl2, W.listOf wv2.toArray k1) :: (el2, W.listOf ev2.toArray k2) :: (rl, W.listOf rv.toArray m1) :: (wl, W.listOf wv.toArray m2) :: nr))) yw ((waysL hs).map (·.2)) := hWs.monoS (kS_tail (kS_app (kS_cons (kS_cons (kS_cons (kS_cons (kS_cons (kS_skip (fun ⟨_, _, hd⟩ => by cases hd) (kS_skip (fun ⟨_, _, hd⟩ => by rw [hc1] at hd; cases hd) (kS_skip (fun ⟨_, _, hd⟩ => by rw [hc2] at hd; cases hd) kS_refl))))))))))
  have hbig : ∀ p ∈ (Dw, lst yw) :: (tus ++ ((Tt, ({ cls := .type "tuple", data := .seq #[.ref wl2, .ref el2] } : Obj)) :: (wl2, W.listOf wv2.toArray k1) :: (el2, W.listOf ev2.toArray k2) :: (rl, W.listOf rv.toArray m1) :: (wl, W.listOf wv.toArray m2) :: nr)), @LT.lt Nat _ (L + 1 + 1) p.1 := by
    refine List.forall_mem_cons.mpr ⟨b7, List.forall_mem_append.mpr ⟨b6, List.forall_mem_cons.mpr ⟨b5, List.forall_mem_cons.mpr ⟨b3, List.forall_mem_cons.mpr ⟨b4, List.forall_mem_cons.mpr ⟨b1, List.forall_mem_cons.mpr ⟨b2, hnr⟩⟩⟩⟩⟩⟩⟩
  have hsubn : ∀ p ∈ nr, p ∈ (Dw, lst yw) :: (tus ++ ((Tt, ({ cls := .type "tuple", data := .seq #[.ref wl2, .ref el2] } : Obj)) :: (wl2, W.listOf wv2.toArray k1) :: (el2, W.listOf ev2.toArray k2) :: (rl, W.listOf rv.toArray m1) :: (wl, W.listOf wv.toArray m2) :: nr)) := fun p hp => .tail _ (List.mem_append_right _ (.tail _ (.tail _ (.tail _ (.tail _ (.tail _ hp))))))
  have u1 : (Dw, lst yw) ∈ (Dw, lst yw) :: (tus ++ ((Tt, ({ cls := .type "tuple", data := .seq #[.ref wl2, .ref el2] } : Obj)) :: (wl2, W.listOf wv2.toArray k1) :: (el2, W.listOf ev2.toArray k2) :: (rl, W.listOf rv.toArray m1) :: (wl, W.listOf wv.toArray m2) :: nr)) := .head _
  have u2 : (Tt, ({ cls := .type "tuple", data := .seq #[.ref wl2, .ref el2] } : Obj)) ∈ (Dw, lst yw) :: (tus ++ ((Tt, ({ cls := .type "tuple", data := .seq #[.ref wl2, .ref el2] } : Obj)) :: (wl2, W.listOf wv2.toArray k1) :: (el2, W.listOf ev2.toArray k2) :: (rl, W.listOf rv.toArray m1) :: (wl, W.listOf wv.toArray m2) :: nr)) := .tail _ (List.mem_append_right _ (.head _))
  have u3 : (wl2, W.listOf wv2.toArray k1) ∈ (Dw, lst yw) :: (tus ++ ((Tt, ({ cls := .type "tuple", data := .seq #[.ref wl2, .ref el2] } : Obj)) :: (wl2, W.listOf wv2.toArray k1) :: (el2, W.listOf ev2.toArray k2) :: (rl, W.listOf rv.toArray m1) :: (wl, W.listOf wv.toArray m2) :: nr)) := .tail _ (List.mem_append_right _ (.tail _ (.head _)))
  have u4 : (el2, W.listOf ev2.toArray k2) ∈ (Dw, lst yw) :: (tus ++ ((Tt, ({ cls := .type "tuple", data := .seq #[.ref wl2, .ref el2] } : Obj)) :: (wl2, W.listOf wv2.toArray k1) :: (el2, W.listOf ev2.toArray k2) :: (rl, W.listOf rv.toArray m1) :: (wl, W.listOf wv.toArray m2) :: nr)) := .tail _ (List.mem_append_right _ (.tail _ (.tail _ (.head _))))
  have u5 : (wl, W.listOf wv.toArray m2) ∈ (Dw, lst yw) :: (tus ++ ((Tt, ({ cls := .type "tuple", data := .seq #[.ref wl2, .ref el2] } : Obj)) :: (wl2, W.listOf wv2.toArray k1) :: (el2, W.listOf ev2.toArray k2) :: (rl, W.listOf rv.toArray m1) :: (wl, W.listOf wv.toArray m2) :: nr)) := .tail _ (List.mem_append_right _ (.tail _ (.tail _ (.tail _ (.tail _ (.head _))))))
  generalize (Dw, lst yw) :: (tus ++ ((Tt, ({ cls := .type "tuple", data := .seq #[.ref wl2, .ref el2] } : Obj)) :: (wl2, W.listOf wv2.toArray k1) :: (el2, W.listOf ev2.toArray k2) :: (rl, W.listOf rv.toArray m1) :: (wl, W.listOf wv.toArray m2) :: nr)) = nrA at *
  clear N14
  refine Halt.mk (law_call (c_longest w wl wv ws m2 _) B F14 X N15 T ⟨.tail _ (.tail _ (.tail _ u5)), hwv, ok.wl⟩ (by decide) (by exact hb13) ?_)
  rintro v news' s16 ⟨sl1, sv1, c1, srt1, rfl, hsv1, hpm1, hor1, hlt1, rfl⟩ F16 N16 hb16 ho16
  obtain ⟨heap16, gens16, drawn16, toks16, os16⟩ := s16
  (try dsimp only at F16)
  (try dsimp only at N16)
  clear F14 N15
  (try dsimp only)
  k_steps
  (with_reducible rename Fr _ _ _ _ => F17)
  (with_reducible rename News _ _ _ _ => N17)
  refine Halt.mk (law_call (c_longest w wl2 wv2 (wtPre hs wt hs.length) k1 _) B F17 X N17 T ⟨.tail _ (.tail _ (.tail _ (.tail _ u3))), hwv2, ok.wtl⟩ (by decide) (by exact hb16) ?_)
  rintro v news' s18 ⟨sl2, sv2, c2, srt2, rfl, hsv2, hpm2, hor2, hlt2, rfl⟩ F18 N18 hb18 ho18
  obtain ⟨heap18, gens18, drawn18, toks18, os18⟩ := s18
  (try dsimp only at F18)
  (try dsimp only at N18)
  clear F17 N17
  (try dsimp only)
  k_steps
  (with_reducible rename Fr _ _ _ _ => F19)
  (with_reducible rename News _ _ _ _ => N19)
  refine Halt.mk (hcont wl rl Eb Tt Dw sl1 sl2 wl2 el2 cc sv1 sv2 (sumsL 0 srt1) (sumsL 0 srt2) yw ((sl2, W.listOf sv2.toArray c2) :: (sl1, W.listOf sv1.toArray c1) :: nrA) _ _
    ⟨⟨hv, n2, .tail _ (.tail _ (hsubn _ hhl)), hH.mono fun p hp => .tail _ (.tail _ (hsubn _ hp))⟩, ⟨wv, m2, .tail _ (.tail _ u5), hwv⟩, .tail _ (.tail _ u2), ⟨wv2, k1, .tail _ (.tail _ u3), hwv2⟩, ⟨ev2, k2, .tail _ (.tail _ u4), hev2⟩, .tail _ (.tail _ u1), hWs2.mono fun p hp => .tail _ (.tail _ hp), ⟨c1, .tail _ (.head _)⟩, ⟨c2, .head _⟩, hsv1, hsv2, ⟨srt1, hpm1, hor1, rfl⟩, ⟨srt2, hpm2, hor2, rfl⟩, fun _ => .inr trivial⟩
    (List.forall_mem_cons.mpr ⟨Nat.lt_trans (hlt1 (L + 1 + 1, oc2) (.tail _ (.head _))) (hlt2 _ (.head _)), List.forall_mem_cons.mpr ⟨hlt1 (L + 1 + 1, oc2) (.tail _ (.head _)), hbig⟩⟩) ?_ F19 (cb_drop N19 ?_) (by exact hb18) (by exact ho18.trans (ho16.trans (ho13.trans (ho11.trans ho8))))  )
  · intro y
    rfl
  · intro p hp
    first
      | ((revert p hp); (try dsimp only [lawNews, List.cons_append, List.nil_append]); (repeat' (first | with_reducible refine List.forall_mem_cons.mpr ⟨?_, ?_⟩ | with_reducible refine List.forall_mem_append.mpr ⟨?_, ?_⟩ | with_reducible exact List.forall_mem_nil _ | (intro _ _; ((repeat (first | with_reducible assumption | with_reducible exact List.mem_cons_self | (with_reducible refine List.mem_append_left _ ?_; (repeat (first | with_reducible exact List.mem_cons_self | with_reducible refine List.mem_cons_of_mem _ ?_ | with_reducible assumption)); done) | with_reducible refine List.mem_append_right _ ?_ | with_reducible refine List.mem_cons_of_mem _ ?_)); done)) | ((repeat (first | with_reducible assumption | with_reducible exact List.mem_cons_self | (with_reducible refine List.mem_append_left _ ?_; (repeat (first | with_reducible exact List.mem_cons_self | with_reducible refine List.mem_cons_of_mem _ ?_ | with_reducible assumption)); done) | with_reducible refine List.mem_append_right _ ?_ | with_reducible refine List.mem_cons_of_mem _ ?_)); done))); done)
      | (simp only [lawNews, List.cons_append, List.nil_append, List.mem_cons] at hp ⊢; rcases hp with h | h | h | h | h | h <;> simp [h])
end Mine
end
theorem Mine.calmLaw4 : True := by w_top off; first | walk1 | trivial
section
open PySem PySem.W PyProof.Rows PySem.Calls PySem.Spec PyProof.Rows.LCg
set_option maxRecDepth 100000
namespace Mine
local macro_rules | `(tactic| k_steps) => Mine.m9k45
local macro_rules | `(tactic| walk_at $s) => Mine.mw s [("ite", Mine.m9k6), ("eval ListComp", Mine.m9e23), ("call ref", Mine.m9e23), ("compareOp In bool ref", Mine.m9e23), ("subscriptTail Name Constant ref int", Mine.m9e23), ("call builtin:len", Mine.m9e23), ("compareOp Eq ref ref", Mine.m9e23)]
theorem in_trues {prog : Program} {w : World} {A : Around} {E : Value → Shared → Prop} {s : Shared} {l : Addr} {n : Nat} {Q : Value → Shared → Prop} (hl : s.heap.IsList l (List.replicate n (Value.bool true)).toArray) (h : Q (.bool false) s) : wpAny (model prog w) A (compareOp .In (.bool false) (.ref l)) Q E s := by
  refine PySem.SeqAt.in_listAt (fun _ => false) hl (fun y hy => ?_) ?_
  · have e : y = .bool true := List.eq_of_mem_replicate (by simpa using hy)
    rw [e]
    exact PySem.SeqAt.EqAt.bool_bool true false
  · have e : (List.replicate n (Value.bool true)).toArray.any (fun _ => false) = false := by
      rw [Array.any_eq_false]; intro i hi; simp
    rw [e]
    exact h
theorem ints_get {vs : List Value} {ns : List Int} (h : IntsAre vs ns) : ∀ {i : Nat} {n : Int}, ns[i]? = some n → ∃ t, vs[i]? = some (.int n t) := by
  induction h with
  | nil => intro i v hv; simp at hv
  | cons n t _ ih =>
    intro i v hv
    cases i with
    | zero => simp at hv; subst hv; exact ⟨t, by simp⟩
    | succ i => exact ih (by simpa using hv)
structure WayOk (wys : List (List Int)) (les mos : List Int) : Prop where
  n : wys.length ≤ 1000
  w8 : ∀ ws ∈ wys, ws.length ≤ 8
  l4 : les.length = 4
  m4 : mos.length = 4
  row : ∀ (i : Nat) (ws rws : List Int), wys[i]? = some ws → LongOf ws rws → rws.length = 4 ∧ Between les rws mos ∧ rws[3]? = les[3]? ∧ (rws = les ↔ i = 0) ∧ (rws = mos ↔ i + 1 = wys.length)
noncomputable abbrev lpMap (Dw le mo : Addr) (vp vw vr : Option Value) (m0 : Str → Option Value) : Str → Option Value := fun y =>
  if y = Str.ofString "row" then vr else if y = Str.ofString "way" then vw else if y = Str.ofString "place" then vp else if y = Str.ofString "least" then some (.ref le) else if y = Str.ofString "most" then some (.ref mo) else if y = Str.ofString "ways" then some (.ref Dw) else m0 y
noncomputable def LpInv (Dw le mo : Addr) (m0 : Str → Option Value) (news0 : List (Addr × Obj)) (m : Str → Option Value) (news : List (Addr × Obj)) : Prop := news = news0 ∧ ∃ vp vw vr, ∀ y, m y = lpMap Dw le mo vp vw vr m0 y
set_option maxHeartbeats 16000000 in
theorem lwTurn (w : World) (L fa Dw le mo e it : Addr) (yw lv mv : List Value) (c2 c3 : Nat) (wys : List (List Int)) (les mos : List Int) (m0 : Str → Option Value) (news0 : List (Addr × Obj)) (hok : WayOk wys les mos) (hW : WsAt news0 yw wys) (hDw : (Dw, lst yw) ∈ news0) (hle : (le, W.listOf lv.toArray c2) ∈ news0) (hmo : (mo, W.listOf mv.toArray c3) ∈ news0) (hli : IntsAre lv les) (hmi : IntsAre mv mos)
    (loose : List Str) (mean : ExcName → Option Value) (mg mb : Str → Option Value) (g : Heap)
    (B : Below callerA g [] g) (X : (KK w).In g) (T : Top VV loose mean mg mb g) (os : OsState) (R : Result → Shared → Prop)
    (i : Nat) (v : Value) (its new : List (Addr × Obj)) (m : Str → Option Value) (news : List (Addr × Obj)) (s : Shared) (hi : i < yw.length) (hV : VE yw i v new) (hS : SE e it Dw (i + 1) its) (hj : LpInv Dw le mo m0 news0 m news)
    (hnew : ∀ p ∈ new, @LT.lt Nat _ L p.1 ∧ (∀ q ∈ its, q.1 ≠ p.1) ∧ (∀ q ∈ news, @LT.lt Nat _ q.1 p.1)) (F : Fr g L s.heap m) (N : News g L s.heap (its ++ (new ++ news))) (hb : AllBare s.gens) (hos : s.os = os)
    (E E2 : Value → Shared → Prop) :
      wpAny (model PP w) (lawA L fa) (assign (forTarget (lawS 13)) (lawEnv L fa) v) (fun _ s₂ => wpAny (model PP w) (lawA L fa) (execs (forBody (lawS 13)) (lawEnv L fa)) (fun f s₃ => match f with
          | .next | .cont => EndS (LpInv Dw le mo m0 news0) g L its os s₃
          | .brk => R (.ok .next) s₃
          | .ret v => R (.ok (.ret v)) s₃) E s₂) E2 s := by
  have l9 : Mine.Lead9 := trivial
  have l0 : Mine.Lead0 := trivial
  revert hok hW hDw hle hmo hli hmi B X T hi hV hS hj hnew F N hb hos
  revert w L fa Dw le mo e it yw lv mv c2 c3 wys les mos m0 news0 loose mean mg mb g os R i v its new m news s E E2
  intro w L fa Dw le mo e it yw lv mv c2 c3 wys les mos m0 news0 loose mean mg mb g os R i v its new m news s E E2
  intros hok hW hDw hle hmo hli hmi B X T hi hV hS hj hnew F N hb hos
  rename Mine.Lead0 => l0; clear l0
  have X0 := X
  dsimp only [PP, KK] at *
  revert X; k_fill; intro X
  obtain ⟨rfl, vp, vw, vr, hm⟩ := hj
  obtain ⟨x, Tt, tt, hx, rfl, rfl⟩ := hV
  obtain ⟨old, oi, rfl, hoi⟩ := hS
  obtain ⟨wa, ws, cb, wv, rfl, hwi, hwm, hwv⟩ := hW.get hx
  have hwl := hW.length
  obtain ⟨-, hne1, hne2⟩ := hnew _ (.head _)
  have t1 := hne1 _ (.head _); have t2 := hne1 _ (.tail _ (.head _))
  have t6 : ∀ p ∈ news, @LT.lt Nat _ p.1 Tt := hne2
  clear hne1 hne2 hnew
  dsimp only at t1 t2
  have F0 := fr_cast F hm
  clear F hm
  dsimp only [lawA, lawEnv] at *
  generalize hb1 : forBody (lawS 13) = body
  generalize hb2 : forTarget (lawS 13) = target
  generalize hb3 : fdScope lawStmt = scope
  conv at hb1 => { lhs; whnf }
  conv at hb2 => { lhs; whnf }
  conv at hb3 => { lhs; whnf }
  subst hb1 hb2 hb3
  obtain ⟨heap', gens', drawn', toks', os'⟩ := s
  simp only [List.cons_append, List.nil_append] at N ⊢
  k_steps
  (with_reducible rename Fr _ _ _ _ => F9)
  (with_reducible rename News _ _ _ _ => N9)
  have hl8 : ws.length ≤ 8 := hok.w8 ws (List.mem_of_getElem? hwi)
  refine Halt.mk (law_call (c_longest w wa wv ws cb _) B F9 X N9 T ⟨by k_mem, hwv, hl8⟩ (by decide) (by exact hb) ?_)
  rintro v news' s16 ⟨ro, rv, c1, srt, rfl, hrv, hpm, hor, hlt, rfl⟩ F16 N16 hb16 ho16
  obtain ⟨heap16, gens16, drawn16, toks16, os16⟩ := s16
  (try dsimp only at F16)
  (try dsimp only at N16)
  clear F9 N9
  have hrow := hok.row i ws (sumsL 0 srt) hwi ⟨srt, hpm, hor, rfl⟩
  generalize sumsL 0 srt = rws at *
  obtain ⟨r4, hbt, r3, hfst, hlst⟩ := hrow
  (try dsimp only)
  k_steps
  (with_reducible rename Fr _ _ _ _ => F17)
  (with_reducible rename News _ _ _ _ => N17)
  refine Halt.mk (lawEval13 w L fa le ro mo lv rv mv c2 c1 c3 les rws mos hli hrv hmi 4 (by decide) hok.l4 r4 hok.m4 hbt _ (by (repeat (first | with_reducible assumption | exact List.mem_cons_self | refine List.mem_cons_of_mem _ ?_))) (by (repeat (first | with_reducible assumption | exact List.mem_cons_self | refine List.mem_cons_of_mem _ ?_))) (by (repeat (first | with_reducible assumption | exact List.mem_cons_self | refine List.mem_cons_of_mem _ ?_))) loose mean mg mb g _ B X0 T os rfl rfl rfl _ F17 N17 (by exact hb16) (by exact ho16.trans hos) _ _ _ (by with_unfolding_all rfl) ?_)
  intro D8 s8 hLD8 hn8 F8 N8 hb8 ho8
  obtain ⟨heap8, gens8, drawn8, toks8, os8⟩ := s8
  (try dsimp only at F8)
  (try dsimp only at N8)
  clear F17 N17
  (try dsimp only)
  k_steps
  refine Halt.mk (in_trues (N8.isList (.head _)) ?_)
  (try dsimp only)
  k_steps
  obtain ⟨a3, hr3a⟩ : ∃ a, rws[3]? = some a := ⟨_, List.getElem?_eq_getElem (by omega)⟩
  obtain ⟨ta, hra⟩ := ints_get hrv hr3a
  obtain ⟨tb, hla⟩ := ints_get hli (r3 ▸ hr3a)
  refine Halt.mk (kim_list (l := rv) (x := .int a3 ta) (lo := W.listOf rv.toArray c1) (n := c1) N8 (by (repeat (first | with_reducible assumption | exact List.mem_cons_self | refine List.mem_cons_of_mem _ ?_))) rfl rfl (by omega) (by omega) hra ?_)
  k_steps
  refine Halt.mk (kim_list (l := lv) (x := .int a3 tb) (lo := W.listOf lv.toArray c2) (n := c2) N8 (by (repeat (first | with_reducible assumption | exact List.mem_cons_self | refine List.mem_cons_of_mem _ ?_))) rfl rfl (by omega) (by omega) hla ?_)
  k_steps
  try exact absurd rfl (by assumption)
  refine Halt.mk (ke_eq_ints (N8.isList (by (repeat (first | with_reducible assumption | exact List.mem_cons_self | refine List.mem_cons_of_mem _ ?_)))) (N8.isList (by (repeat (first | with_reducible assumption | exact List.mem_cons_self | refine List.mem_cons_of_mem _ ?_)))) hrv hli (by ke_room) ?_)
  have hA : (decide (rws = les) != ((i : Int) == 0)) = false := by
    rw [bne_eq_false_iff_eq]
    by_cases h0 : i = 0
    · rw [decide_eq_true (hfst.mpr h0), h0]; rfl
    · rw [decide_eq_false (fun q => h0 (hfst.mp q))]; exact (beq_eq_false_iff_ne.mpr (by omega)).symm
  k_steps
  refine Halt.mk (ke_eq_ints (N8.isList (by (repeat (first | with_reducible assumption | exact List.mem_cons_self | refine List.mem_cons_of_mem _ ?_)))) (N8.isList (by (repeat (first | with_reducible assumption | exact List.mem_cons_self | refine List.mem_cons_of_mem _ ?_)))) hrv hmi (by ke_room) ?_)
  k_steps
  refine Halt.mk (call_len_list (N8.isList (by (repeat (first | with_reducible assumption | exact List.mem_cons_self | refine List.mem_cons_of_mem _ ?_)))) (by rw [List.size_toArray]; have := hok.n; omega) ?_)
  rw [show (yw.toArray.size : Int) = (wys.length : Int) by rw [List.size_toArray, hwl]]
  have hB : (decide (rws = mos) != ((i : Int) == (wys.length : Int) - 1)) = false := by
    rw [bne_eq_false_iff_eq]
    by_cases h0 : i + 1 = wys.length
    · rw [decide_eq_true (hlst.mpr h0)]; exact (beq_iff_eq.mpr (by omega)).symm
    · rw [decide_eq_false (fun q => h0 (hlst.mp q))]; exact (beq_eq_false_iff_ne.mpr (by omega)).symm
  k_steps
  refine ⟨_, _, ⟨rfl, some (.int i tt), some (.ref wa), some (.ref ro), ?_⟩, F8, cb_drop N8 ?_, hb8, ho8⟩
  · intro y
    by_cases h1 : y = Str.ofString "row"; (focus (subst h1; rfl)); by_cases h2 : y = Str.ofString "way"; (focus (subst h2; rfl)); by_cases h3 : y = Str.ofString "place"; (focus (subst h3; rfl))
    simp only [lpMap, if_neg h1, if_neg h2, if_neg h3]
  · intro p hp
    first
      | ((revert p hp); (try dsimp only [List.cons_append, List.nil_append]); (repeat' (first | with_reducible refine List.forall_mem_cons.mpr ⟨?_, ?_⟩ | with_reducible refine List.forall_mem_append.mpr ⟨?_, ?_⟩ | with_reducible exact List.forall_mem_nil _ | (intro _ _; ((repeat (first | with_reducible assumption | with_reducible exact List.mem_cons_self | (with_reducible refine List.mem_append_left _ ?_; (repeat (first | with_reducible exact List.mem_cons_self | with_reducible refine List.mem_cons_of_mem _ ?_ | with_reducible assumption)); done) | with_reducible refine List.mem_append_right _ ?_ | with_reducible refine List.mem_cons_of_mem _ ?_)); done)) | ((repeat (first | with_reducible assumption | with_reducible exact List.mem_cons_self | (with_reducible refine List.mem_append_left _ ?_; (repeat (first | with_reducible exact List.mem_cons_self | with_reducible refine List.mem_cons_of_mem _ ?_ | with_reducible assumption)); done) | with_reducible refine List.mem_append_right _ ?_ | with_reducible refine List.mem_cons_of_mem _ ?_)); done))); done)
      | (simp only [List.cons_append, List.nil_append, List.mem_cons] at hp ⊢; rcases hp with h | h | h <;> simp [h])
end Mine
end
theorem Mine.calmLaw4b : True := by w_top off; first | walk1 | trivial
section
open PySem PySem.W PyProof.Rows PySem.Calls PySem.Spec PyProof.Rows.LCg
set_option maxRecDepth 100000
namespace Mine
local macro_rules | `(tactic| k_steps) => Mine.m9k45
local macro_rules | `(tactic| walk_at $s) => Mine.mw s [("exec For Tuple Call cons nil", Mine.m9e23), ("call type:enumerate", Mine.m9e23)]
theorem lwLoop (w : World) (L fa Dw le mo e it : Addr) (yw lv mv : List Value) (c2 c3 : Nat) (wys : List (List Int)) (les mos : List Int) (m0 : Str → Option Value) (news0 : List (Addr × Obj)) (hok : WayOk wys les mos) (hW : WsAt news0 yw wys) (hDw : (Dw, lst yw) ∈ news0) (hle : (le, W.listOf lv.toArray c2) ∈ news0) (hmo : (mo, W.listOf mv.toArray c3) ∈ news0) (hli : IntsAre lv les) (hmi : IntsAre mv mos)
    (loose : List Str) (mean : ExcName → Option Value) (mg mb : Str → Option Value) (g : Heap)
    (B : Below callerA g [] g) (X : (KK w).In g) (T : Top VV loose mean mg mb g) (os : OsState) (R : Result → Shared → Prop) (hlt : ∀ p ∈ news0, @LT.lt Nat _ p.1 it) (hie : @LT.lt Nat _ it e)
    (oi : Obj) (hoi : LIter oi Dw 0) (m : Str → Option Value) (s : Shared) (hj : LpInv Dw le mo m0 news0 m news0) (F : Fr g L s.heap m) (N : News g L s.heap ((e, enumObj it 0 .none) :: (it, oi) :: news0)) (hb : AllBare s.gens) (hos : s.os = os)
    (done : ∀ (vp vw vr : Option Value) (m : Str → Option Value) (s : Shared), (∀ y, m y = lpMap Dw le mo vp vw vr m0 y) → Fr g L s.heap m → News g L s.heap news0 → AllBare s.gens → s.os = os → R (.ok .next) s) :
    codeAny (model PP w) (lawA L fa) (.forLoop (forTarget (lawS 13)) (.ref e) (forBody (lawS 13)) [] (lawEnv L fa)) R s := by
  generalize hb2 : forTarget (lawS 13) = target
  have hb2' := hb2
  conv at hb2 => { lhs; whnf }
  subst hb2
  refine for_src (prog := PP) (w := w) (A := lawA L fa) (g := g) (L := L) (os := os) (src_enum (items := yw) (c := yw.length) (l := Dw) (e := e) (it := it) rfl (neN (Nat.ne_of_gt hie))) (fun _ m news => LpInv Dw le mo m0 news0 m news) ?_ ?_ ?_ yw.length 0 [(e, enumObj it 0 .none), (it, oi)] _ _ _ (by omega) ⟨.none, oi, rfl, hoi⟩ hj F N hb hos
  · rintro i m news ⟨rfl, -⟩
    refine ⟨fun p hp => ?_, ?_⟩
    · rw [List.mem_singleton.mp hp]; exact hDw
    · rintro i' its ⟨old, o, rfl, ho⟩ p hp q hq
      have hp' : @LT.lt Nat _ p.1 it := hlt p hp
      rcases List.mem_cons.mp hq with rfl | hq
      · exact neN (Nat.ne_of_lt (Nat.lt_trans hp' hie))
      · rw [List.mem_singleton.mp hq]
        exact neN (Nat.ne_of_lt hp')
  · intro i v its new m news s hi hV hS hj hnew F N hb hos
    rw [← hb2']
    exact lwTurn w L fa Dw le mo e it yw lv mv c2 c3 wys les mos m0 news0 hok hW hDw hle hmo hli hmi loose mean mg mb g B X T os _ i v its new m news s hi hV hS hj hnew F N hb hos _ _
  · rintro m news s ⟨rfl, vp, vw, vr, hm⟩ F N hb hos
    exact done vp vw vr m s hm F N hb hos
set_option maxHeartbeats 16000000 in
theorem law4 (w : World) (L fa Dw le mo : Addr) (yw lv mv : List Value) (c2 c3 : Nat) (wys : List (List Int)) (les mos : List Int) (m0 : Str → Option Value) (news0 : List (Addr × Obj)) (hok : WayOk wys les mos) (hW : WsAt news0 yw wys) (hDw : (Dw, lst yw) ∈ news0) (hle : (le, W.listOf lv.toArray c2) ∈ news0) (hmo : (mo, W.listOf mv.toArray c3) ∈ news0) (hli : IntsAre lv les) (hmi : IntsAre mv mos)
    (loose : List Str) (mean : ExcName → Option Value) (mg mb : Str → Option Value) (g : Heap)
    (B : Below callerA g [] g) (X : (KK w).In g) (T : Top VV loose mean mg mb g) (os : OsState) (m : Str → Option Value) (vp0 vw0 vr0 : Option Value) (hm : ∀ y, m y = lpMap Dw le mo vp0 vw0 vr0 m0 y) (s : Shared) (F : Fr g L s.heap m) (N : News g L s.heap news0) (hb : AllBare s.gens) (hos : s.os = os) (Q : Flow → Shared → Prop) (E : Value → Shared → Prop)
    (hcont : ∀ (vp vw vr : Option Value) (m : Str → Option Value) (s : Shared), (∀ y, m y = lpMap Dw le mo vp vw vr m0 y) → Fr g L s.heap m → News g L s.heap news0 → AllBare s.gens → s.os = os → wpAny (model PP w) (lawA L fa) (execs (lawTail 14) (lawEnv L fa)) Q E s) :
    wpAny (model PP w) (lawA L fa) (execs (lawTail 13) (lawEnv L fa)) Q E s := by
  have X0 := X
  have F0 := fr_cast F hm
  clear F hm
  have e13 : lawTail 13 = lawS 13 :: lawTail 14 := by with_unfolding_all rfl
  rw [e13]
  refine wpAny_execs_cons ?_
  dsimp only [PP, KK] at *
  revert X; k_fill; intro X
  generalize hb1 : lawS 13 = st
  have hb1' := hb1
  conv at hb1 => { lhs; whnf }
  subst hb1
  dsimp only [lawA, lawEnv] at *
  generalize hb3 : fdScope lawStmt = scope
  have hb3' := hb3
  conv at hb3 => { lhs; whnf }
  subst hb3
  obtain ⟨heap', gens', drawn', toks', os'⟩ := s
  refine wpAny_For ?_
  k_steps
  refine Halt.mk (enum_list_K F0 N hDw ?_)
  intro e it h12 oi hoi F12 N12 hlt hie
  refine wpAny_pyIter_enum (N12 _ (.head _)).1 ?_
  refine lwLoop w L fa Dw le mo e it yw lv mv c2 c3 wys les mos m0 news0 hok hW hDw hle hmo hli hmi loose mean mg mb g B X0 T os _ hlt hie oi hoi _ _ ⟨rfl, vp0, vw0, vr0, fun _ => rfl⟩ F12 N12 (by exact hb) (by exact hos) ?_
  intro vp vw vr m s hm F N hb hos
  exact hcont vp vw vr m s hm F N hb hos
end Mine
end
theorem Mine.calmLawEm : True := by w_top off; first | walk1 | trivial
section
open PySem PySem.W PyProof.Rows PySem.Calls PySem.Spec PyProof.Rows.LCg
set_option maxRecDepth 100000
namespace Mine
open PySem.SeqAt
local macro_rules | `(tactic| walk_at $s) => Mine.mw s [("call builtin:list.count", Mine.m9e23)]
theorem sl_take {prog : Program} {w : World} {A : Around} {E : Value → Shared → Prop} {s : Shared} {h₀ : Heap} {L l : Addr} {m : Str → Option Value} {news : List (Addr × Obj)} {value slice : PySem.Expr} {vs : List Value} {c : Nat} {Q : Value → Shared → Prop} (F : Fr h₀ L s.heap m) (N : News h₀ L s.heap news) (hl : (l, W.listOf vs.toArray c) ∈ news) {y : Int} (hy : 0 ≤ y) {t : Tok}
    (h : ∀ D h', Fr h₀ L h' m → News h₀ L h' ((D, W.listOf (vs.take y.toNat).toArray 0) :: news) → (∀ p ∈ news, p.1 < D) → Q (.ref D) { s with heap := h' })
    (hs : subscripted slice false (.ref l) (.ref s.heap.objs.size) = operate [.ref s.heap.objs.size, .ref l] (getItem (.ref l) (.ref s.heap.objs.size))) (ht : ∀ r, letTemporaryGo value (.ref l) r = pure ()) (hz : vs.length ≤ 1000) :
    wpAny (model prog w) A (subscriptTail value slice (.ref l) (.ref s.heap.objs.size)) Q E { s with heap := s.heap.push { cls := .type "slice", data := .fields #[.none, .int y t, .none] } } := by
  refine kmk_slice F N (N.isList hl) IsPart.none (IsPart.int _ _) (fun D h' F' N' l1 => h D h' F' ?_ l1) hs ht (by rw [List.size_toArray]; exact Nat.le_trans hz (by decide))
  have e : sliceBounds none (some y) none vs.toArray.size = (((0 : Nat) : Int), ((min y.toNat vs.toArray.size : Nat) : Int), 1) := by
    simp only [sliceBounds, Option.getD_none, show (1 : Int) > 0 by decide, if_true, if_neg (show ¬ (y < 0) by omega)]
    congr 1
    congr 1
    omega
  rw [kmk_pick_nat _ e] at N'
  rw [List.size_toArray] at N'
  have e2 : (vs.toArray.toList.drop 0).take (min y.toNat vs.length - 0) = vs.take y.toNat := by
    show (vs.drop 0).take _ = _
    rw [List.drop_zero, Nat.sub_zero, kmk_take_min]
  rw [e2] at N'
  exact N'
def m9k50 : Lean.MacroM (Lean.TSyntax `tactic) := Mine.t9seq [Mine.t9dflt (Mine.t9seq [Mine.t9ref "sl_take" "F N l x _ s t z", Mine.t9case "F" (Mine.m9e13), Mine.t9case "N" (Mine.m9e13), Mine.t9case "l" (Mine.m9e14), Mine.t9case "x" (Mine.m9l4), Mine.t9case "s" (Mine.t9unf (Mine.m9l8)), Mine.t9case "t" (Mine.m9e42), Mine.t9case "z" (Mine.m9l4)]), Mine.t9intro "D' h' F' N' l1", Mine.t9try (Mine.m9e27), Mine.t9try (Mine.m9e28)]
local macro_rules | `(tactic| walk_at $s) => Mine.mw s [("subscriptTail Name Slice ref ref", Mine.m9k50)]
theorem BlV.take {a : List Value} {x : List Bool} (h : BlV a x) : ∀ k, BlV (a.take k) (x.take k) := by
  induction h with
  | nil => intro k; simp; exact .nil
  | cons b _ ih => intro k; cases k with
    | zero => exact .nil
    | succ k => exact .cons b (ih k)
theorem eq_BlV {vs : List Value} {bs : List Bool} (h : BlV vs bs) (k : Bool) : ∀ y, y ∈ vs → ∀ (A : Around) (s : Shared), EqAt A s y (.bool k) (isBoolOf k y) := by
  induction h with
  | nil => intro y hy; cases hy
  | cons b _ ih =>
    intro y hy A s
    rcases List.mem_cons.mp hy with e | hy
    · rw [e]; exact EqAt.bool_bool b k
    · exact ih y hy A s
theorem count_BlV_true {vs : List Value} {bs : List Bool} (h : BlV vs bs) : vs.countP (isBoolOf true) = bs.countP id := by
  induction h with
  | nil => rfl
  | cons b _ ih =>
    rw [List.countP_cons, List.countP_cons, ih]
    cases b <;> rfl
theorem count_bl {prog : Program} {w : World} {A : Around} {E : Value → Shared → Prop} {s : Shared} {l : Addr} {vs : List Value} {bs : List Bool} {Q : Value → Shared → Prop}
    (hl : s.heap.IsList l vs.toArray) (hv : BlV vs bs)
    (h : Q (.int (bs.countP id : Nat) s.toks) { s with toks := s.toks + 1 }) : wpAny (model prog w) A (call (.builtin "list.count") [.ref l, .bool true]) Q E s := by
  obtain ⟨⟨cls, dd, data, sl⟩, ho, hc, n, hd⟩ := id hl
  simp only at hc hd
  subst hc hd
  refine call_meets PySem.F.slot_list_count ⟨_, ho, rfl⟩ PySem.F.entry_list_count (PySem.F.args_list_count_2 _ _) (list_countAt l vs.toArray n dd sl (.bool true) (isBoolOf true)) ⟨ho, fun y hy => eq_BlV hv true y (by simpa using hy) _ _, ?_⟩
  rw [show vs.toArray.toList = vs from rfl, count_BlV_true hv]
  exact h
noncomputable def emptyB (bs : List Bool) (k : Nat) : Bool := 2 * (((bs.take k).countP id : Nat) : Int) == (k : Int)
noncomputable def KEm (bs : List Bool) (i : Nat) (ys : List Value) (tus : List (Addr × Obj)) : Prop := tus = [] ∧ BlV ys ((List.range i).map (emptyB bs))
set_option maxHeartbeats 8000000 in
theorem emTurn (w : World) (L fa cl : Addr) (oc : Obj) (hoc : oc.data = .cell (some (.ref cl))) (cv : List Value) (cc : Nat) (bs : List Bool) (hcv : BlV cv bs) (hz8 : cv.length ≤ 1000) (news0 : List (Addr × Obj)) (hcl : (L + 1 + 1, oc) ∈ news0) (hcm : (cl, W.listOf cv.toArray cc) ∈ news0) (n : Nat) (hn : n ≤ 100)
    (loose : List Str) (mean : ExcName → Option Value) (mg mb : Str → Option Value) (g : Heap) (m : Str → Option Value)
    (B : Below callerA g [] g) (X : (KK w).In g) (T : Top VV loose mean mg mb g) (os : OsState) :
    TurnG PP w (lawA L fa) (lcElt (asVal (lawS 15))) (gTarget default (lcGens (asVal (lawS 15)))) [] (lcScope default (asVal (lawS 15))) (lawEnv L fa) [(Str.ofString "came", L + 1 + 1)] g L m os news0 n (VR 0) (KEm bs) := by
  intro D C oL its i v new tus mC ys s E hoL hgL hLD hDC hn0 hi hv' hK ht hnew hoff hnL F N hb hos
  dsimp only [PP, KK] at *
  revert X; k_fill; intro X
  obtain ⟨⟨t, rfl⟩, rfl⟩ := hv'
  obtain ⟨rfl, hK⟩ := hK
  have hnext : (List.range (i + 1)).map (emptyB bs) = (List.range i).map (emptyB bs) ++ [emptyB bs i] := by rw [List.range_succ, List.map_append]; rfl
  dsimp only [lawA, lawEnv] at *
  generalize hb1 : gTarget default (lcGens (asVal (lawS 15))) = target
  generalize hb2 : lcElt (asVal (lawS 15)) = elt
  generalize hb3 : fdScope lawStmt = scope
  generalize hb4 : lcScope default (asVal (lawS 15)) = scope2
  conv at hb1 => { lhs; whnf }
  conv at hb2 => { lhs; whnf }
  conv at hb3 => { lhs; whnf }
  conv at hb4 => { lhs; whnf }
  subst hb1 hb2 hb3 hb4
  obtain ⟨heap', gens', drawn', toks', os'⟩ := s
  simp only [List.nil_append] at N
  have N0 : News g C heap' ((L, oL) :: (D, lst ys) :: (its ++ news0)) := cb_drop N (by
    intro p hp
    first
      | ((revert p hp); (repeat' (first | with_reducible refine List.forall_mem_cons.mpr ⟨?_, ?_⟩ | with_reducible refine List.forall_mem_append.mpr ⟨?_, ?_⟩ | with_reducible exact List.forall_mem_nil _ | (intro _ _; ((repeat (first | with_reducible assumption | with_reducible exact List.mem_cons_self | (with_reducible refine List.mem_append_left _ ?_; (repeat (first | with_reducible exact List.mem_cons_self | with_reducible refine List.mem_cons_of_mem _ ?_ | with_reducible assumption)); done) | with_reducible refine List.mem_append_right _ ?_ | with_reducible refine List.mem_cons_of_mem _ ?_)); done)) | ((repeat (first | with_reducible assumption | with_reducible exact List.mem_cons_self | (with_reducible refine List.mem_append_left _ ?_; (repeat (first | with_reducible exact List.mem_cons_self | with_reducible refine List.mem_cons_of_mem _ ?_ | with_reducible assumption)); done) | with_reducible refine List.mem_append_right _ ?_ | with_reducible refine List.mem_cons_of_mem _ ?_)); done))); done)
      | (simp only [List.mem_append, List.mem_cons] at hp ⊢; rcases hp with h | h | h | h <;> simp [h]))
  generalize hnr : its ++ news0 = nr at *
  have hcl' : (L + 1 + 1, _) ∈ nr := hnr ▸ List.mem_append_right _ hcl
  have hcm' : (cl, _) ∈ nr := hnr ▸ List.mem_append_right _ hcm
  clear N
  k_steps
  (with_reducible rename News _ _ _ _ => N9)
  have hbt : BlV (cv.take (0 + (i : Int)).toNat) (bs.take i) := by rw [show (0 + (i : Int)).toNat = i by omega]; exact hcv.take i
  refine Halt.mk (count_bl (N9.isList (.head _)) hbt ?_)
  (try dsimp only)
  k_steps
  (with_reducible rename Fr _ _ _ _ => F9)
  subst hnr
  refine teS_mk hoL ⟨rfl, ?_⟩ F9 N9 ?_ hb hos
  · rw [hnext]
    refine hK.append ?_
    rw [show (2 * (((bs.take i).countP id : Nat) : Int) == 0 + (i : Int)) = emptyB bs i by unfold emptyB; rw [Int.zero_add]]
    exact .cons _ .nil
  · intro p hp
    first
      | ((revert p hp); (repeat' (first | with_reducible refine List.forall_mem_cons.mpr ⟨?_, ?_⟩ | with_reducible refine List.forall_mem_append.mpr ⟨?_, ?_⟩ | with_reducible exact List.forall_mem_nil _ | (intro _ _; ((repeat (first | with_reducible assumption | with_reducible exact List.mem_cons_self | (with_reducible refine List.mem_append_left _ ?_; (repeat (first | with_reducible exact List.mem_cons_self | with_reducible refine List.mem_cons_of_mem _ ?_ | with_reducible assumption)); done) | with_reducible refine List.mem_append_right _ ?_ | with_reducible refine List.mem_cons_of_mem _ ?_)); done)) | ((repeat (first | with_reducible assumption | with_reducible exact List.mem_cons_self | (with_reducible refine List.mem_append_left _ ?_; (repeat (first | with_reducible exact List.mem_cons_self | with_reducible refine List.mem_cons_of_mem _ ?_ | with_reducible assumption)); done) | with_reducible refine List.mem_append_right _ ?_ | with_reducible refine List.mem_cons_of_mem _ ?_)); done))); done)
      | (simp only [List.mem_append, List.mem_cons] at hp ⊢; rcases hp with h | h | h | h <;> simp [h])
end Mine
end
theorem Mine.calmLaw5 : True := by w_top off; first | walk1 | trivial
section
open PySem PySem.W PyProof.Rows PySem.Calls PySem.Spec PyProof.Rows.LCg
set_option maxRecDepth 100000
namespace Mine
theorem law5p {a b : Nat} (h : a = b) (h1 : 1 ≤ a) : Int.toNat (-1 + (a : Int)) = b - 1 := by
  subst h
  obtain ⟨k, rfl⟩ := Nat.exists_eq_add_of_le h1
  rw [Nat.add_sub_cancel_left, show (-1 + ((1 + k : Nat) : Int)) = (k : Int) by rw [Int.natCast_add, ← Int.add_assoc]; exact Int.zero_add _]
  rfl
local macro_rules | `(tactic| k_steps) => Mine.m9k45
local macro_rules | `(tactic| walk_at $s) => Mine.mw s [("call type:range", Mine.m9e23)]
theorem lawEval14 (w : World) (L fa hl : Addr) (hv : List Value) (n2 : Nat) (hs : List (Bool × Int)) (news0 : List (Addr × Obj)) (hH : HrAt news0 hv hs) (hhl : (hl, W.listOf hv.toArray n2) ∈ news0) (h8 : hv.length ≤ 8)
    (loose : List Str) (mean : ExcName → Option Value) (mg mb : Str → Option Value) (g : Heap) (m : Str → Option Value)
    (B : Below callerA g [] g) (X : (KK w).In g) (T : Top VV loose mean mg mb g) (os : OsState) (hm1 : m (Str.ofString "hours") = some (.ref hl)) (s : Shared) (F : Fr g L s.heap m) (N : News g L s.heap news0) (hb : AllBare s.gens) (hos : s.os = os) (Q : Value → Shared → Prop) (E : Value → Shared → Prop) (e9 : PySem.Expr) (he9 : asVal (lawS 14) = e9)
    (hQ : ∀ (D : Addr) (ys : List Value) (s' : Shared), BlV ys (hs.map (·.1)) → @LT.lt Nat _ L D → (∀ p ∈ news0, @LT.lt Nat _ p.1 D) → Fr g L s'.heap m → News g L s'.heap ((D, lst ys) :: news0) → AllBare s'.gens → s'.os = os → Q (.ref D) s') :
    wpAny (model PP w) (lawA L fa) (eval e9 (lawEnv L fa)) Q E s := by
  subst he9
  have hvl := hH.length
  generalize hb1 : asVal (lawS 14) = st
  conv at hb1 => { lhs; whnf }
  subst hb1
  refine compX_eval os (m := m) (g := g) (L := L) (by with_unfolding_all rfl) (by decide +kernel) (by rfl) (by decide +kernel) (by intro _; rfl) ?_
  refine wpAny_Name (wpAny_loadName_local rfl rfl F.ns hm1 ?_) (by decide)
  refine ⟨news0, KC hs hv.length, h_list (items := hv) (c := n2) rfl ?_ hhl (by omega) F N hb hos (KC hs) ⟨rfl, .nil⟩ (caTurn w L fa hv hs news0 hH hv.length loose mean mg mb g m B X T os), ?_⟩
  · intro I i v s Q E hv hit hq
    obtain ⟨i0, hi0, e0⟩ := List.mem_iff_getElem.mp hv
    obtain ⟨a, b, n, t, c, e1, -⟩ := hH.get (i := i0) (v := v) (by rw [← e0]; simp [hi0])
    subst e1
    exact wpAny_letOwnedTupleGo_listiter hit hq
  · rintro D ys tus s' ⟨rfl, hP⟩ hLD hn0 ht2 F3 N3 hb3 ho3
    rw [List.take_of_length_le (by omega)] at hP
    exact hQ D ys s' hP hLD hn0 F3 N3 hb3 ho3
set_option maxHeartbeats 8000000 in
theorem lawAssign15 (w : World) (L fa cl : Addr) (oc : Obj) (hoc : oc.data = .cell (some (.ref cl))) (cv : List Value) (cc : Nat) (bs : List Bool) (hcv : BlV cv bs) (hz8 : cv.length ≤ 1000) (news0 : List (Addr × Obj)) (hcl : (L + 1 + 1, oc) ∈ news0) (hcm : (cl, W.listOf cv.toArray cc) ∈ news0)
    (loose : List Str) (mean : ExcName → Option Value) (mg mb : Str → Option Value) (g : Heap) (m : Str → Option Value)
    (B : Below callerA g [] g) (X : (KK w).In g) (T : Top VV loose mean mg mb g) (os : OsState) (s : Shared) (F : Fr g L s.heap m) (N : News g L s.heap news0) (hb : AllBare s.gens) (hos : s.os = os) (Q : Flow → Shared → Prop) (E : Value → Shared → Prop) (e9 : PySem.Stmt) (he9 : lawS 15 = e9)
    (hQ : ∀ (D r : Addr) (o : Obj) (ys : List Value) (s' : Shared), BlV ys ((List.range 8).map (emptyB bs)) → @LT.lt Nat _ L D → (∀ p ∈ news0, @LT.lt Nat _ p.1 D) → Fr g L s'.heap (fun z => if z = Str.ofString "empty" then some (.ref D) else m z) → News g L s'.heap ((D, lst ys) :: (r, o) :: news0) → AllBare s'.gens → s'.os = os → Q .next s') :
    wpAny (model PP w) (lawA L fa) (exec e9 (lawEnv L fa)) Q E s := by
  subst he9
  have X0 := X
  dsimp only [PP, KK] at *
  revert X; k_fill; intro X
  generalize hb1 : lawS 15 = st
  conv at hb1 => { lhs; whnf }
  subst hb1
  refine compX_assign os (m := m) (g := g) (L := L) (cl := [(Str.ofString "came", L + 1 + 1)]) rfl (by with_unfolding_all rfl) (by with_unfolding_all rfl) (by decide +kernel) (by rfl) (by decide +kernel) (by rfl) (by rfl) (by intro _; rfl) ?_
  dsimp only [lawA, lawEnv] at *
  generalize hb3 : fdScope lawStmt = scope
  have hb3' := hb3
  conv at hb3 => { lhs; whnf }
  subst hb3
  obtain ⟨heap', gens', drawn', toks', os'⟩ := s
  k_steps
  (with_reducible rename Fr _ _ _ _ => F9)
  (with_reducible rename News _ _ _ _ => N9)
  refine Halt.mk (call_range_1 ?_)
  (try dsimp only at F9)
  (try dsimp only at N9)
  obtain ⟨sm1, sm2⟩ := small_ok 8 (by decide)
  have N10 := N9.push F9 ({ cls := .type "range", data := .fields #[.int 0 (toks' + 1), .int 8 toks', .int 1 (toks' + 1 + 1)] } : Obj)
  have F10 := F9.push ({ cls := .type "range", data := .fields #[.int 0 (toks' + 1), .int 8 toks', .int 1 (toks' + 1 + 1)] } : Obj)
  refine ⟨_, KEm bs 8, h_range (n := 8) (t := toks' + 1) (u := toks') (v := toks' + 1 + 1) rfl (fun _ _ _ => rfl) ?_ sm1 sm2 (by decide) F10 N10 (by exact hb) (by exact hos) (KEm bs) ⟨rfl, .nil⟩ (emTurn w L fa cl oc hoc cv cc bs hcv hz8 _ (.tail _ hcl) (.tail _ hcm) 8 (by decide) loose mean mg mb g m B X0 T os), ?_⟩
  · exact IsRange.new ..
  · rintro D ys tus s' ⟨rfl, hP⟩ hLD hn0 ht2 F3 N3 hb3 ho3
    exact hQ D _ _ ys s' hP hLD (fun p hp => hn0 p (.tail _ hp)) F3 N3 hb3 ho3
def m9e88 : Lean.MacroM (Lean.TSyntax `tactic) := Mine.t9rf "wpAny_Assign_Name ?_ ?_" []
def m9l14 : Lean.MacroM (Lean.TSyntax `tactic) := `(tactic| rotate_left)
def m9k51 : Lean.MacroM (Lean.TSyntax `tactic) := Mine.t9first [Mine.t9seq [Mine.t9red (Mine.m9e88), Mine.m9l14, Mine.t9unf (Mine.m9l8)], Mine.m9e23]
local macro_rules | `(tactic| walk_at $s) => Mine.mw s [("exec Assign cons ListComp", Mine.m9k51), ("eval ListComp", Mine.m9e23), ("subscriptTail Name Constant ref int", Mine.m9e23), ("subscriptTail Name UnaryOp ref int", Mine.m9e23), ("compareOp Eq ref ref", Mine.m9e23)]
theorem bools_carried : ∀ {vs : List Value} {ss : List Bool}, BlV vs ss → CarriedAll vs (ss.map PyData.bool)
  | _, _, .nil => .nil
  | _, _, .cons b r => .cons (.bool b) (bools_carried r)
theorem bools_canLay : ∀ ss : List Bool, PyData.canLayAll0 (ss.map PyData.bool) = true
  | [] => rfl
  | x :: r => by simp [PyData.canLayAll0, PyData.canLay0, bools_canLay r]
theorem bools_depth : ∀ ss : List Bool, PyData.depthAll (ss.map PyData.bool) = 0
  | [] => rfl
  | _ :: r => by simp [PyData.depthAll, PyData.depth, bools_depth r]
theorem bools_eqv : ∀ ss : List Bool, PyData.eqvAll (ss.map PyData.bool) (ss.map PyData.bool) = true
  | [] => by simp [PyData.eqvAll]
  | a :: r => by simp [PyData.eqvAll, PyData.eqv, bools_eqv r]
noncomputable abbrev toldD (ns : List Int) (bs : List Bool) : PyData := .tuple [.list (ns.map PyData.int), .list (bs.map PyData.bool)]
theorem toldD_shaped (ns : List Int) (bs : List Bool) : SeqAt.shaped (toldD ns bs) = true := by
  simp [SeqAt.shaped, PyData.canLay0, PyData.canLayAll0, PyData.depth, PyData.depthAll, ke_canLayAll0, ke_depthAll, bools_canLay, bools_depth]
theorem toldD_eqv (ns : List Int) (bs : List Bool) : PyData.eqv (toldD ns bs) (toldD ns bs) = true := by
  simp [PyData.eqv, PyData.eqvAll, ked_eqvAll, bools_eqv]
theorem told_reads {h : Heap} {T a b : Addr} {o : Obj} {n : Nat} {xs ys : List Value} {ns : List Int} {bs : List Bool} (hT : h.get? T = some o) (hc : o.cls = .type "tuple") (hd : o.data = .seq #[.ref a, .ref b] n) (ha : h.IsList a xs.toArray) (hb : h.IsList b ys.toArray) (hi : IntsAre xs ns) (hj : BlV ys bs) : ∃ as, Reads h (.ref T) (toldD ns bs) as :=
  ⟨_, reads_tuple_at hT hc hd (.cons (reads_newData ha (ke_carried hi)) (.cons (reads_newData hb (bools_carried hj)) .nil))⟩
theorem eq_told {prog : Program} {w : World} {A : Around} {E : Value → Shared → Prop} {s : Shared} {T U : Addr} {ns : List Int} {bs : List Bool} {Q : Value → Shared → Prop} (ha : ∃ as, Reads s.heap (.ref T) (toldD ns bs) as) (hb : ∃ as, Reads s.heap (.ref U) (toldD ns bs) as) (hu : A.units + 64 < cLine) (h : Q (.bool true) s) :
    wpAny (model prog w) A (compareOp .Eq (.ref T) (.ref U)) Q E s := by
  obtain ⟨_, ra⟩ := ha
  obtain ⟨_, rb⟩ := hb
  exact eq_dataH ra rb (toldD_shaped _ _) (toldD_shaped _ _) hu (by rw [toldD_eqv]; exact h)
set_option maxHeartbeats 2000000 in
theorem law5 (w : World) (L fa hl wl Tt wl2 el2 Dw le mo : Addr) (hs : List (Bool × Int)) (ps : List Str) (hl8 : hs.length = 8) (ws ws2 : List Int) (lev mov : List Value) (les mos : List Int) (yw : List Value) (tab : Obj) (m0 : Str → Option Value)
    (oc1 oc2 : Obj) (vc2 : Option Value) (hc2 : oc2.data = .cell vc2) (nr : List (Addr × Obj)) (st : LawSt nr hl wl Tt wl2 el2 Dw le mo hs ps ws ws2 lev mov les mos yw)
    (hm1 : m0 (Str.ofString "hours") = some (.ref hl)) (hm2 : m0 (Str.ofString "waits") = some (.ref wl)) (hm3 : m0 (Str.ofString "told") = some (.ref Tt)) (hm4 : m0 (Str.ofString "ways") = some (.ref Dw))
    (hfst : ((waysL hs).map (·.2))[0]? = some ws) (hlst : ((waysL hs).map (·.2))[((waysL hs).map (·.2)).length - 1]? = some ws2) (hn : ((waysL hs).map (·.2)).length ≤ 1000) (hemp : ((List.range hs.length).map fun k => takenB (rowT ps k)) = (List.range 8).map (emptyB (hs.map (·.1)))) (hnr : ∀ p ∈ nr, @LT.lt Nat _ (L + 1 + 1) p.1) (h123 : @LT.lt Nat _ 123 L)
    (loose : List Str) (mean : ExcName → Option Value) (mg mb : Str → Option Value) (g : Heap)
    (B : Below callerA g [] g) (X : (KK w).In g) (T : Top VV loose mean mg mb g) (os : OsState) (s : Shared) (F : Fr g L s.heap m0) (N : News g L s.heap (lawNews L oc1 oc2 [(123, tab)] nr)) (hb : AllBare s.gens) (hos : s.os = os) (Q : Flow → Shared → Prop) (E : Value → Shared → Prop)
    (hQ : ∀ (m : Str → Option Value) (s : Shared), Fr g L s.heap m → News g L s.heap [(123, tab)] → AllBare s.gens → s.os = os → Q (.ret (.bool true)) s) :
    wpAny (model PP w) (lawA L fa) (execs (lawTail 14) (lawEnv L fa)) Q E s := by
  have X0 := X
  obtain ⟨hv, n2, hhl, hH⟩ := st.hm
  obtain ⟨wv, c1, hwl, hwv⟩ := st.wm
  obtain ⟨wv2, k1, hwl2, hwv2⟩ := st.w2m
  obtain ⟨ev2, k2, hel2, hev2⟩ := st.em
  rw [hemp] at hev2
  have hTt := st.tm
  have hDw := st.dm
  have hW := st.ys
  clear st
  have hvl := hH.length
  dsimp only [PP, KK] at *
  revert X; k_fill; intro X
  dsimp only [lawA, lawEnv, lawTail] at *
  generalize hb1 : (fdBody lawStmt).drop 14 = body
  generalize hb3 : fdScope lawStmt = scope
  conv at hb1 => { lhs; whnf }
  conv at hb3 => { lhs; whnf }
  subst hb1 hb3
  obtain ⟨heap', gens', drawn', toks', os'⟩ := s
  have N0 : News g L heap' ((L + 1, oc1) :: (L + 1 + 1, oc2) :: (123, tab) :: nr) := cb_drop N (by
    intro p hp
    first
      | ((revert p hp); (try dsimp only [lawNews, List.cons_append, List.nil_append]); (repeat' (first | with_reducible refine List.forall_mem_cons.mpr ⟨?_, ?_⟩ | with_reducible refine List.forall_mem_append.mpr ⟨?_, ?_⟩ | with_reducible exact List.forall_mem_nil _ | (intro _ _; ((repeat (first | with_reducible assumption | with_reducible exact List.mem_cons_self | (with_reducible refine List.mem_append_left _ ?_; (repeat (first | with_reducible exact List.mem_cons_self | with_reducible refine List.mem_cons_of_mem _ ?_ | with_reducible assumption)); done) | with_reducible refine List.mem_append_right _ ?_ | with_reducible refine List.mem_cons_of_mem _ ?_)); done)) | ((repeat (first | with_reducible assumption | with_reducible exact List.mem_cons_self | (with_reducible refine List.mem_append_left _ ?_; (repeat (first | with_reducible exact List.mem_cons_self | with_reducible refine List.mem_cons_of_mem _ ?_ | with_reducible assumption)); done) | with_reducible refine List.mem_append_right _ ?_ | with_reducible refine List.mem_cons_of_mem _ ?_)); done))); done)
      | (simp only [lawNews, List.cons_append, List.nil_append, List.mem_cons] at hp ⊢; rcases hp with h | h | h | h <;> simp [h]))
  clear N
  k_steps
  (with_reducible rename Fr _ _ _ _ => F1)
  (with_reducible rename News _ _ _ _ => N1)
  refine Halt.mk (lawEval14 w L fa hl hv n2 hs _ (hH.mono fun p hp => by (repeat (first | with_reducible assumption | exact List.mem_cons_self | refine List.mem_cons_of_mem _ ?_))) (by (repeat (first | with_reducible assumption | exact List.mem_cons_self | refine List.mem_cons_of_mem _ ?_))) (by omega) loose mean mg mb g _ B X0 T os hm1 _ F1 N1 (by exact hb) (by exact hos) _ _ _ (by with_unfolding_all rfl) ?_)
  intro D8 ys8 s8 hP8 hLD8 hn8 F8 N8 hb8 ho8
  obtain ⟨heap8, gens8, drawn8, toks8, os8⟩ := s8
  (try dsimp only at F8)
  (try dsimp only at N8)
  clear F1 N1
  have q8 : @LT.lt Nat _ (L + 1 + 1) D8 := hn8 _ (.tail _ (.head _))
  have f1 : ∀ p ∈ nr, p.1 ≠ L + 1 := fun p hp => neN (Nat.ne_of_gt (Nat.lt_of_succ_lt (hnr p hp)))
  have f2 : ∀ p ∈ nr, p.1 ≠ L + 1 + 1 := fun p hp => neN (Nat.ne_of_gt (hnr p hp))
  (try dsimp only)
  refine' storeX_C ?F ?N ?c ?U ?d ?_ ?a ?b
  (case a => rfl)
  (case b => rfl)
  (case F => k_asm)
  (case N => k_asm)
  (case c => rfl)
  (case U => exact .tail (neN (Nat.ne_of_gt q8)) (.tail (neN (Nat.ne_of_lt (Nat.lt_succ_self _))) (.head (List.forall_mem_cons.mpr ⟨neN (Nat.ne_of_lt (Nat.lt_trans h123 (Nat.lt_succ_of_lt (Nat.lt_succ_self _)))), f2⟩))))
  (case d => exact hc2)
  intro h' o' F' N' d'
  (try dsimp only)
  clear F8 N8
  k_steps
  (with_reducible rename Fr _ _ _ _ => F9)
  (with_reducible rename News _ _ _ _ => N9)
  refine Halt.mk (lawAssign15 w L fa D8 o' (by exact d') ys8 ys8.length _ hP8 (by have := hP8.length; rw [List.length_map] at this; omega) _ (by (repeat (first | with_reducible assumption | exact List.mem_cons_self | refine List.mem_cons_of_mem _ ?_))) (by (repeat (first | with_reducible assumption | exact List.mem_cons_self | refine List.mem_cons_of_mem _ ?_))) loose mean mg mb g _ B X0 T os _ F9 N9 (by exact hb8) (by exact ho8) _ _ _ (by with_unfolding_all rfl) ?_)
  intro D10 r10 o10 ys10 s10 hP10 hLD10 hn10 F10 N10 hb10 ho10
  obtain ⟨heap10, gens10, drawn10, toks10, os10⟩ := s10
  (try dsimp only at F10)
  (try dsimp only at N10)
  clear F9 N9
  have F11 := fr_cast (m' := fun z => if z = Str.ofString "empty" then some (.ref D10) else if z = Str.ofString "waits" then some (.ref wl) else if z = Str.ofString "told" then some (.ref Tt) else if z = Str.ofString "ways" then some (.ref Dw) else m0 z) F10 (by
    intro y
    by_cases h1 : y = Str.ofString "empty"; (focus (subst h1; rfl)); by_cases h2 : y = Str.ofString "waits"; (focus (subst h2; exact hm2)); by_cases h3 : y = Str.ofString "told"; (focus (subst h3; exact hm3)); by_cases h4 : y = Str.ofString "ways"; (focus (subst h4; exact hm4))
    simp only [if_neg h1, if_neg h2, if_neg h3, if_neg h4])
  clear F10
  have hwl2' := hW.length
  obtain ⟨v0, hv0⟩ : ∃ v, yw[0]? = some v := by
    have := (List.getElem?_eq_some_iff.mp hfst).1
    exact ⟨_, List.getElem?_eq_getElem (by omega)⟩
  obtain ⟨wa, ws', ca, wav, rfl, hws', hwa, hwav⟩ := hW.get hv0
  rw [hfst] at hws'
  obtain rfl := Option.some.inj hws'
  obtain ⟨v1, hv1⟩ : ∃ v, yw[((waysL hs).map (·.2)).length - 1]? = some v := by
    have := (List.getElem?_eq_some_iff.mp hlst).1
    exact ⟨_, List.getElem?_eq_getElem (by omega)⟩
  obtain ⟨wb, ws2', cb, wbv, rfl, hws2', hwb, hwbv⟩ := hW.get hv1
  rw [hlst] at hws2'
  obtain rfl := Option.some.inj hws2'
  (try dsimp only)
  k_steps
  refine Halt.mk (kim_list (l := yw) (x := .ref wa) (lo := lst yw) (n := yw.length) N10 (by (repeat (first | with_reducible assumption | exact List.mem_cons_self | refine List.mem_cons_of_mem _ ?_))) rfl rfl (by decide) (by decide) hv0 ?_)
  k_steps
  refine Halt.mk (ke_eq_ints (N10.isList (by (repeat (first | with_reducible assumption | exact List.mem_cons_self | refine List.mem_cons_of_mem _ ?_)))) (N10.isList (by (repeat (first | with_reducible assumption | exact List.mem_cons_self | refine List.mem_cons_of_mem _ ?_)))) hwv hwav (by ke_room) ?_)
  rw [decide_eq_true rfl]
  k_steps
  have hy1 : 1 ≤ yw.length := by
    have := (List.getElem?_eq_some_iff.mp hv0).1
    omega
  refine Halt.mk (kim_back (l := yw) (x := .ref wb) (lo := lst yw) (n := yw.length) N10 (by (repeat (first | with_reducible assumption | exact List.mem_cons_self | refine List.mem_cons_of_mem _ ?_))) rfl rfl (by decide) (by omega) (by decide) (by rw [show (-1 + (yw.length : Int)).toNat = ((waysL hs).map (·.2)).length - 1 by first | exact law5p (by assumption) (by assumption) | omega]; exact hv1) ?_)
  k_steps
  (with_reducible rename Fr _ _ _ _ => F12)
  (with_reducible rename News _ _ _ _ => N12)
  refine Halt.mk (eq_told (told_reads (N12 (Tt, ({ cls := .type "tuple", data := .seq #[.ref wl2, .ref el2] } : Obj)) (by (repeat (first | with_reducible assumption | exact List.mem_cons_self | refine List.mem_cons_of_mem _ ?_)))).1 rfl rfl (N12.isList (by (repeat (first | with_reducible assumption | exact List.mem_cons_self | refine List.mem_cons_of_mem _ ?_)))) (N12.isList (by (repeat (first | with_reducible assumption | exact List.mem_cons_self | refine List.mem_cons_of_mem _ ?_)))) hwv2 hev2) (told_reads (o := ({ cls := .type "tuple", data := .seq #[.ref wb, .ref D10] } : Obj)) (N12 _ (.head _)).1 rfl rfl (N12.isList (by (repeat (first | with_reducible assumption | exact List.mem_cons_self | refine List.mem_cons_of_mem _ ?_)))) (N12.isList (by (repeat (first | with_reducible assumption | exact List.mem_cons_self | refine List.mem_cons_of_mem _ ?_)))) hwbv hP10) (by ke_room) ?_)
  k_steps
  refine hQ _ _ F12 (fun p hp => ?_) (by exact hb10) (by exact ho10)
  rw [List.mem_singleton.mp hp]
  exact N12 _ (by (repeat (first | with_reducible assumption | exact List.mem_cons_self | refine List.mem_cons_of_mem _ ?_)))
end Mine
end
section
open PySem PySem.W PyProof.Rows PySem.Calls PySem.Spec PyProof.Rows.LCg
set_option maxRecDepth 100000
namespace Mine
theorem str_eq {x y : Str} (h : x.cps.toList = y.cps.toList) : x = y := by
  obtain ⟨⟨l⟩⟩ := x
  obtain ⟨⟨k⟩⟩ := y
  have : l = k := h
  rw [this]
theorem cps_getD (l : List Nat) (v : Nat) : (⟨l.toArray⟩ : Str).cps.getD v 0 = l.getD v 0 := by
  rw [List.getD_eq_getElem?_getD]
  by_cases h : v < l.length
  · simp [Array.getD, h]
  · simp [Array.getD, h]
theorem app_inj {c : Nat} : ∀ (p q X Y : List Nat), c ∉ p → c ∉ q → p ++ c :: X = q ++ c :: Y → p = q ∧ X = Y
  | [], [], _, _, _, _, h => ⟨rfl, (List.cons.inj h).2⟩
  | [], d :: q, _, _, _, hq, h => absurd ((List.cons.inj h).1 ▸ List.mem_cons_self) hq
  | d :: p, [], _, _, hp, _, h => absurd ((List.cons.inj h).1 ▸ List.mem_cons_self) hp
  | d :: p, e :: q, X, Y, hp, hq, h => by
    obtain ⟨h1, h2⟩ := List.cons.inj h
    obtain ⟨h3, h4⟩ := app_inj p q X Y (fun m => hp (.tail _ m)) (fun m => hq (.tail _ m)) h2
    exact ⟨by rw [h1, h3], h4⟩
theorem join_two (c : Nat) (p q : Str) (r : List Str) : (Str.join ⟨#[c]⟩ (p :: q :: r)).cps.toList = p.cps.toList ++ c :: (Str.join ⟨#[c]⟩ (q :: r)).cps.toList := by
  show (p ++ ⟨#[c]⟩ ++ Str.join ⟨#[c]⟩ (q :: r)).cps.toList = _
  simp [Str.cps_append]
theorem join_inj (c : Nat) : ∀ (ps qs : List Str), ps ≠ [] → qs ≠ [] → (∀ p ∈ ps, c ∉ p.cps.toList) → (∀ p ∈ qs, c ∉ p.cps.toList) → (Str.join ⟨#[c]⟩ ps).cps.toList = (Str.join ⟨#[c]⟩ qs).cps.toList → ps = qs
  | [], _, h, _, _, _, _ => absurd rfl h
  | _ :: _, [], _, h, _, _, _ => absurd rfl h
  | [p], [q], _, _, _, _, h => by rw [str_eq (x := p) (y := q) h]
  | [p], q :: q' :: r, _, _, h1, _, h => by
    rw [join_two] at h
    have h : p.cps.toList = _ := h
    exact absurd (h ▸ List.mem_append_right _ (.head _)) (h1 p (.head _))
  | p :: p' :: r, [q], _, _, _, h2, h => by
    rw [join_two] at h
    have h : _ = q.cps.toList := h
    exact absurd (h ▸ List.mem_append_right _ (.head _)) (h2 q (.head _))
  | p :: p' :: r, q :: q' :: s, _, _, h1, h2, h => by
    rw [join_two, join_two] at h
    obtain ⟨h3, h4⟩ := app_inj _ _ _ _ (h1 p (.head _)) (h2 q (.head _)) h
    rw [str_eq h3, join_inj c (p' :: r) (q' :: s) (by simp) (by simp) (fun y hy => h1 y (.tail _ hy)) (fun y hy => h2 y (.tail _ hy)) h4]
theorem split_is (c : Nat) (parts : List Str) (hne : parts ≠ []) (hf : ∀ p ∈ parts, c ∉ p.cps.toList) : Txt.split (Str.join ⟨#[c]⟩ parts) ⟨#[c]⟩ = parts := by
  refine join_inj c _ _ (fun e => ?_) hne (StrLaws.split_free _ c) hf (by rw [StrLaws.join_split])
  have := split_pos (Str.join ⟨#[c]⟩ parts) ⟨#[c]⟩
  rw [e] at this
  simp at this
noncomputable def subL (c : Nat) (z : List Nat) (l : List Nat) : List Nat := l.flatMap fun k => if k = c then z else [k]
theorem subL_free (c : Nat) (z : List Nat) : ∀ l : List Nat, c ∉ l → subL c z l = l
  | [], _ => rfl
  | k :: r, h => by
    have h1 : ¬ k = c := fun e => h (e ▸ List.mem_cons_self ..)
    have h2 : c ∉ r := fun m => h (List.mem_cons_of_mem _ m)
    show (if k = c then z else [k]) ++ subL c z r = _
    rw [if_neg h1, subL_free c z r h2]; rfl
theorem subL_join (c : Nat) (z : Str) : ∀ parts : List Str, (∀ p ∈ parts, c ∉ p.cps.toList) → subL c z.cps.toList (Str.join ⟨#[c]⟩ parts).cps.toList = (Str.join z parts).cps.toList
  | [], _ => rfl
  | [p], h => subL_free c _ _ (h p (List.mem_singleton.mpr rfl))
  | p :: q :: r, h => by
    have ih := subL_join c z (q :: r) fun a ha => h a (List.mem_cons_of_mem _ ha)
    rw [join_two]
    show _ = (p ++ z ++ Str.join z (q :: r)).cps.toList
    simp only [Str.cps_append, Array.toList_append]
    rw [← ih]
    have e : ∀ a b : List Nat, subL c z.cps.toList (a ++ b) = subL c z.cps.toList a ++ subL c z.cps.toList b := fun a b => List.flatMap_append
    rw [e, subL_free c _ _ (h p (List.mem_cons_self ..)), List.append_assoc]
    congr 1
    show (if c = c then z.cps.toList else [c]) ++ _ = _
    rw [if_pos rfl]
    rfl
theorem replace_is (x z : Str) (c : Nat) : (Txt.replace x ⟨#[c]⟩ z).cps.toList = subL c z.cps.toList x.cps.toList := by
  rw [StrLaws.replace_one, ← subL_join c z _ (StrLaws.split_free x c), StrLaws.join_split]
theorem find3_is (x : Str) (c k : Nat) (i : Int) (h1 : fromIndex x.length i ≤ k) (h2 : k < x.length) (h3 : x.cps.getD k 0 = c) (h4 : ∀ v, fromIndex x.length i ≤ v → v < k → x.cps.getD v 0 ≠ c) : Txt.find3 x ⟨#[c]⟩ i = (k : Int) := by
  rcases StrLaws.find3_spec x c i with ⟨_, hn⟩ | ⟨j, e, a1, a2, a3, a4⟩
  · exact absurd h3 (hn k h1 h2)
  · rw [e]
    rcases Nat.lt_trichotomy j k with h | h | h
    · exact absurd a3 (h4 j a1 h)
    · rw [h]
    · exact absurd h3 (a4 k h1 h)
noncomputable abbrev repL (m : Nat) (D : List Nat) : List Nat := 50 :: 50 :: 57 :: 32 :: 40 :: m :: m :: m :: (D ++ [m, 41])
noncomputable abbrev repD (m : Nat) (D : List Nat) : Str := ⟨(repL m D).toArray⟩
theorem repD_len (m : Nat) (D : List Nat) : (repD m D).length = D.length + 10 := by
  show (repL m D).toArray.size = _
  simp
structure MkOk (m : Nat) : Prop where
  ne : m ≠ 40 ∧ m ≠ 41 ∧ m ≠ 10 ∧ m < 200
  nd : ∀ d, 48 ≤ d → d ≤ 57 → m ≠ d
theorem paren_l : Str.ofString "(" = ⟨#[40]⟩ := by decide +kernel
theorem paren_r : Str.ofString ")" = ⟨#[41]⟩ := by decide +kernel
theorem rep_RepF {m : Nat} {D : List Nat} {n : Int} (hm : MkOk m) (hD : ∀ d ∈ D, 48 ≤ d ∧ d ≤ 57) (h1 : 1 ≤ D.length) (h2 : D.length ≤ 3) (hn : PySem.intText? ⟨D.toArray⟩ = some n) : RepF (repD m D) n := by
  have hl := repD_len m D
  obtain ⟨⟨m40, m41, m10, m200⟩, hnd⟩ := hm
  have hmD : m ∉ D := fun h => hnd m (hD m h).1 (hD m h).2 rfl
  have f1 : Txt.find (repD m D) (Str.ofString "(") = 4 := by
    rw [find_is_find3, paren_l]
    refine find3_is _ _ 4 0 (by simp [fromIndex]) (by omega) (by rw [cps_getD]; rfl) ?_
    intro v _ hv
    rw [cps_getD]
    exact in03 (P := fun v => (repL m D).getD v 0 ≠ 40) (by decide : (50 : Nat) ≠ 40) (by decide : (50 : Nat) ≠ 40) (by decide : (57 : Nat) ≠ 40) (by decide : (32 : Nat) ≠ 40) v hv
  have ei : fromIndex (repD m D).length 5 = 5 := by
    rw [hl]
    simp [fromIndex]
    omega
  have g9 : ∀ v, v < D.length → (repL m D).getD (8 + v) 0 = D[v]?.getD 0 := fun v hv => by
    rw [List.getD_eq_getElem?_getD, show 8 + v = v + 1 + 1 + 1 + 1 + 1 + 1 + 1 + 1 by omega]
    simp only [repL, List.getElem?_cons_succ]
    rw [List.getElem?_append_left hv]
  have g10 : (repL m D).getD (8 + D.length) 0 = m := by
    rw [List.getD_eq_getElem?_getD, show 8 + D.length = D.length + 1 + 1 + 1 + 1 + 1 + 1 + 1 + 1 by omega]
    simp only [repL, List.getElem?_cons_succ]
    rw [List.getElem?_append_right (Nat.le_refl _), Nat.sub_self]; rfl
  have g11 : (repL m D).getD (9 + D.length) 0 = 41 := by
    rw [List.getD_eq_getElem?_getD, show 9 + D.length = (D.length + 1) + 1 + 1 + 1 + 1 + 1 + 1 + 1 + 1 by omega]
    simp only [repL, List.getElem?_cons_succ]
    rw [List.getElem?_append_right (Nat.le_succ _), show D.length + 1 - D.length = 1 by omega]; rfl
  have f3 : Txt.find3 (repD m D) (Str.ofString ")") (4 + 1) = ((9 + D.length : Nat) : Int) := by
    rw [paren_r]
    refine find3_is _ _ _ _ (by rw [show (4 + 1 : Int) = 5 by rfl, ei]; omega) (by omega) (by rw [cps_getD, g11]) ?_
    intro v hv1 hv2
    rw [show (4 + 1 : Int) = 5 by rfl, ei] at hv1
    rw [cps_getD]
    rcases Nat.lt_or_ge v 8 with h | h
    · exact in57 (P := fun v => (repL m D).getD v 0 ≠ 41) m41 m41 m41 v hv1 h
    · obtain ⟨u, rfl⟩ : ∃ u, v = 8 + u := ⟨v - 8, by omega⟩
      rcases Nat.lt_or_ge u D.length with h' | h'
      · rw [g9 u h', List.getElem?_eq_getElem h']
        have := hD _ (List.getElem_mem h')
        simp only [Option.getD_some]
        omega
      · obtain rfl : u = D.length := by omega
        rw [g10]; exact m41
  have i1 : Txt.item (repD m D) (4 + 1) = ⟨#[m]⟩ := by
    rw [eq_of_beq (item_closes (x := repD m D) (i := 4 + 1) ⟨by decide, by rw [hl]; omega⟩), cps_getD]; rfl
  have i2 : Txt.item (repD m D) (((9 + D.length : Nat) : Int) - 1) = ⟨#[m]⟩ := by
    rw [eq_of_beq (item_closes (x := repD m D) (i := ((9 + D.length : Nat) : Int) - 1) ⟨by omega, by rw [hl]; omega⟩), cps_getD, show (((9 + D.length : Nat) : Int) - 1).toNat = 8 + D.length by omega, g10]
  have sl : Txt.slice (repD m D) (some (4 + 1)) (some ((9 + D.length : Nat) : Int)) = Str.join ⟨#[m]⟩ [Str.empty, Str.empty, Str.empty, ⟨D.toArray⟩, Str.empty] := by
    rw [eq_of_beq (slice_closesL (x := repD m D) (i := 4 + 1) (j := ((9 + D.length : Nat) : Int)) (by decide) (by omega) (by rw [hl]; omega))]
    refine str_eq ?_
    rw [show (((9 + D.length : Nat) : Int) - (4 + 1)).toNat = D.length + 4 by omega, join_two, join_two, join_two, join_two]
    show (m :: m :: m :: (D ++ [m, 41])).take (D.length + 4) = m :: m :: m :: (D ++ [m])
    rw [show D.length + 4 = (D.length + 1) + 1 + 1 + 1 by omega]
    simp only [List.take_succ_cons]
    rw [List.take_append, List.take_of_length_le (Nat.le_succ _), show D.length + 1 - D.length = 1 by omega]
    rfl
  refine ⟨by omega, by omega, ?_, f1, ?_, ?_, ⟨⟨D.toArray⟩, ?_, hn, ?_⟩⟩
  · rw [eq_of_beq (slice_closes_toL (x := repD m D) (j := 3) (by decide) (by rw [hl]; omega))]
    show ((⟨#[50, 50, 57]⟩ : Str) != Str.ofString "229") = false
    decide +kernel
  · rw [f1, f3, hl]; omega
  · rw [f1, f3, i1, i2]; simp
  · rw [f1, f3, i1, sl]
    refine split_is m _ (by simp) ?_
    intro p hp
    simp only [List.mem_cons, List.mem_nil_iff, or_false] at hp
    rcases hp with h | h | h | h | h <;> subst h
    · exact List.not_mem_nil
    · exact List.not_mem_nil
    · exact List.not_mem_nil
    · exact hmD
    · exact List.not_mem_nil
  · show D.toArray.size ≤ 10
    simp; omega
end Mine
end
section
open PySem PySem.W PyProof.Rows PySem.Calls PySem.Spec PyProof.Rows.LCg
set_option maxRecDepth 100000
namespace Mine
structure IsRep (r : Str) (n : Int) : Prop where
  is : ∃ m D, r = repD m D ∧ (m = 124 ∨ m = 34 ∨ m = 92 ∨ m = 32) ∧ (∀ d ∈ D, 48 ≤ d ∧ d ≤ 57) ∧ 1 ≤ D.length ∧ D.length ≤ 3 ∧ PySem.intText? ⟨D.toArray⟩ = some n
theorem digits_ok : ∀ k : Fin 320, ((Str.ofString (toString (((k.val + 1 : Nat) : Int)))).cps.toList.all fun d => decide (48 ≤ d) && decide (d ≤ 57)) && decide (1 ≤ (Str.ofString (toString (((k.val + 1 : Nat) : Int)))).cps.toList.length) && decide ((Str.ofString (toString (((k.val + 1 : Nat) : Int)))).cps.toList.length ≤ 3) && (PySem.intText? (Str.ofString (toString (((k.val + 1 : Nat) : Int)))) == some (((k.val + 1 : Nat) : Int))) = true := by decide +kernel
theorem mark_is (k : Int) (h0 : 0 ≤ k) (h4 : k < 4) : ∃ m, Txt.item (Str.ofString "|\"\\ ") k = ⟨#[m]⟩ ∧ Txt.mul (Txt.item (Str.ofString "|\"\\ ") k) 3 = ⟨#[m, m, m]⟩ ∧ (m = 124 ∨ m = 34 ∨ m = 92 ∨ m = 32) := by
  have : k = 0 ∨ k = 1 ∨ k = 2 ∨ k = 3 := by omega
  rcases this with h | h | h | h <;> subst h
  · exact ⟨124, by decide +kernel, by decide +kernel, by decide⟩
  · exact ⟨34, by decide +kernel, by decide +kernel, by decide⟩
  · exact ⟨92, by decide +kernel, by decide +kernel, by decide⟩
  · exact ⟨32, by decide +kernel, by decide +kernel, by decide⟩
theorem head_is : (Str.ofString "229 (").cps.toList = [50, 50, 57, 32, 40] := by decide +kernel
theorem reply_is {cell n : Int} (h1 : 1 ≤ n) (h2 : n ≤ 320) : IsRep (replyS cell n) n := by
  have hk : 0 ≤ (cell.fdiv 80).fmod 4 ∧ (cell.fdiv 80).fmod 4 < 4 := by
    rw [Int.fmod_eq_emod_of_nonneg _ (by decide)]
    exact ⟨Int.emod_nonneg _ (by decide), Int.emod_lt_of_pos _ (by decide)⟩
  obtain ⟨m, e1, e2, hm⟩ := mark_is _ hk.1 hk.2
  obtain ⟨k, hk3, rfl⟩ : ∃ k : Nat, k < 320 ∧ n = ((k + 1 : Nat) : Int) := ⟨(n - 1).toNat, by omega, by omega⟩
  have hd := digits_ok ⟨k, hk3⟩
  simp only [Bool.and_eq_true, beq_iff_eq, decide_eq_true_eq] at hd
  obtain ⟨⟨⟨d1, d2⟩, d3⟩, d4⟩ := hd
  refine ⟨m, (Str.ofString (toString (((k + 1 : Nat) : Int)))).cps.toList, str_eq ?_, hm, fun d hd => ?_, d2, d3, ?_⟩
  · unfold replyS markS
    rw [e1, ← e1, e2, e1, paren_r]
    generalize (Str.ofString (toString (((k + 1 : Nat) : Int)))) = X
    show ((((Str.ofString "229 (" ++ ⟨#[m, m, m]⟩ : Str) ++ X : Str) ++ ⟨#[m]⟩ : Str) ++ ⟨#[41]⟩ : Str).cps.toList = _
    simp only [Str.cps_append, Array.toList_append, head_is]
    simp
  · have := List.all_eq_true.mp d1 d hd
    simpa using this
  · rw [show (⟨((Str.ofString (toString (((k + 1 : Nat) : Int)))).cps.toList).toArray⟩ : Str) = Str.ofString (toString (((k + 1 : Nat) : Int))) from str_eq rfl]
    exact d4
theorem IsRep.mk_ok {m : Nat} (hm : m = 124 ∨ m = 34 ∨ m = 92 ∨ m = 32) : MkOk m := by
  rcases hm with h | h | h | h <;> subst h <;> exact ⟨by decide, fun d h1 h2 => by omega⟩
theorem IsRep.repF {r : Str} {n : Int} (h : IsRep r n) : RepF r n := by
  obtain ⟨m, D, rfl, hm, hD, h1, h2, hn⟩ := h
  exact rep_RepF (IsRep.mk_ok hm) hD h1 h2 hn
structure WordOk (r : Str) : Prop where
  ne : r.cps.toList ≠ []
  no : ∀ c ∈ r.cps.toList, c ≠ 10 ∧ c < 200
  hi : r.length ≤ 14
theorem IsRep.word {r : Str} {n : Int} (h : IsRep r n) : WordOk r := by
  obtain ⟨m, D, rfl, hm, hD, h1, h2, hn⟩ := h
  obtain ⟨⟨m40, m41, m10, m200⟩, hnd⟩ := IsRep.mk_ok hm
  refine ⟨by show repL m D ≠ []; simp, ?_, by rw [repD_len]; omega⟩
  show ∀ c ∈ repL m D, _
  intro c hc
  simp only [repL, List.mem_cons, List.mem_append, List.mem_nil_iff, or_false] at hc
  rcases hc with h | h | h | h | h | h | h | h | h | h | h
  · subst h; decide
  · subst h; decide
  · subst h; decide
  · subst h; decide
  · subst h; decide
  · subst h; exact ⟨m10, m200⟩
  · subst h; exact ⟨m10, m200⟩
  · subst h; exact ⟨m10, m200⟩
  · have := hD c h; omega
  · subst h; exact ⟨m10, m200⟩
  · subst h; decide
theorem WordOk.strOk {r : Str} (h : WordOk r) : PyData.strOk r = true := by
  unfold PyData.strOk
  rw [← Array.all_toList]
  refine List.all_eq_true.mpr fun c hc => ?_
  have := (h.no c hc).2
  simp; omega
theorem subL_len (c a b : Nat) : ∀ l : List Nat, (subL c [a, b] l).length ≤ 2 * l.length
  | [] => by simp [subL]
  | k :: r => by
    have ih := subL_len c a b r
    have e : subL c [a, b] (k :: r) = (if k = c then [a, b] else [k]) ++ subL c [a, b] r := rfl
    rw [e, List.length_append, List.length_cons]
    by_cases h : k = c
    · rw [if_pos h]; simp only [List.length_cons, List.length_nil]; omega
    · rw [if_neg h]; simp only [List.length_cons, List.length_nil]; omega
theorem bs1 : Str.ofString "\\" = ⟨#[92]⟩ := by decide +kernel
theorem bs2 : Str.ofString "\\\\" = ⟨#[92, 92]⟩ := by decide +kernel
theorem qm1 : Str.ofString "\"" = ⟨#[34]⟩ := by decide +kernel
theorem qm2 : Str.ofString "\\\"" = ⟨#[92, 34]⟩ := by decide +kernel
theorem qm3 : Str.ofString "\"\n" = ⟨#[34, 10]⟩ := by decide +kernel
theorem nl1 : Str.ofString "\n" = ⟨#[10]⟩ := by decide +kernel
noncomputable abbrev quotL (l : List Nat) : List Nat := subL 34 [92, 34] (subL 92 [92, 92] l)
theorem rep1 (r : Str) : (Txt.replace r (Str.ofString "\\") (Str.ofString "\\\\")).cps.toList = subL 92 [92, 92] r.cps.toList := by
  rw [bs1, bs2, replace_is]
theorem rep2 (r : Str) : (Txt.replace (Txt.replace r (Str.ofString "\\") (Str.ofString "\\\\")) (Str.ofString "\"") (Str.ofString "\\\"")).cps.toList = quotL r.cps.toList := by
  rw [qm1, qm2, replace_is, rep1]
theorem len_toList (x : Str) : x.length = x.cps.toList.length := by simp [Str.length]
theorem word_wr {cell : Int} {r : Str} (h : WordOk r) (h0 : 0 ≤ cell) (h1 : cell < 1000000) : WrOk (cell, r) := by
  have h14 := h.hi
  rw [len_toList] at h14
  refine ⟨h.hi, ?_, ?_, h0, h1⟩
  · show (Txt.replace r (Str.ofString "\\") (Str.ofString "\\\\")).length ≤ 60
    rw [len_toList, rep1]
    have := subL_len 92 92 92 r.cps.toList
    omega
  · show (Txt.replace (Txt.replace r (Str.ofString "\\") (Str.ofString "\\\\")) (Str.ofString "\"") (Str.ofString "\\\"")).length ≤ 200
    rw [len_toList, rep2]
    have := subL_len 92 92 92 r.cps.toList
    have : (quotL r.cps.toList).length ≤ 2 * (subL 92 [92, 92] r.cps.toList).length := subL_len 34 92 34 (subL 92 [92, 92] r.cps.toList)
    omega
theorem subL_mem {c a b x : Nat} {l : List Nat} (h : x ∈ subL c [a, b] l) : x = a ∨ x = b ∨ x ∈ l := by
  obtain ⟨k, hk, hx⟩ := List.mem_flatMap.mp h
  by_cases e : k = c
  · rw [if_pos e] at hx
    simp only [List.mem_cons, List.mem_nil_iff, or_false] at hx
    rcases hx with hx | hx
    · exact .inl hx
    · exact .inr (.inl hx)
  · rw [if_neg e] at hx
    rw [List.mem_singleton.mp hx]
    exact .inr (.inr hk)
noncomputable def wrL (cell : Int) (l : List Nat) : List Nat := if (cell.fdiv 320).fmod 2 ≠ 0 then 34 :: (quotL l ++ [34, 10]) else escL l ++ [10]
theorem written_is (cell : Int) (r : Str) : (writtenS cell r).cps.toList = wrL cell r.cps.toList := by
  unfold writtenS wrL
  by_cases h : (cell.fdiv 320).fmod 2 ≠ 0
  · rw [if_pos h, if_pos h]
    rw [Str.cps_append, Str.cps_append, Array.toList_append, Array.toList_append, rep2, qm1, qm3]
    rfl
  · rw [if_neg h, if_neg h, Str.cps_append, Array.toList_append, nl1]
theorem lexQ_is : ∀ (l tok rest : List Nat), lexQ tok (quotL l ++ 34 :: rest) = some (tok ++ l, rest)
  | [], tok, rest => by
    show lexQ tok (34 :: rest) = _
    unfold lexQ
    simp
  | c :: l, tok, rest => by
    have e : quotL (c :: l) = subL 34 [92, 34] (if c = 92 then [92, 92] else [c]) ++ quotL l := by
      show subL 34 [92, 34] ((if c = 92 then [92, 92] else [c]) ++ subL 92 [92, 92] l) = _
      exact List.flatMap_append
    rw [e, List.append_assoc]
    have ih := lexQ_is l (tok ++ [c]) rest
    by_cases h1 : c = 92
    · subst h1
      show lexQ tok (92 :: 92 :: (quotL l ++ 34 :: rest)) = _
      unfold lexQ
      rw [if_neg (by decide), if_pos rfl]
      dsimp only
      rw [ih]; simp
    · rw [if_neg h1]
      by_cases h2 : c = 34
      · subst h2
        show lexQ tok (92 :: 34 :: (quotL l ++ 34 :: rest)) = _
        unfold lexQ
        rw [if_neg (by decide), if_pos rfl]
        dsimp only
        rw [ih]; simp
      · have e2 : subL 34 [92, 34] [c] = [c] := by show (if c = 34 then [92, 34] else [c]) ++ [] = _; rw [if_neg h2]; rfl
        rw [e2]
        show lexQ tok (c :: (quotL l ++ 34 :: rest)) = _
        unfold lexQ
        rw [if_neg h2, if_neg h1, ih]; simp
theorem lexB_is : ∀ (l tok rest : List Nat), lexB tok (escL l ++ 10 :: rest) = some (tok ++ l, rest)
  | [], tok, rest => by
    show lexB tok (10 :: rest) = _
    unfold lexB
    rw [if_pos (by decide)]
    simp
  | c :: l, tok, rest => by
    have ih := lexB_is l (tok ++ [c]) rest
    show lexB tok (92 :: c :: (escL l ++ 10 :: rest)) = _
    unfold lexB
    rw [if_neg (by decide), if_pos rfl]
    dsimp only
    rw [ih]; simp
theorem nls_app (a b : List Nat) : nls (a ++ b) = nls a + nls b := by
  unfold nls
  rw [List.filter_append, List.length_append]
  omega
theorem nls_zero {a : List Nat} (h : ∀ c ∈ a, c ≠ 10) : nls a = 0 := by
  unfold nls
  have e : a.filter (· == 10) = [] := List.filter_eq_nil_iff.mpr fun c hc => by simpa using h c hc
  rw [e]; rfl
theorem Book.ws {bk : List Nat} {rs : List Str} (h : Book bk rs) : Book (10 :: bk) rs := by
  have e : lexO (10 :: bk) = lexO bk := by
    conv => lhs; unfold lexO
    rw [if_pos (by decide)]
  cases h with
  | nil h => exact .nil (e.trans h)
  | cons h1 h2 h3 h4 => exact .cons (e.trans h1) (Nat.le_succ_of_le h2) (by rw [nls_cons]; simp only [if_true]; omega) h4
theorem esc_mem {x : Nat} {l : List Nat} (h : x ∈ escL l) : x = 92 ∨ x ∈ l := by
  obtain ⟨k, hk, hx⟩ := List.mem_flatMap.mp h
  simp only [List.mem_cons, List.mem_nil_iff, or_false] at hx
  rcases hx with hx | hx
  · exact .inl hx
  · rw [hx]; exact .inr hk
theorem wrL_nls {cell : Int} {r : Str} (h : WordOk r) : nls (wrL cell r.cps.toList) = 1 := by
  have hno : ∀ c ∈ r.cps.toList, c ≠ 10 := fun c hc => (h.no c hc).1
  unfold wrL
  by_cases h1 : (cell.fdiv 320).fmod 2 ≠ 0
  · rw [if_pos h1, nls_cons, nls_app, nls_zero (a := quotL _)]
    · rfl
    · intro c hc
      rcases subL_mem hc with h | h | h
      · subst h; decide
      · subst h; decide
      · rcases subL_mem h with h | h | h
        · subst h; decide
        · subst h; decide
        · exact hno c h
  · rw [if_neg h1, nls_app, nls_zero (a := escL _)]
    · rfl
    · intro c hc
      rcases esc_mem hc with h | h
      · subst h; decide
      · exact hno c h
theorem wrL_len {cell : Int} {r : Str} (h : WordOk r) : (wrL cell r.cps.toList).length ≤ 60 := by
  have h14 := h.hi
  rw [len_toList] at h14
  unfold wrL
  by_cases h1 : (cell.fdiv 320).fmod 2 ≠ 0
  · rw [if_pos h1]
    have := subL_len 92 92 92 r.cps.toList
    have : (quotL r.cps.toList).length ≤ 2 * (subL 92 [92, 92] r.cps.toList).length := subL_len 34 92 34 (subL 92 [92, 92] r.cps.toList)
    simp only [List.length_cons, List.length_append, List.length_nil]
    omega
  · rw [if_neg h1, List.length_append, escL_len]
    simp only [List.length_cons, List.length_nil]
    omega
theorem book_cons {cell : Int} {r : Str} {bk : List Nat} {rs : List Str} (h : WordOk r) (k : Book bk rs) : Book (wrL cell r.cps.toList ++ bk) (r :: rs) := by
  have hn := wrL_nls (cell := cell) h
  unfold wrL at hn ⊢
  by_cases h1 : (cell.fdiv 320).fmod 2 ≠ 0
  · rw [if_pos h1] at hn ⊢
    refine .cons (bk' := 10 :: bk) ?_ ?_ ?_ k.ws
    · show lexO (34 :: ((quotL r.cps.toList ++ [34, 10]) ++ bk)) = _
      unfold lexO
      rw [if_neg (by decide), if_pos rfl, List.append_assoc]
      show lexQ [] (quotL r.cps.toList ++ 34 :: 10 :: bk) = _
      rw [lexQ_is]; rfl
    · simp only [List.length_cons, List.length_append, List.length_nil]; omega
    · rw [nls_app, hn, nls_cons]; simp only [if_true]; omega
  · rw [if_neg h1] at hn ⊢
    refine .cons (bk' := bk) ?_ ?_ ?_ k
    · obtain ⟨c, l, e⟩ : ∃ c l, r.cps.toList = c :: l := by
        cases e : r.cps.toList with
        | nil => exact absurd e h.ne
        | cons c l => exact ⟨c, l, rfl⟩
      rw [e]
      show lexO (92 :: c :: ((escL l ++ [10]) ++ bk)) = _
      unfold lexO
      rw [if_neg (by decide), if_neg (by decide), if_pos rfl, List.append_assoc]
      show lexB [c] (escL l ++ 10 :: bk) = _
      rw [lexB_is]; rfl
    · simp only [List.length_append]; omega
    · rw [nls_app, hn]; omega
theorem join_flat : ∀ l : List Str, (Str.join ⟨#[]⟩ l).cps.toList = l.flatMap (·.cps.toList)
  | [] => rfl
  | [p] => by show p.cps.toList = _; simp
  | p :: q :: r => by
    show (p ++ ⟨#[]⟩ ++ Str.join ⟨#[]⟩ (q :: r)).cps.toList = _
    rw [Str.cps_append, Array.toList_append, join_flat (q :: r), Str.cps_append]
    simp
theorem txtJoin_flat (l : List Str) : (Txt.join (Str.ofString "") l).cps.toList = l.flatMap (·.cps.toList) := by
  unfold Txt.join
  rw [StrLaws.glued_eq_join, empty_is, join_flat]
theorem book_flat (gs : List (Int × Str)) : (bookOf gs).cps.toList = gs.flatMap fun p => wrL p.1 p.2.cps.toList := by
  unfold bookOf
  rw [txtJoin_flat, List.flatMap_map]
  congr 1
  funext p
  exact written_is p.1 p.2
theorem book_is : ∀ gs : List (Int × Str), (∀ p ∈ gs, WordOk p.2) → Book (gs.flatMap fun p => wrL p.1 p.2.cps.toList) (gs.map (·.2)) ∧ nls (gs.flatMap fun p => wrL p.1 p.2.cps.toList) = (gs.length : Nat) ∧ (gs.flatMap fun p => wrL p.1 p.2.cps.toList).length ≤ 60 * gs.length
  | [], _ => ⟨.nil rfl, rfl, by simp⟩
  | p :: r, h => by
    obtain ⟨h1, h2, h3⟩ := book_is r fun q hq => h q (.tail _ hq)
    have hp := h p (.head _)
    refine ⟨?_, ?_, ?_⟩
    · exact book_cons hp h1
    · rw [List.flatMap_cons, nls_app, wrL_nls hp, h2, List.length_cons]; omega
    · rw [List.flatMap_cons, List.length_append, List.length_cons]
      have := wrL_len (cell := p.1) hp
      omega
end Mine
end
section
open PySem PySem.W PyProof.Rows PySem.Calls PySem.Spec PyProof.Rows.LCg
set_option maxRecDepth 100000
namespace Mine
noncomputable def wyR : List (Bool × Int) → List Int → List (List Int)
  | [], _ => [[]]
  | (true, n) :: t, I => wyR t (I ++ [n])
  | (false, n) :: t, I => (List.range I.length).flatMap fun j => (wyR t (I.take j ++ I.drop (j + 1))).map ((n - I.getD j 0) :: ·)
theorem fold_wyR : ∀ (hs : List (Bool × Int)) (W : List (List Int × List Int)), (hs.foldl wayStep W).map (·.2) = W.flatMap fun p => (wyR hs p.1).map (p.2 ++ ·) := by
  intro hs
  induction hs with
  | nil =>
    intro W
    induction W with
    | nil => rfl
    | cons a r ih => simpa [wyR] using ih
  | cons h t ih =>
    intro W
    obtain ⟨b, n⟩ := h
    rw [List.foldl_cons, ih]
    cases b with
    | true =>
      simp only [wayStep, if_true, wyR, stepC, List.flatMap_map]
    | false =>
      simp only [wayStep, wyR, stepG, List.flatMap_assoc, List.flatMap_map, List.map_flatMap, List.map_map, Bool.false_eq_true, if_false]
      congr 1
      funext p
      congr 1
      funext j
      simp only [gWay]
      congr 1
      funext x
      simp
theorem ways_wyR (hs : List (Bool × Int)) : (waysL hs).map (·.2) = wyR hs [] := by
  unfold waysL
  rw [fold_wyR]
  simp
noncomputable def fwR : List (Bool × Int) → List Int → List Int
  | [], _ => []
  | (true, n) :: t, I => fwR t (I ++ [n])
  | (false, _) :: t, [] => fwR t []
  | (false, n) :: t, a :: I => (n - a) :: fwR t I
noncomputable def lwR : List (Bool × Int) → List Int → List Int
  | [], _ => []
  | (true, n) :: t, I => lwR t (n :: I)
  | (false, _) :: t, [] => lwR t []
  | (false, n) :: t, a :: I => (n - a) :: lwR t I
noncomputable def balR : List Bool → Nat → Bool
  | [], k => k == 0
  | true :: t, k => balR t (k + 1)
  | false :: _, 0 => false
  | false :: t, k + 1 => balR t k
noncomputable def incrR : Int → List (Bool × Int) → Prop
  | _, [] => True
  | lo, (_, n) :: t => lo < n ∧ incrR n t
theorem incrR.lower {a b : Int} {t : List (Bool × Int)} (h : incrR b t) (k : a ≤ b) : incrR a t := by
  cases t with
  | nil => trivial
  | cons h' t => exact ⟨Int.lt_of_le_of_lt k h.1, h.2⟩
noncomputable def costR (φ : Int → Int) (w : List Int) : Int := (w.map φ).sum
theorem costR_nil (φ : Int → Int) : costR φ [] = 0 := rfl
theorem costR_cons (φ : Int → Int) (a : Int) (w : List Int) : costR φ (a :: w) = φ a + costR φ w := by simp [costR]
noncomputable def ExR (φ : Int → Int) (d : Int) : Prop := ∀ c1 c2 g1 g2 : Int, c1 < c2 → g1 < g2 → φ (g1 - c1) + φ (g2 - c2) + d ≤ φ (g1 - c2) + φ (g2 - c1)
theorem fwX {φ : Int → Int} {d : Int} (hφ : ExR φ d) (h0 : 0 ≤ d) : ∀ (t : List (Bool × Int)) (n a x : Int) (M1 M2 : List Int), incrR n t → balR (t.map (·.1)) (M1.length + 1 + M2.length) = true → a < x → (∀ m ∈ M1, m < x) →
    φ (n - a) + costR φ (fwR t (M1 ++ x :: M2)) + d ≤ φ (n - x) + costR φ (fwR t (a :: (M1 ++ M2))) := by
  intro t
  induction t with
  | nil => intro n a x M1 M2 _ hb; simp [balR] at hb
  | cons h t ih =>
    intro n a x M1 M2 hi hb hax hM
    obtain ⟨b, g⟩ := h
    obtain ⟨hng, hi⟩ := hi
    cases b with
    | true =>
      simp only [fwR]
      have := ih n a x M1 (M2 ++ [g]) (hi.lower (Int.le_of_lt hng)) (by simpa [balR, Nat.add_assoc, Nat.add_comm, Nat.add_left_comm] using hb) hax hM
      simpa [List.append_assoc] using this
    | false =>
      cases M1 with
      | nil =>
        simp only [List.nil_append, fwR, costR_cons]
        have := hφ a x n g hax hng
        omega
      | cons m M1 =>
        simp only [List.cons_append, fwR, costR_cons]
        have e := ih g m x M1 M2 hi (by
          have e1 : M1.length + 1 + M2.length + 1 = (m :: M1).length + 1 + M2.length := by simp only [List.length_cons]; omega
          rw [← e1] at hb
          exact hb) (hM m (.head _)) fun y hy => hM y (.tail _ hy)
        have := hφ a x n g hax hng
        omega
theorem lwX {φ : Int → Int} {d : Int} (hφ : ExR φ d) (h0 : 0 ≤ d) : ∀ (t : List (Bool × Int)) (n x b : Int) (S M2 M1 : List Int), incrR n t → balR (t.map (·.1)) (S.length + 1 + (M2.length + M1.length)) = true → x < b → (∀ m ∈ M2, x < m) →
    φ (n - x) + costR φ (lwR t (S ++ b :: (M2 ++ M1))) + d ≤ φ (n - b) + costR φ (lwR t (S ++ (M2 ++ x :: M1))) := by
  intro t
  induction t with
  | nil => intro n x b S M2 M1 _ hb; simp [balR] at hb
  | cons h t ih =>
    intro n x b S M2 M1 hi hb hxb hM
    obtain ⟨c, g⟩ := h
    obtain ⟨hng, hi⟩ := hi
    cases c with
    | true =>
      simp only [lwR]
      have := ih n x b (g :: S) M2 M1 (hi.lower (Int.le_of_lt hng)) (by
        have e1 : (g :: S).length + 1 + (M2.length + M1.length) = S.length + 1 + (M2.length + M1.length) + 1 := by simp only [List.length_cons]; omega
        rw [e1]; exact hb) hxb hM
      simpa using this
    | false =>
      cases S with
      | cons c S =>
        simp only [List.cons_append, lwR, costR_cons]
        have := ih n x b S M2 M1 (hi.lower (Int.le_of_lt hng)) (by
          have e1 : (c :: S).length + 1 + (M2.length + M1.length) = S.length + 1 + (M2.length + M1.length) + 1 := by simp only [List.length_cons]; omega
          rw [e1] at hb; exact hb) hxb hM
        omega
      | nil =>
        simp only [List.nil_append]
        cases M2 with
        | nil =>
          simp only [List.nil_append, lwR, costR_cons]
          have := hφ x b n g hxb hng
          omega
        | cons m M2 =>
          simp only [List.cons_append, lwR, costR_cons]
          have e := ih g x m [] M2 M1 hi (by
            have e1 : ([] : List Int).length + 1 + ((m :: M2).length + M1.length) = ([] : List Int).length + 1 + (M2.length + M1.length) + 1 := by simp only [List.length_cons, List.length_nil]; omega
            rw [e1] at hb; exact hb) (hM m (.head _)) fun y hy => hM y (.tail _ hy)
          simp only [List.nil_append] at e
          have := hφ x b n g hxb hng
          omega
end Mine
end
section
open PySem PySem.W PyProof.Rows PySem.Calls PySem.Spec PyProof.Rows.LCg
set_option maxRecDepth 100000
namespace Mine
theorem splitAt_one {R : List Int} {j : Nat} (h : j < R.length) : R = R.take j ++ R[j] :: R.drop (j + 1) := by
  rw [← List.drop_eq_getElem_cons h, List.take_append_drop]
theorem wyR_fst {φ : Int → Int} {d : Int} (hφ : ExR φ d) (h0 : 0 ≤ d) : ∀ (hs : List (Bool × Int)) (I : List Int) (lo : Int), incrR lo hs → balR (hs.map (·.1)) I.length = true → I.Pairwise (· < ·) → (∀ x ∈ I, x ≤ lo) →
    ∃ rest, wyR hs I = fwR hs I :: rest ∧ ∀ w ∈ rest, costR φ (fwR hs I) + d ≤ costR φ w := by
  intro hs
  induction hs with
  | nil => intro I lo _ _ _ _; exact ⟨[], rfl, fun _ h => nomatch h⟩
  | cons h t ih =>
    intro I lo hi hb hp hl
    obtain ⟨c, n⟩ := h
    obtain ⟨hlo, hi⟩ := hi
    cases c with
    | true =>
      refine ih (I ++ [n]) n hi (by rw [List.length_append]; exact hb) (List.pairwise_append.mpr ⟨hp, List.pairwise_singleton _ _, fun x hx y hy => ?_⟩) (fun x hx => ?_)
      · rw [List.mem_singleton.mp hy]; have := hl x hx; omega
      · rcases List.mem_append.mp hx with hx | hx
        · have := hl x hx; omega
        · rw [List.mem_singleton.mp hx]; omega
    | false =>
      cases I with
      | nil => exact absurd hb (by simp [balR])
      | cons a M =>
        have hbM : balR (t.map (·.1)) M.length = true := hb
        obtain ⟨hpa, hpM⟩ := List.pairwise_cons.mp hp
        obtain ⟨rest, e1, e2⟩ := ih M n hi hbM hpM fun x hx => by have := hl x (.tail _ hx); omega
        refine ⟨rest.map ((n - a) :: ·) ++ ((List.range M.length).map Nat.succ).flatMap fun j => (wyR t ((a :: M).take j ++ (a :: M).drop (j + 1))).map ((n - (a :: M).getD j 0) :: ·), ?_, ?_⟩
        · show (List.range (M.length + 1)).flatMap _ = _
          rw [List.range_succ_eq_map, List.flatMap_cons]
          show (wyR t M).map ((n - a) :: ·) ++ _ = _
          rw [e1]
          rfl
        · intro w hw
          rcases List.mem_append.mp hw with hw | hw
          · obtain ⟨w', hw', rfl⟩ := List.mem_map.mp hw
            have := e2 w' hw'
            simp only [fwR, costR_cons]
            omega
          · obtain ⟨j', hj', hw⟩ := List.mem_flatMap.mp hw
            obtain ⟨j, hj, rfl⟩ := List.mem_map.mp hj'
            obtain ⟨w', hw', rfl⟩ := List.mem_map.mp hw
            have hj := List.mem_range.mp hj
            have hs := splitAt_one hj
            have hI : (a :: M).take (Nat.succ j) ++ (a :: M).drop (Nat.succ j + 1) = a :: (M.take j ++ M.drop (j + 1)) := rfl
            rw [hI] at hw'
            have hx : (a :: M).getD (Nat.succ j) 0 = M[j] := by simp [List.getD_eq_getElem?_getD, hj]
            rw [hx]
            generalize M[j] = x at *
            generalize M.take j = M1 at *
            generalize M.drop (j + 1) = M2 at *
            subst hs
            have hlen : (a :: (M1 ++ M2)).length = M1.length + 1 + M2.length := by simp only [List.length_cons, List.length_append]; omega
            have hbl : balR (t.map (·.1)) (M1.length + 1 + M2.length) = true := by
              have e : (M1 ++ x :: M2).length = M1.length + 1 + M2.length := by simp only [List.length_cons, List.length_append]; omega
              rw [e] at hbM; exact hbM
            obtain ⟨p1, p2, p3⟩ := List.pairwise_append.mp hpM
            obtain ⟨p4, p5⟩ := List.pairwise_cons.mp p2
            obtain ⟨rest2, e3, e4⟩ := ih (a :: (M1 ++ M2)) n hi (by rw [hlen]; exact hbl) (List.pairwise_cons.mpr ⟨fun y hy => hpa y (by
                rcases List.mem_append.mp hy with hy | hy
                · exact List.mem_append_left _ hy
                · exact List.mem_append_right _ (.tail _ hy)), List.pairwise_append.mpr ⟨p1, p5, fun u hu v hv => p3 u hu v (.tail _ hv)⟩⟩) (fun y hy => by
                have : y ≤ lo := hl y (by
                  rcases List.mem_cons.mp hy with hy | hy
                  · rw [hy]; exact .head _
                  · rcases List.mem_append.mp hy with hy | hy
                    · exact .tail _ (List.mem_append_left _ hy)
                    · exact .tail _ (List.mem_append_right _ (.tail _ hy)))
                omega)
            have hX := fwX hφ h0 t n a x M1 M2 hi hbl (hpa x (List.mem_append_right _ (.head _))) fun m hm => p3 m hm x (.head _)
            rw [e3] at hw'
            have hw2 : costR φ (fwR t (a :: (M1 ++ M2))) ≤ costR φ w' := by
              rcases List.mem_cons.mp hw' with h | h
              · rw [h]; exact Int.le_refl _
              · have := e4 w' h; omega
            simp only [fwR, costR_cons]
            omega
theorem wyR_lst {φ : Int → Int} {d : Int} (hφ : ExR φ d) (h0 : 0 ≤ d) : ∀ (hs : List (Bool × Int)) (K : List Int) (lo : Int), incrR lo hs → balR (hs.map (·.1)) K.length = true → K.Pairwise (· > ·) → (∀ x ∈ K, x ≤ lo) →
    ∃ ini, wyR hs K.reverse = ini ++ [lwR hs K] ∧ ∀ w ∈ ini, costR φ w + d ≤ costR φ (lwR hs K) := by
  intro hs
  induction hs with
  | nil => intro I lo _ _ _ _; exact ⟨[], rfl, fun _ h => nomatch h⟩
  | cons h t ih =>
    intro K lo hi hb hp hl
    obtain ⟨c, n⟩ := h
    obtain ⟨hlo, hi⟩ := hi
    cases c with
    | true =>
      have e : K.reverse ++ [n] = (n :: K).reverse := by simp
      show ∃ ini, wyR t (K.reverse ++ [n]) = _ ∧ _
      rw [e]
      refine ih (n :: K) n hi hb (List.pairwise_cons.mpr ⟨fun x hx => ?_, hp⟩) (fun x hx => ?_)
      · have := hl x hx; show x < n; omega
      · rcases List.mem_cons.mp hx with hx | hx
        · rw [hx]; omega
        · have := hl x hx; omega
    | false =>
      cases K with
      | nil => exact absurd hb (by simp [balR])
      | cons b K =>
        have hbM : balR (t.map (·.1)) K.length = true := hb
        obtain ⟨hpa, hpM⟩ := List.pairwise_cons.mp hp
        obtain ⟨ini, e1, e2⟩ := ih K n hi hbM hpM fun x hx => by have := hl x (.tail _ hx); omega
        refine ⟨((List.range K.length).flatMap fun j => (wyR t ((K.reverse ++ [b]).take j ++ (K.reverse ++ [b]).drop (j + 1))).map ((n - (K.reverse ++ [b]).getD j 0) :: ·)) ++ ini.map ((n - b) :: ·), ?_, ?_⟩
        · rw [List.reverse_cons]
          show (List.range (K.reverse ++ [b]).length).flatMap _ = _
          rw [show (K.reverse ++ [b]).length = K.length + 1 by simp, List.range_succ, List.flatMap_append, List.append_assoc]
          congr 1
          have e5 : (K.reverse ++ [b]).take K.length ++ (K.reverse ++ [b]).drop (K.length + 1) = K.reverse := by
            rw [List.take_append_of_le_length (by simp), List.take_of_length_le (by simp), List.drop_eq_nil_of_le (by simp), List.append_nil]
          have e6 : (K.reverse ++ [b]).getD K.length 0 = b := by simp [List.getD_eq_getElem?_getD]
          simp only [List.flatMap_cons, List.flatMap_nil, List.append_nil]
          rw [e5, e6, e1]
          simp [lwR]
        · intro w hw
          rcases List.mem_append.mp hw with hw | hw
          · obtain ⟨j, hj, hw⟩ := List.mem_flatMap.mp hw
            obtain ⟨w', hw', rfl⟩ := List.mem_map.mp hw
            have hj := List.mem_range.mp hj
            have hj2 : j < K.reverse.length := by simpa using hj
            have hs := splitAt_one hj2
            have hI : (K.reverse ++ [b]).take j ++ (K.reverse ++ [b]).drop (j + 1) = (b :: ((K.reverse.drop (j + 1)).reverse ++ (K.reverse.take j).reverse)).reverse := by
              rw [List.take_append_of_le_length (Nat.le_of_lt hj2), List.drop_append_of_le_length hj2, List.reverse_cons, List.reverse_append, List.reverse_reverse, List.reverse_reverse, List.append_assoc]
            rw [hI] at hw'
            have hx : (K.reverse ++ [b]).getD j 0 = K.reverse[j] := by
              rw [List.getD_eq_getElem?_getD, List.getElem?_append_left hj2, List.getElem?_eq_getElem hj2]; rfl
            rw [hx]
            generalize K.reverse[j] = x at *
            generalize K.reverse.take j = P at *
            generalize K.reverse.drop (j + 1) = S at *
            have hK : K = S.reverse ++ x :: P.reverse := by
              have := congrArg List.reverse hs
              simpa using this
            generalize S.reverse = M2 at *
            generalize P.reverse = M1 at *
            clear hs
            subst hK
            have hlen : (b :: (M2 ++ M1)).length = ([] : List Int).length + 1 + (M2.length + M1.length) := by simp only [List.length_cons, List.length_append, List.length_nil]; omega
            have hbl : balR (t.map (·.1)) (([] : List Int).length + 1 + (M2.length + M1.length)) = true := by
              have e : (M2 ++ x :: M1).length = ([] : List Int).length + 1 + (M2.length + M1.length) := by simp only [List.length_cons, List.length_append, List.length_nil]; omega
              rw [e] at hbM; exact hbM
            obtain ⟨p1, p2, p3⟩ := List.pairwise_append.mp hpM
            obtain ⟨p4, p5⟩ := List.pairwise_cons.mp p2
            obtain ⟨rest2, e3, e4⟩ := ih (b :: (M2 ++ M1)) n hi (by rw [hlen]; exact hbl) (List.pairwise_cons.mpr ⟨fun y hy => hpa y (by
                rcases List.mem_append.mp hy with hy | hy
                · exact List.mem_append_left _ hy
                · exact List.mem_append_right _ (.tail _ hy)), List.pairwise_append.mpr ⟨p1, p5, fun u hu v hv => p3 u hu v (.tail _ hv)⟩⟩) (fun y hy => by
                have : y ≤ lo := hl y (by
                  rcases List.mem_cons.mp hy with hy | hy
                  · rw [hy]; exact .head _
                  · rcases List.mem_append.mp hy with hy | hy
                    · exact .tail _ (List.mem_append_left _ hy)
                    · exact .tail _ (List.mem_append_right _ (.tail _ hy)))
                omega)
            have hX := lwX hφ h0 t n x b [] M2 M1 hi hbl (hpa x (List.mem_append_right _ (.head _))) fun m hm => p3 m hm x (.head _)
            simp only [List.nil_append] at hX
            rw [e3] at hw'
            have hw2 : costR φ w' ≤ costR φ (lwR t (b :: (M2 ++ M1))) := by
              rcases List.mem_append.mp hw' with h | h
              · have := e4 w' h; omega
              · rw [List.mem_singleton.mp h]; exact Int.le_refl _
            simp only [lwR, costR_cons]
            omega
          · obtain ⟨w', hw', rfl⟩ := List.mem_map.mp hw
            have := e2 w' hw'
            simp only [lwR, costR_cons]
            omega
end Mine
end
section
open PySem PySem.W PyProof.Rows PySem.Calls PySem.Spec PyProof.Rows.LCg
set_option maxRecDepth 100000
namespace Mine
theorem costR_perm (φ : Int → Int) {a b : List Int} (h : a.Perm b) : costR φ a = costR φ b := by
  induction h with
  | nil => rfl
  | cons x _ ih => rw [costR_cons, costR_cons, ih]
  | swap x y l => simp only [costR_cons]; omega
  | trans _ _ h1 h2 => exact h1.trans h2
theorem sumsL_len : ∀ (l : List Int) (t : Int), (sumsL t l).length = l.length
  | [], _ => rfl
  | a :: r, t => by simp [sumsL, sumsL_len r]
theorem four_of {l : List Int} (h : l.length = 4) : ∃ a b c d, l = [a, b, c, d] := by
  obtain ⟨a, b, c, d, l1, e1, h1⟩ := four_len (n := 0) h
  exact ⟨a, b, c, d, e1.trans (congrArg (fun r => a :: b :: c :: d :: r) (List.eq_nil_of_length_eq_zero h1))⟩
noncomputable def phiR (t x : Int) : Int := max (x - t) 0
theorem phiR_ge (t x : Int) : x - t ≤ phiR t x := Int.le_max_left ..
theorem phiR_nn (t x : Int) : 0 ≤ phiR t x := Int.le_max_right ..
theorem phiR_up {t x : Int} (h : t ≤ x) : phiR t x = x - t := by unfold phiR; omega
theorem phiR_dn {t x : Int} (h : x ≤ t) : phiR t x = 0 := by unfold phiR; omega
theorem ex_phi (t : Int) : ExR (phiR t) 0 := by
  intro c1 c2 g1 g2 h1 h2
  unfold phiR
  omega
theorem ex_id : ExR (fun x => x) 0 := by intro c1 c2 g1 g2 h1 h2; dsimp only; omega
theorem ex_neg : ExR (fun x => -x) 0 := by intro c1 c2 g1 g2 h1 h2; dsimp only; omega
theorem ex_sq : ExR (fun x => x * x) 1 := by
  intro c1 c2 g1 g2 h1 h2
  obtain ⟨u, hu, rfl⟩ : ∃ u, 1 ≤ u ∧ c2 = c1 + u := ⟨c2 - c1, by omega, by omega⟩
  obtain ⟨v, hv, rfl⟩ : ∃ v, 1 ≤ v ∧ g2 = g1 + v := ⟨g2 - g1, by omega, by omega⟩
  have hp : 1 ≤ u * v := by
    have := Int.mul_le_mul hu hv (by decide) (by omega)
    simpa using this
  obtain ⟨w, rfl⟩ : ∃ w, g1 = c1 + w := ⟨g1 - c1, by omega⟩
  have e1 : c1 + w - c1 = w := by omega
  have e2 : c1 + w + v - (c1 + u) = w + (v - u) := by omega
  have e3 : c1 + w - (c1 + u) = w - u := by omega
  have e4 : c1 + w + v - c1 = w + v := by omega
  simp only [e1, e2, e3, e4]
  simp only [Int.add_mul, Int.mul_add, Int.sub_mul, Int.mul_sub]
  have h1 : v * w = w * v := Int.mul_comm ..
  have h2 : u * w = w * u := Int.mul_comm ..
  have h3 : v * u = u * v := Int.mul_comm ..
  omega
theorem four_le {a b : List Int} (ha : a.length = 4) (hb : b.length = 4) (ob : Ordered true b) (hs : costR (fun x => x) a = costR (fun x => x) b) (h : ∀ t, costR (phiR t) a ≤ costR (phiR t) b) :
    ∀ (i : Nat) (x y : Int), (sumsL 0 a)[i]? = some x → (sumsL 0 b)[i]? = some y → x ≤ y := by
  obtain ⟨a1, a2, a3, a4, rfl⟩ := four_of ha
  obtain ⟨b1, b2, b3, b4, rfl⟩ := four_of hb
  have ob' : [b1, b2, b3, b4].Pairwise (· ≥ ·) := ob
  simp only [List.pairwise_cons, List.mem_cons, List.mem_nil_iff, or_false, forall_eq_or_imp, forall_eq] at ob'
  obtain ⟨⟨o1, o2, o3⟩, ⟨o4, o5⟩, o6, -⟩ := ob'
  simp only [costR_cons, costR_nil] at hs
  have H : ∀ t, phiR t a1 + (phiR t a2 + (phiR t a3 + (phiR t a4 + 0))) ≤ phiR t b1 + (phiR t b2 + (phiR t b3 + (phiR t b4 + 0))) := fun t => by have := h t; simpa only [costR_cons, costR_nil] using this
  intro i x y hx hy
  match i, hx, hy with
  | 0, hx, hy =>
    simp [sumsL] at hx hy
    have := H b1
    rw [phiR_dn (Int.le_refl b1), phiR_dn o1, phiR_dn o2, phiR_dn o3] at this
    have := phiR_ge b1 a1; have := phiR_nn b1 a2; have := phiR_nn b1 a3; have := phiR_nn b1 a4
    omega
  | 1, hx, hy =>
    simp [sumsL] at hx hy
    have := H b2
    rw [phiR_up o1, phiR_dn (Int.le_refl b2), phiR_dn o4, phiR_dn o5] at this
    have := phiR_ge b2 a1; have := phiR_ge b2 a2; have := phiR_nn b2 a3; have := phiR_nn b2 a4
    omega
  | 2, hx, hy =>
    simp [sumsL] at hx hy
    have := H b3
    rw [phiR_up o2, phiR_up o4, phiR_dn (Int.le_refl b3), phiR_dn o6] at this
    have := phiR_ge b3 a1; have := phiR_ge b3 a2; have := phiR_ge b3 a3; have := phiR_nn b3 a4
    omega
  | 3, hx, hy =>
    simp [sumsL] at hx hy
    omega
  | k + 4, hx, hy => simp [sumsL] at hx
theorem sums_last {a b : List Int} (ha : a.length = 4) (hb : b.length = 4) (hs : costR (fun x => x) a = costR (fun x => x) b) : (sumsL 0 a)[3]? = (sumsL 0 b)[3]? := by
  obtain ⟨a1, a2, a3, a4, rfl⟩ := four_of ha
  obtain ⟨b1, b2, b3, b4, rfl⟩ := four_of hb
  simp only [costR_cons, costR_nil] at hs
  simp [sumsL]
  omega
theorem sums_inj {a b : List Int} (ha : a.length = 4) (hb : b.length = 4) (hs : sumsL 0 a = sumsL 0 b) : a = b := by
  obtain ⟨a1, a2, a3, a4, rfl⟩ := four_of ha
  obtain ⟨b1, b2, b3, b4, rfl⟩ := four_of hb
  simp only [sumsL, List.cons.injEq, and_true] at hs ⊢
  obtain ⟨h1, h2, h3, h4⟩ := hs
  rw [h1] at h2 h3 h4
  have e2 := Int.add_left_cancel h2
  rw [e2] at h3 h4
  have e3 := Int.add_left_cancel h3
  rw [e3] at h4
  exact ⟨Int.add_left_cancel h1, e2, e3, Int.add_left_cancel h4⟩
theorem list4_ext {a b : List Int} (ha : a.length = 4) (hb : b.length = 4) (h1 : ∀ (i : Nat) (x y : Int), a[i]? = some x → b[i]? = some y → x ≤ y) (h2 : ∀ (i : Nat) (x y : Int), b[i]? = some x → a[i]? = some y → x ≤ y) : a = b := by
  refine List.ext_getElem (ha.trans hb.symm) fun i p q => ?_
  exact Int.le_antisymm (h1 i _ _ (List.getElem?_eq_getElem p) (List.getElem?_eq_getElem q)) (h2 i _ _ (List.getElem?_eq_getElem q) (List.getElem?_eq_getElem p))
theorem long_le {u v ru rv : List Int} (hu : u.length = 4) (hv : v.length = 4) (hru : LongOf u ru) (hrv : LongOf v rv) (hs : costR (fun x => x) u = costR (fun x => x) v) (h : ∀ t, costR (phiR t) u ≤ costR (phiR t) v) :
    ∀ (i : Nat) (x y : Int), ru[i]? = some x → rv[i]? = some y → x ≤ y := by
  obtain ⟨su, p1, o1, rfl⟩ := hru
  obtain ⟨sv, p2, o2, rfl⟩ := hrv
  exact four_le (p1.length_eq.trans hu) (p2.length_eq.trans hv) o2 (by rw [costR_perm _ p1, costR_perm _ p2]; exact hs) fun t => by rw [costR_perm _ p1, costR_perm _ p2]; exact h t
theorem long_len {u ru : List Int} (hu : u.length = 4) (hru : LongOf u ru) : ru.length = 4 := by
  obtain ⟨su, p1, o1, rfl⟩ := hru
  rw [sumsL_len, p1.length_eq, hu]
theorem long_last {u v ru rv : List Int} (hu : u.length = 4) (hv : v.length = 4) (hru : LongOf u ru) (hrv : LongOf v rv) (hs : costR (fun x => x) u = costR (fun x => x) v) : ru[3]? = rv[3]? := by
  obtain ⟨su, p1, o1, rfl⟩ := hru
  obtain ⟨sv, p2, o2, rfl⟩ := hrv
  exact sums_last (p1.length_eq.trans hu) (p2.length_eq.trans hv) (by rw [costR_perm _ p1, costR_perm _ p2]; exact hs)
theorem long_sq {u v r : List Int} (hu : u.length = 4) (hv : v.length = 4) (hru : LongOf u r) (hrv : LongOf v r) (φ : Int → Int) : costR φ u = costR φ v := by
  obtain ⟨su, p1, o1, rfl⟩ := hru
  obtain ⟨sv, p2, o2, e⟩ := hrv
  have := sums_inj (p1.length_eq.trans hu) (p2.length_eq.trans hv) e
  rw [← costR_perm φ p1, ← costR_perm φ p2, this]
noncomputable def cntR : List Bool → Nat → Nat
  | [], _ => 1
  | true :: t, k => cntR t (k + 1)
  | false :: t, k => k * cntR t (k - 1)
theorem flat_len {α : Type} (f : Nat → List α) (c : Nat) : ∀ n, (∀ j < n, (f j).length = c) → ((List.range n).flatMap f).length = n * c := by
  intro n
  induction n with
  | zero => intro _; simp
  | succ n ih =>
    intro h
    rw [List.range_succ, List.flatMap_append, List.length_append, ih fun j hj => h j (Nat.lt_succ_of_lt hj), Nat.succ_mul]
    simp [h n (Nat.lt_succ_self n)]
theorem wyR_len : ∀ (hs : List (Bool × Int)) (I : List Int), (wyR hs I).length = cntR (hs.map (·.1)) I.length := by
  intro hs
  induction hs with
  | nil => intro I; rfl
  | cons h t ih =>
    intro I
    obtain ⟨c, n⟩ := h
    cases c with
    | true =>
      show (wyR t (I ++ [n])).length = cntR (t.map (·.1)) (I.length + 1)
      rw [ih, List.length_append]; rfl
    | false =>
      refine flat_len _ (cntR (t.map (·.1)) (I.length - 1)) _ fun j hj => ?_
      rw [List.length_map, ih, List.length_append, List.length_take, List.length_drop]
      congr 1
      omega
noncomputable def goesR (bs : List Bool) : Nat := (bs.filter (!·)).length
theorem wyR_each : ∀ (hs : List (Bool × Int)) (I : List Int), ∀ w ∈ wyR hs I, w.length = goesR (hs.map (·.1)) := by
  intro hs
  induction hs with
  | nil => intro I w hw; rw [List.mem_singleton.mp hw]; rfl
  | cons h t ih =>
    intro I w hw
    obtain ⟨c, n⟩ := h
    cases c with
    | true => exact ih _ w hw
    | false =>
      obtain ⟨j, hj, hw⟩ := List.mem_flatMap.mp hw
      obtain ⟨w', hw', rfl⟩ := List.mem_map.mp hw
      rw [List.length_cons, ih _ w' hw']
      rfl
theorem wayOk {hs : List (Bool × Int)} {les mos : List Int} (hi : incrR 0 hs) (hb : balR (hs.map (·.1)) 0 = true) (hg : goesR (hs.map (·.1)) = 4) (hc : cntR (hs.map (·.1)) 0 ≤ 1000) (h1 : LongOf (fwR hs []) les) (h2 : LongOf (lwR hs []) mos) :
    WayOk ((waysL hs).map (·.2)) les mos := by
  rw [ways_wyR]
  have each := wyR_each hs []
  rw [hg] at each
  have fst := fun {φ : Int → Int} {d : Int} (hφ : ExR φ d) (h0 : 0 ≤ d) => wyR_fst hφ h0 hs [] 0 hi hb .nil (fun _ h => nomatch h)
  have lst := fun {φ : Int → Int} {d : Int} (hφ : ExR φ d) (h0 : 0 ≤ d) => wyR_lst hφ h0 hs [] 0 hi hb .nil (fun _ h => nomatch h)
  simp only [List.reverse_nil] at lst
  have hF : fwR hs [] ∈ wyR hs [] := by obtain ⟨r, e, -⟩ := fst ex_id (Int.le_refl 0); rw [e]; exact .head _
  have hL : lwR hs [] ∈ wyR hs [] := by obtain ⟨r, e, -⟩ := lst ex_id (Int.le_refl 0); rw [e]; exact List.mem_append_right _ (.head _)
  have hF4 := each _ hF
  have hL4 := each _ hL
  have lo : ∀ {φ : Int → Int}, ExR φ 0 → ∀ w ∈ wyR hs [], costR φ (fwR hs []) ≤ costR φ w := by
    intro φ hφ w hw
    obtain ⟨r, e, k⟩ := fst hφ (Int.le_refl 0)
    rw [e] at hw
    rcases List.mem_cons.mp hw with h | h
    · rw [h]; exact Int.le_refl _
    · have := k w h; omega
  have hi : ∀ {φ : Int → Int}, ExR φ 0 → ∀ w ∈ wyR hs [], costR φ w ≤ costR φ (lwR hs []) := by
    intro φ hφ w hw
    obtain ⟨r, e, k⟩ := lst hφ (Int.le_refl 0)
    rw [e] at hw
    rcases List.mem_append.mp hw with h | h
    · have := k w h; omega
    · rw [List.mem_singleton.mp h]; exact Int.le_refl _
  have neg : ∀ w : List Int, costR (fun x => -x) w = - costR (fun x => x) w := by
    intro w
    induction w with
    | nil => rfl
    | cons a r ih => rw [costR_cons, costR_cons, ih]; omega
  have sumF : ∀ w ∈ wyR hs [], costR (fun x => x) (fwR hs []) = costR (fun x => x) w := by
    intro w hw
    have a1 := lo ex_id w hw
    have a2 := lo ex_neg w hw
    rw [neg, neg] at a2
    omega
  refine ⟨by rw [wyR_len]; exact hc, fun w hw => by rw [each w hw]; decide, long_len hF4 h1, long_len hL4 h2, fun i ws rws hiw hr => ?_⟩
  have hm := List.mem_of_getElem? hiw
  have h4 := each _ hm
  have sL : costR (fun x => x) ws = costR (fun x => x) (lwR hs []) := (sumF _ hm).symm.trans (sumF _ hL)
  refine ⟨long_len h4 hr, fun j a b c ha hb hc => ⟨long_le hF4 h4 h1 hr (sumF _ hm) (fun t => lo (ex_phi t) _ hm) j a b ha hb, long_le h4 hL4 hr h2 sL (fun t => hi (ex_phi t) _ hm) j b c hb hc⟩, long_last h4 hF4 hr h1 (sumF _ hm).symm, ⟨fun e => ?_, fun e => ?_⟩, ⟨fun e => ?_, fun e => ?_⟩⟩
  · obtain ⟨r, er, k⟩ := fst ex_sq (by decide)
    cases i with
    | zero => rfl
    | succ i =>
      rw [er] at hiw
      have hmr : ws ∈ r := List.mem_of_getElem? (i := i) (by simpa using hiw)
      have := k ws hmr
      subst e
      have := long_sq h4 hF4 hr h1 (fun x => x * x)
      omega
  · obtain ⟨r, er, k⟩ := fst ex_id (Int.le_refl 0)
    subst e
    rw [er] at hiw
    obtain rfl : fwR hs [] = ws := by simpa using hiw
    exact list4_ext (long_len h4 hr) (long_len hF4 h1) (long_le h4 hF4 hr h1 rfl fun t => Int.le_refl _) (long_le hF4 h4 h1 hr rfl fun t => Int.le_refl _)
  · obtain ⟨r, er, k⟩ := lst ex_sq (by decide)
    rw [er] at hiw ⊢
    by_cases hlt : i < r.length
    · rw [List.getElem?_append_left hlt] at hiw
      have := k ws (List.mem_of_getElem? hiw)
      subst e
      have := long_sq h4 hL4 hr h2 (fun x => x * x)
      omega
    · have := (List.getElem?_eq_some_iff.mp hiw).1
      simp only [List.length_append, List.length_cons, List.length_nil] at this ⊢
      omega
  · obtain ⟨r, er, k⟩ := lst ex_id (Int.le_refl 0)
    rw [er] at hiw e
    simp only [List.length_append, List.length_cons, List.length_nil] at e
    obtain rfl : i = r.length := by omega
    obtain rfl : lwR hs [] = ws := by simpa using hiw
    exact list4_ext (long_len h4 hr) (long_len hL4 h2) (long_le h4 hL4 hr h2 rfl fun t => Int.le_refl _) (long_le hL4 h4 h2 hr rfl fun t => Int.le_refl _)
end Mine
end
section
open PySem PySem.W PyProof.Rows PySem.Calls PySem.Spec PyProof.Rows.LCg
set_option maxRecDepth 100000
namespace Mine
noncomputable def brC (b : Bool) : Nat := if b then 40 else 41
inductive PcL : List Nat → List Nat → Bool → Prop
  | d0 (b : Bool) : PcL [brC b] [brC b] b
  | d1 (b : Bool) : PcL [92, 41, brC b] [92, 41, brC b] b
  | d2 (b : Bool) : PcL [34, 41, 34, brC b] [brC b] b
  | d3 (b : Bool) : PcL [92, 34, brC b] [92, 34, brC b] b
  | d4 (b : Bool) : PcL [92, 92, brC b] [92, 92, brC b] b
  | d5 (b : Bool) : PcL [34, 92, 34, 40, 34, brC b] [brC b] b
theorem dress_is : dressT.map (·.cps.toList) = [[], [92, 41], [34, 41, 34], [92, 34], [92, 92], [34, 92, 34, 40, 34]] := by decide +kernel
theorem dress_at (k : Nat) (hk : k < 6) : (dressT.getD k Str.empty).cps.toList = ([[], [92, 41], [34, 41, 34], [92, 34], [92, 92], [34, 92, 34, 40, 34]] : List (List Nat)).getD k [] := by
  rw [← dress_is, List.getD_eq_getElem?_getD, List.getD_eq_getElem?_getD, List.getElem?_map]
  cases h : dressT[k]? with
  | none =>
    exfalso
    have := List.getElem?_eq_none_iff.mp h
    have e : dressT.length = 6 := by decide +kernel
    omega
  | some x => rfl
theorem piece_is (z : Int × (Bool × Int)) : ∃ s, PcL (pieceS z).cps.toList s z.2.1 := by
  obtain ⟨c, b, n⟩ := z
  have hb : (if b then Str.ofString "(" else Str.ofString ")").cps.toList = [brC b] := by cases b <;> decide +kernel
  have hk : ((c.fdiv 640).fmod 6).toNat < 6 := by
    have h1 := Int.emod_lt_of_pos (c.fdiv 640) (show (0 : Int) < 6 by decide)
    have h0 := Int.emod_nonneg (c.fdiv 640) (show (6 : Int) ≠ 0 by decide)
    rw [Int.fmod_eq_emod_of_nonneg _ (by decide)]
    omega
  have e : (pieceS (c, (b, n))).cps.toList = ([[], [92, 41], [34, 41, 34], [92, 34], [92, 92], [34, 92, 34, 40, 34]] : List (List Nat)).getD ((c.fdiv 640).fmod 6).toNat [] ++ [brC b] := by
    unfold pieceS
    rw [Str.cps_append, Array.toList_append, dress_at _ hk]
    show _ ++ (if b then Str.ofString "(" else Str.ofString ")").cps.toList = _
    rw [hb]
  rw [e]
  generalize ((c.fdiv 640).fmod 6).toNat = k at hk
  match k, hk with
  | 0, _ => exact ⟨_, .d0 b⟩
  | 1, _ => exact ⟨_, .d1 b⟩
  | 2, _ => exact ⟨_, .d2 b⟩
  | 3, _ => exact ⟨_, .d3 b⟩
  | 4, _ => exact ⟨_, .d4 b⟩
  | 5, _ => exact ⟨_, .d5 b⟩
inductive RowL : List Nat → List Nat → List Bool → Prop
  | nil : RowL [] [] []
  | cons {p s b P S B} : PcL p s b → RowL P S B → RowL (p ++ P) (s ++ S) (b :: B)
theorem row_is : ∀ zs : List (Int × (Bool × Int)), ∃ S, RowL ((zs.map pieceS).flatMap (·.cps.toList)) S (zs.map (·.2.1))
  | [] => ⟨_, .nil⟩
  | z :: r => by
    obtain ⟨s, h⟩ := piece_is z
    obtain ⟨S, k⟩ := row_is r
    exact ⟨_, .cons h k⟩
theorem brC_cases (b : Bool) : brC b ≠ 92 ∧ brC b ≠ 34 := by cases b <;> decide
theorem yld_esc (i c : Nat) (r : List Nat) : yldL i false (92 :: c :: r) = (i + 1, (⟨#[92, c]⟩ : Str)) :: yldL (i + 2) false r := by
  conv => lhs; unfold yldL
  rw [if_pos rfl]
  conv => lhs; unfold yldL
  rw [bs1]
  rfl
theorem yld_one (i c : Nat) (r : List Nat) (h : c ≠ 92) : yldL i false (c :: r) = (i, (⟨#[c]⟩ : Str)) :: yldL (i + 1) false r := by
  conv => lhs; unfold yldL
  rw [if_neg h]
theorem stL_skip (ad : Str) (st : Nat) (op : Option Nat) (rs : List Str) (p : Nat) (x : Str) (r : List (Nat × Str)) (h : x ≠ ⟨#[34]⟩) : stL ad st op rs ((p, x) :: r) = stL ad st op rs r := by
  conv => lhs; unfold stL
  rw [qm1, if_neg h]
theorem stL_open (ad : Str) (st : Nat) (rs : List Str) (p : Nat) (r : List (Nat × Str)) : stL ad st none rs ((p, ⟨#[34]⟩) :: r) = stL ad st (some p) rs r := by
  conv => lhs; unfold stL
  rw [qm1, if_pos rfl]
theorem stL_close (ad : Str) (st o : Nat) (rs : List Str) (p : Nat) (r : List (Nat × Str)) : stL ad st (some o) rs ((p, ⟨#[34]⟩) :: r) = stL ad (p + 1) none (if st = o then rs else rs ++ [Txt.slice ad (some (st : Int)) (some (o : Int))]) r := by
  conv => lhs; unfold stL
  rw [qm1, if_pos rfl]
theorem one_ne {c d : Nat} (h : c ≠ d) : (⟨#[c]⟩ : Str) ≠ ⟨#[d]⟩ := fun e => h (by simpa using congrArg Str.cps e)
theorem two_ne (c d e : Nat) : (⟨#[c, d]⟩ : Str) ≠ ⟨#[e]⟩ := fun h => by have := congrArg (fun x => x.cps.size) h; simp at this
noncomputable abbrev flatS (rs : List Str) : List Nat := rs.flatMap (·.cps.toList)
theorem flat_cut {ad : Str} {A P R : List Nat} {st : Nat} {rs : List Str} (hA : ad.cps.toList = A) (e : A = P ++ R) (hst : st ≤ P.length) : flatS (if st = P.length then rs else rs ++ [Txt.slice ad (some (st : Int)) (some (P.length : Int))]) = flatS rs ++ P.drop st := by
  by_cases h : st = P.length
  · rw [if_pos h, List.drop_eq_nil_of_le (by omega), List.append_nil]
  · rw [if_neg h, flatS, List.flatMap_append]
    congr 1
    have hl : (P.length : Int) ≤ ad.length := by
      rw [len_toList, hA, e, List.length_append]; omega
    rw [eq_of_beq (slice_closesL (x := ad) (i := (st : Int)) (j := (P.length : Int)) (by omega) (by omega) hl), hA, e]
    simp only [List.flatMap_cons, List.flatMap_nil, List.append_nil, Int.toNat_natCast]
    rw [show ((P.length : Int) - (st : Int)).toNat = P.length - st by omega, List.drop_append_of_le_length hst, List.take_append_of_le_length (by simp)]
    rw [List.take_of_length_le (by simp)]
theorem strip_rows {ad : Str} {A : List Nat} (hA : ad.cps.toList = A) : ∀ {R S : List Nat} {B : List Bool}, RowL R S B → ∀ (P : List Nat) (st : Nat) (rs : List Str), A = P ++ R → st ≤ P.length →
    flatS (stL ad st none rs (yldL P.length false R)).2 ++ A.drop (stL ad st none rs (yldL P.length false R)).1 = flatS rs ++ P.drop st ++ S ∧ (stL ad st none rs (yldL P.length false R)).1 ≤ A.length := by
  intro R S B h
  induction h with
  | nil =>
    intro P st rs e hst
    rw [List.append_nil] at e ⊢
    subst e
    exact ⟨rfl, hst⟩
  | @cons p s b R S B hp _ ih =>
    intro P st rs e hst
    have hbc := brC_cases b
    have hd : ∀ p : List Nat, (P ++ p).drop st = P.drop st ++ p := fun p => List.drop_append_of_le_length hst
    have plain : A = (P ++ p) ++ R → flatS (stL ad st none rs (yldL (P ++ p).length false R)).2 ++ A.drop (stL ad st none rs (yldL (P ++ p).length false R)).1 = flatS rs ++ P.drop st ++ (p ++ S) ∧ (stL ad st none rs (yldL (P ++ p).length false R)).1 ≤ A.length := fun e' => by
      have := ih (P ++ p) st rs e' (by rw [List.length_append]; omega)
      rw [hd] at this
      simpa only [List.append_assoc] using this
    have cut : ∀ (o : Nat) (pre : List Nat), p = pre ++ [brC b] → o = P.length → A = (P ++ p) ++ R →
        flatS (stL ad (o + pre.length) none (if st = o then rs else rs ++ [Txt.slice ad (some (st : Int)) (some (o : Int))]) (yldL (P ++ p).length false R)).2 ++ A.drop (stL ad (o + pre.length) none (if st = o then rs else rs ++ [Txt.slice ad (some (st : Int)) (some (o : Int))]) (yldL (P ++ p).length false R)).1 = flatS rs ++ P.drop st ++ ([brC b] ++ S) ∧
        (stL ad (o + pre.length) none (if st = o then rs else rs ++ [Txt.slice ad (some (st : Int)) (some (o : Int))]) (yldL (P ++ p).length false R)).1 ≤ A.length := fun o pre hp' ho e' => by
      subst ho
      have := ih (P ++ p) (P.length + pre.length) (if st = P.length then rs else rs ++ [Txt.slice ad (some (st : Int)) (some (P.length : Int))]) e' (by rw [List.length_append, hp', List.length_append]; omega)
      rw [flat_cut hA e hst] at this
      have e9 : (P ++ p).drop (P.length + pre.length) = [brC b] := by
        rw [hp', ← List.append_assoc, ← List.length_append, List.drop_left]
      rw [e9] at this
      simpa only [List.append_assoc] using this
    have e' : A = (P ++ p) ++ R := by rw [List.append_assoc]; exact e
    cases hp with
    | d0 =>
      have e1 : yldL P.length false ([brC b] ++ R) = (P.length, (⟨#[brC b]⟩ : Str)) :: yldL (P ++ [brC b]).length false R := by
        rw [List.length_append]
        exact yld_one _ _ _ hbc.1
      rw [e1, stL_skip _ _ _ _ _ _ _ (one_ne hbc.2)]
      exact plain e'
    | d1 =>
      have e1 : yldL P.length false ([92, 41, brC b] ++ R) = (P.length + 1, (⟨#[92, 41]⟩ : Str)) :: (P.length + 2, (⟨#[brC b]⟩ : Str)) :: yldL (P ++ [92, 41, brC b]).length false R := by
        rw [List.length_append]
        show yldL P.length false (92 :: 41 :: brC b :: R) = _
        rw [yld_esc, yld_one _ _ _ hbc.1]
        rfl
      rw [e1, stL_skip _ _ _ _ _ _ _ (two_ne _ _ _), stL_skip _ _ _ _ _ _ _ (one_ne hbc.2)]
      exact plain e'
    | d3 =>
      have e1 : yldL P.length false ([92, 34, brC b] ++ R) = (P.length + 1, (⟨#[92, 34]⟩ : Str)) :: (P.length + 2, (⟨#[brC b]⟩ : Str)) :: yldL (P ++ [92, 34, brC b]).length false R := by
        rw [List.length_append]
        show yldL P.length false (92 :: 34 :: brC b :: R) = _
        rw [yld_esc, yld_one _ _ _ hbc.1]
        rfl
      rw [e1, stL_skip _ _ _ _ _ _ _ (two_ne _ _ _), stL_skip _ _ _ _ _ _ _ (one_ne hbc.2)]
      exact plain e'
    | d4 =>
      have e1 : yldL P.length false ([92, 92, brC b] ++ R) = (P.length + 1, (⟨#[92, 92]⟩ : Str)) :: (P.length + 2, (⟨#[brC b]⟩ : Str)) :: yldL (P ++ [92, 92, brC b]).length false R := by
        rw [List.length_append]
        show yldL P.length false (92 :: 92 :: brC b :: R) = _
        rw [yld_esc, yld_one _ _ _ hbc.1]
        rfl
      rw [e1, stL_skip _ _ _ _ _ _ _ (two_ne _ _ _), stL_skip _ _ _ _ _ _ _ (one_ne hbc.2)]
      exact plain e'
    | d2 =>
      have e1 : yldL P.length false ([34, 41, 34, brC b] ++ R) = (P.length, (⟨#[34]⟩ : Str)) :: (P.length + 1, (⟨#[41]⟩ : Str)) :: (P.length + 2, (⟨#[34]⟩ : Str)) :: (P.length + 3, (⟨#[brC b]⟩ : Str)) :: yldL (P ++ [34, 41, 34, brC b]).length false R := by
        rw [List.length_append]
        show yldL P.length false (34 :: 41 :: 34 :: brC b :: R) = _
        rw [yld_one _ _ _ (by decide), yld_one _ _ _ (by decide), yld_one _ _ _ (by decide), yld_one _ _ _ hbc.1]
        rfl
      rw [e1, stL_open, stL_skip _ _ _ _ _ _ _ (one_ne (by decide)), stL_close, stL_skip _ _ _ _ _ _ _ (one_ne hbc.2)]
      exact cut P.length [34, 41, 34] rfl rfl e'
    | d5 =>
      have e1 : yldL P.length false ([34, 92, 34, 40, 34, brC b] ++ R) = (P.length, (⟨#[34]⟩ : Str)) :: (P.length + 2, (⟨#[92, 34]⟩ : Str)) :: (P.length + 3, (⟨#[40]⟩ : Str)) :: (P.length + 4, (⟨#[34]⟩ : Str)) :: (P.length + 5, (⟨#[brC b]⟩ : Str)) :: yldL (P ++ [34, 92, 34, 40, 34, brC b]).length false R := by
        rw [List.length_append]
        show yldL P.length false (34 :: 92 :: 34 :: 40 :: 34 :: brC b :: R) = _
        rw [yld_one _ _ _ (by decide), yld_esc, yld_one _ _ _ (by decide), yld_one _ _ _ (by decide), yld_one _ _ _ hbc.1]
        rfl
      rw [e1, stL_open, stL_skip _ _ _ _ _ _ _ (two_ne _ _ _), stL_skip _ _ _ _ _ _ _ (one_ne (by decide)), stL_close, stL_skip _ _ _ _ _ _ _ (one_ne hbc.2)]
      exact cut P.length [34, 92, 34, 40, 34] rfl rfl e'
theorem row_nomark : ∀ {R S : List Nat} {B : List Bool}, RowL R S B → 34 ∉ R → S = R := by
  intro R S B h
  induction h with
  | nil => intro _; rfl
  | cons hp _ ih =>
    intro hn
    rw [ih fun m => hn (List.mem_append_right _ m)]
    cases hp with
    | d0 => rfl
    | d1 => rfl
    | d3 => rfl
    | d4 => rfl
    | d2 => exact absurd (.head _) hn
    | d5 => exact absurd (.head _) hn
theorem strip_is {ad : Str} {S : List Nat} {B : List Bool} (h : RowL ad.cps.toList S B) : (stripS ad).cps.toList = S := by
  unfold stripS
  by_cases hq : (Builtin.Str.occurrences ad (Str.ofString "\"") 0 ad.length 1).isEmpty = true
  · rw [if_pos hq]
    refine (row_nomark h fun hm => ?_).symm
    have := StrLaws.found_one ad 34
    rw [← qm1, hq] at this
    rw [decide_eq_true hm] at this
    exact absurd this (by decide)
  · rw [if_neg hq]
    obtain ⟨h1, h2⟩ := strip_rows rfl h [] 0 [] rfl (Nat.le_refl 0)
    simp only [List.length_nil, List.drop_nil, List.append_nil, flatS, List.flatMap_nil, List.nil_append] at h1 h2
    generalize stL ad 0 none [] (yldL 0 false ad.cps.toList) = q at *
    obtain ⟨st, rs⟩ := q
    simp only at h1 h2 ⊢
    rw [txtJoin_flat, List.flatMap_append]
    rw [← h1]
    congr 1
    by_cases hs : st < ad.length
    · rw [if_pos hs]
      simp only [List.flatMap_cons, List.flatMap_nil, List.append_nil]
      rw [slice_from_eq (x := ad) (i := (st : Int)) (b := (ad.length : Int)) (by omega) (by omega) rfl, Int.toNat_natCast, show ((ad.length : Int) - (st : Int)).toNat = ad.length - st by omega]
      rw [List.take_of_length_le]
      rw [List.length_drop, ← len_toList]
      exact Nat.le_refl _
    · rw [if_neg hs, List.drop_eq_nil_of_le (by rw [← len_toList]; omega)]
      rfl
end Mine
end
section
open PySem PySem.W PyProof.Rows PySem.Calls PySem.Spec PyProof.Rows.LCg
set_option maxRecDepth 100000
namespace Mine
theorem chk_br (n : Int) (i : Nat) (b : Bool) (r : List (Nat × Str)) : chkL n ((i, (⟨#[brC b]⟩ : Str)) :: r) = if b then chkL (n + 1) r else if n - 1 < 0 then false else chkL (n - 1) r := by
  conv => lhs; unfold chkL
  rw [paren_l, paren_r]
  cases b with
  | true => rw [if_pos (show (⟨#[brC true]⟩ : Str) = ⟨#[40]⟩ from rfl)]; rfl
  | false => rw [if_neg (one_ne (by decide)), if_pos (show (⟨#[brC false]⟩ : Str) = ⟨#[41]⟩ from rfl)]; rfl
theorem chk_skip (n : Int) (i c d : Nat) (r : List (Nat × Str)) : chkL n ((i, (⟨#[c, d]⟩ : Str)) :: r) = chkL n r := by
  conv => lhs; unfold chkL
  rw [paren_l, paren_r, if_neg (two_ne _ _ _), if_neg (two_ne _ _ _)]
theorem chk_row : ∀ {R S : List Nat} {B : List Bool}, RowL R S B → ∀ (n i : Nat), chkL (n : Int) (yldL i false S) = balR B n := by
  intro R S B h
  induction h with
  | nil =>
    intro n i
    show ((n : Int) == 0) = (n == 0)
    cases n with
    | zero => rfl
    | succ n => rw [Bool.eq_iff_iff]; simp; omega
  | @cons p s b R S B hp _ ih =>
    intro n i
    have key : ∀ (i j : Nat), chkL (n : Int) ((j, (⟨#[brC b]⟩ : Str)) :: yldL i false S) = balR (b :: B) n := by
      intro i j
      rw [chk_br]
      cases b with
      | true =>
        rw [if_pos rfl]
        exact ih (n + 1) i
      | false =>
        rw [if_neg (by decide)]
        cases n with
        | zero => rw [if_pos (by decide)]; rfl
        | succ n =>
          rw [if_neg (by omega), show ((n + 1 : Nat) : Int) - 1 = (n : Int) by omega]
          exact ih n i
    have hbc := (brC_cases b).1
    cases hp with
    | d0 =>
      show chkL _ (yldL i false (brC b :: S)) = _
      rw [yld_one _ _ _ hbc]; exact key _ _
    | d2 =>
      show chkL _ (yldL i false (brC b :: S)) = _
      rw [yld_one _ _ _ hbc]; exact key _ _
    | d5 =>
      show chkL _ (yldL i false (brC b :: S)) = _
      rw [yld_one _ _ _ hbc]; exact key _ _
    | d1 =>
      show chkL _ (yldL i false (92 :: 41 :: brC b :: S)) = _
      rw [yld_esc, chk_skip, yld_one _ _ _ hbc]; exact key _ _
    | d3 =>
      show chkL _ (yldL i false (92 :: 34 :: brC b :: S)) = _
      rw [yld_esc, chk_skip, yld_one _ _ _ hbc]; exact key _ _
    | d4 =>
      show chkL _ (yldL i false (92 :: 92 :: brC b :: S)) = _
      rw [yld_esc, chk_skip, yld_one _ _ _ hbc]; exact key _ _
theorem row_join (zs : List (Int × (Bool × Int))) : ∃ S, RowL (Txt.join (Str.ofString "") (zs.map pieceS)).cps.toList S (zs.map (·.2.1)) := by
  rw [txtJoin_flat]
  exact row_is zs
theorem taken_is (zs : List (Int × (Bool × Int))) : takenB (Txt.join (Str.ofString "") (zs.map pieceS)) = balR (zs.map (·.2.1)) 0 := by
  obtain ⟨S, h⟩ := row_join zs
  unfold takenB
  rw [strip_is h]
  exact chk_row h 0 0
theorem RowL.len {R S : List Nat} {B : List Bool} (h : RowL R S B) : S.length ≤ R.length ∧ R.length ≤ 6 * B.length := by
  induction h with
  | nil => exact ⟨Nat.le_refl _, Nat.le_refl _⟩
  | cons hp _ ih =>
    simp only [List.length_append, List.length_cons]
    cases hp <;> simp only [List.length_cons, List.length_nil] <;> omega
theorem row_short (zs : List (Int × (Bool × Int))) (h : zs.length ≤ 20) : (Txt.join (Str.ofString "") (zs.map pieceS)).length ≤ 400 ∧ (stripS (Txt.join (Str.ofString "") (zs.map pieceS))).length ≤ 400 := by
  obtain ⟨S, k⟩ := row_join zs
  have hl := k.len
  rw [List.length_map] at hl
  rw [len_toList, len_toList, strip_is k]
  omega
theorem piece_short (z : Int × (Bool × Int)) : (pieceS z).length ≤ 10 := by
  obtain ⟨s, h⟩ := piece_is z
  rw [len_toList]
  generalize (pieceS z).cps.toList = p at h
  cases h <;> simp
theorem rowT_is (zs : List (Int × (Bool × Int))) (k : Nat) : rowT (zs.map pieceS) k = Txt.join (Str.ofString "") ((zs.drop k ++ zs.take k).map pieceS) := by
  unfold rowT
  rw [List.map_append, List.map_drop, List.map_take]
theorem segT_is (zs : List (Int × (Bool × Int))) (j i : Nat) : segT (zs.map pieceS) j i = Txt.join (Str.ofString "") (((zs.drop j).take (i + 1 - j)).map pieceS) := by
  unfold segT
  rw [List.map_take, List.map_drop]
theorem rowT_taken (zs : List (Int × (Bool × Int))) (bs : List Bool) (h : zs.map (·.2.1) = bs) (k : Nat) : takenB (rowT (zs.map pieceS) k) = balR (bs.drop k ++ bs.take k) 0 := by
  rw [rowT_is, taken_is, List.map_append, List.map_drop, List.map_take, h]
theorem segT_taken (zs : List (Int × (Bool × Int))) (bs : List Bool) (h : zs.map (·.2.1) = bs) (j i : Nat) : takenB (segT (zs.map pieceS) j i) = balR ((bs.drop j).take (i + 1 - j)) 0 := by
  rw [segT_is, taken_is, List.map_take, List.map_drop, h]
end Mine
end
section
open PySem PySem.W PyProof.Rows PySem.Calls PySem.Spec PyProof.Rows.LCg
set_option maxRecDepth 100000
namespace Mine
noncomputable def patR : Int → Int → List Bool → List Bool
  | _, _, [] => []
  | l, i, e :: r => (decide (0 < l) && (i == 0 || e)) :: patR (l - if (decide (0 < l) && (i == 0 || e)) then 1 else 0) (i + if (decide (0 < l) && (i == 0 || e)) then 1 else -1) r
theorem hours_bs : ∀ (cs : List Int) (now l i : Int), (hoursL now l i cs).map (·.1) = patR l i (cs.map fun c => c.fmod 2 == 0)
  | [], _, _, _ => rfl
  | c :: r, now, l, i => by
    simp only [hoursL, List.map_cons, patR, comesB]
    rw [hours_bs r]
    rfl
theorem hours_len : ∀ (cs : List Int) (now l i : Int), (hoursL now l i cs).length = cs.length
  | [], _, _, _ => rfl
  | c :: r, now, l, i => by
    simp only [hoursL, List.length_cons]
    rw [hours_len r]
theorem hours_incr : ∀ (cs : List Int) (now l i : Int), (∀ c ∈ cs, 0 ≤ c) → incrR now (hoursL now l i cs)
  | [], _, _, _, _ => trivial
  | c :: r, now, l, i, h => by
    have := fdm c (h c (.head _))
    exact ⟨by omega, hours_incr r _ _ _ fun x hx => h x (.tail _ hx)⟩
theorem hours_range : ∀ (cs : List Int) (now l i : Int), (∀ c ∈ cs, 0 ≤ c) → ∀ h ∈ hoursL now l i cs, now + 1 ≤ h.2 ∧ h.2 ≤ now + 40 * cs.length
  | [], _, _, _, _, _, hm => nomatch hm
  | c :: r, now, l, i, h, x, hm => by
    have := fdm c (h c (.head _))
    rw [List.length_cons]
    simp only [hoursL] at hm
    rcases List.mem_cons.mp hm with e | hm
    · subst e; dsimp only; omega
    · have := hours_range r _ _ _ (fun y hy => h y (.tail _ hy)) x hm
      omega
noncomputable def shapes : List (List Bool) := [[true, true, true, true, false, false, false, false],
  [true, true, true, false, true, false, false, false],
  [true, true, true, false, false, true, false, false],
  [true, true, true, false, false, false, true, false],
  [true, true, false, true, true, false, false, false],
  [true, true, false, true, false, true, false, false],
  [true, true, false, true, false, false, true, false],
  [true, true, false, false, true, true, false, false],
  [true, true, false, false, true, false, true, false],
  [true, false, true, true, true, false, false, false],
  [true, false, true, true, false, true, false, false],
  [true, false, true, true, false, false, true, false],
  [true, false, true, false, true, true, false, false],
  [true, false, true, false, true, false, true, false]]
theorem shapes_all : ∀ b0 b1 b2 b3 b4 b5 b6 b7 : Bool, patR 4 0 [b0, b1, b2, b3, b4, b5, b6, b7] ∈ shapes := by decide +kernel
theorem eight_of {α : Type} {l : List α} (h : l.length = 8) : ∃ a b c d e f g i, l = [a, b, c, d, e, f, g, i] := by
  obtain ⟨a, b, c, d, l1, e1, h1⟩ := four_len (n := 4) h
  obtain ⟨e, f, g, i, l2, e2, h2⟩ := four_len (n := 0) h1
  exact ⟨a, b, c, d, e, f, g, i, e1.trans (congrArg (fun r => a :: b :: c :: d :: r) (e2.trans (congrArg (fun r => e :: f :: g :: i :: r) (List.eq_nil_of_length_eq_zero h2))))⟩
theorem hours_shape {cs : List Int} (h : cs.length = 8) (now : Int) : (hoursL now 4 0 cs).map (·.1) ∈ shapes := by
  rw [hours_bs]
  obtain ⟨a, b, c, d, e, f, g, i, rfl⟩ := eight_of h
  exact shapes_all ..
noncomputable def hgtR : List Bool → Nat → Nat
  | [], h => h
  | true :: t, h => hgtR t (h + 1)
  | false :: t, h => hgtR t (h - 1)
noncomputable def cR : List Bool → Nat → Nat → Nat
  | [], _, c => c
  | true :: t, h, c => cR t (h + 1) c
  | false :: t, h, c => cR t (h - 1) (c * h)
noncomputable def mtB (bs : List Bool) (i : Nat) : Nat := ((List.range i).reverse.find? fun j => balR ((bs.drop j).take (i + 1 - j)) 0).getD 0
theorem shape1 : ∀ bs ∈ shapes, balR bs 0 = true ∧ goesR bs = 4 ∧ cntR bs 0 ≤ 1000 ∧ bs.length = 8 := by decide +kernel
theorem shape2 : ∀ bs ∈ shapes, ∀ i < 9, cR (bs.take i) 0 1 < 1000 ∧ cR (bs.take i) 0 1 * hgtR (bs.take i) 0 < 1000 ∧ hgtR (bs.take i) 0 ≤ 7 := by decide +kernel
theorem shape3 : ∀ bs ∈ shapes, ∀ k < 8, balR (bs.drop k ++ bs.take k) 0 = emptyB bs k := by decide +kernel
noncomputable def goB (bs : List Bool) (i : Nat) : Bool := decide (mtB bs i < i) && decide ((i - mtB bs i) % 2 = 1) && (bs[mtB bs i]? == some true) && balR ((bs.drop (mtB bs i)).take (i + 1 - mtB bs i)) 0 && (List.range i).all fun j => !decide (mtB bs i < j) || !decide ((i - j) % 2 = 1) || !balR ((bs.drop j).take (i + 1 - j)) 0
theorem shape4b : ∀ bs ∈ shapes, ∀ i < 8, (!(bs[i]? == some false) || goB bs i) = true := by decide +kernel
theorem shape4 (bs : List Bool) (hb : bs ∈ shapes) (i : Nat) (hi : i < 8) (he : bs[i]? = some false) : mtB bs i < i ∧ (i - mtB bs i) % 2 = 1 ∧ bs[mtB bs i]? = some true ∧ balR ((bs.drop (mtB bs i)).take (i + 1 - mtB bs i)) 0 = true ∧ ∀ j < i, mtB bs i < j → (i - j) % 2 = 1 → balR ((bs.drop j).take (i + 1 - j)) 0 = false := by
  have h := shape4b bs hb i hi
  rw [he] at h
  have h : goB bs i = true := h
  unfold goB at h
  simp only [Bool.and_eq_true, decide_eq_true_eq, beq_iff_eq] at h
  obtain ⟨⟨⟨⟨h1, h2⟩, h3⟩, h4⟩, h5⟩ := h
  refine ⟨h1, h2, h3, h4, fun j hj hm ho => ?_⟩
  have := List.all_eq_true.mp h5 j (List.mem_range.mpr hj)
  rw [decide_eq_true hm, decide_eq_true ho] at this
  simpa using this
theorem flat_sum {α β : Type} (f : α → List β) (h : Nat) : ∀ W : List α, (∀ p ∈ W, (f p).length = h) → (W.flatMap f).length = W.length * h
  | [], _ => by simp
  | p :: r, k => by
    rw [List.flatMap_cons, List.length_append, flat_sum f h r fun q hq => k q (.tail _ hq), k p (.head _), List.length_cons, Nat.succ_mul]
    omega
theorem stepG_len (n : Int) (p : List Int × List Int) : (stepG n p).length = p.1.length := by
  unfold stepG
  rw [List.length_map, List.length_range]
theorem fold_ways : ∀ (hs : List (Bool × Int)) (W : List (List Int × List Int)) (h m : Nat), (∀ p ∈ W, p.1.length = h ∧ p.2.length ≤ m) →
    (∀ p ∈ hs.foldl wayStep W, p.1.length = hgtR (hs.map (·.1)) h ∧ p.2.length ≤ m + hs.length) ∧ (hs.foldl wayStep W).length = cR (hs.map (·.1)) h W.length
  | [], W, h, m, hW => ⟨fun p hp => ⟨(hW p hp).1, (hW p hp).2⟩, rfl⟩
  | (true, n) :: t, W, h, m, hW => by
    have e : wayStep W (true, n) = W.map (stepC n) := rfl
    obtain ⟨h1, h2⟩ := fold_ways t (W.map (stepC n)) (h + 1) m (fun p hp => by
      obtain ⟨q, hq, rfl⟩ := List.mem_map.mp hp
      have := hW q hq
      simp only [stepC, List.length_append, List.length_cons, List.length_nil]
      omega)
    rw [List.foldl_cons, e]
    rw [List.length_map] at h2
    exact ⟨fun p hp => ⟨(h1 p hp).1, by have := (h1 p hp).2; rw [List.length_cons]; omega⟩, h2⟩
  | (false, n) :: t, W, h, m, hW => by
    have e : wayStep W (false, n) = W.flatMap (stepG n) := rfl
    obtain ⟨h1, h2⟩ := fold_ways t (W.flatMap (stepG n)) (h - 1) (m + 1) (fun p hp => by
      obtain ⟨q, hq, hp⟩ := List.mem_flatMap.mp hp
      obtain ⟨j, hj, rfl⟩ := List.mem_map.mp hp
      have := hW q hq
      have := List.mem_range.mp hj
      simp only [gWay, List.length_append, List.length_cons, List.length_nil, List.length_take, List.length_drop]
      omega)
    rw [List.foldl_cons, e]
    rw [flat_sum _ h W fun p hp => by rw [stepG_len]; exact (hW p hp).1] at h2
    exact ⟨fun p hp => ⟨(h1 p hp).1, by have := (h1 p hp).2; rw [List.length_cons]; omega⟩, h2⟩
theorem wyOk_of {hs : List (Bool × Int)} (h8 : hs.length = 8) (hsh : hs.map (·.1) ∈ shapes) : WyOk hs := by
  have key := fun i => fold_ways (hs.take i) [([], [])] 0 0 (fun p hp => by rw [List.mem_singleton.mp hp]; exact ⟨rfl, Nat.le_refl _⟩)
  have s2 := shape2 _ hsh
  refine ⟨by omega, fun i hi p hp => ?_, fun i hi => ?_, fun i hi n j => ?_⟩
  · obtain ⟨h1, -⟩ := key i
    have := h1 p hp
    have := (s2 i (by omega)).2.2
    rw [List.map_take] at *
    rw [List.length_take] at *
    omega
  · obtain ⟨-, h2⟩ := key i
    rw [List.map_take] at h2
    show (List.foldl wayStep [([], [])] (hs.take i)).length < 1000
    rw [h2]
    exact (s2 i (by omega)).1
  · obtain ⟨h1, h2⟩ := key i
    rw [List.map_take] at h2 h1
    have e : ((waysL (hs.take i)).take j).flatMap (stepG n) = ((List.foldl wayStep [([], [])] (hs.take i)).take j).flatMap (stepG n) := rfl
    rw [e, flat_sum _ (hgtR ((hs.map (·.1)).take i) 0) _ fun p hp => by rw [stepG_len]; exact (h1 p (List.mem_of_mem_take hp)).1]
    have := (s2 i (by omega)).2.1
    refine Nat.lt_of_le_of_lt (Nat.mul_le_mul_right _ ?_) this
    rw [List.length_take, h2]
    exact Nat.min_le_right _ _
noncomputable def wtF (hs : List (Bool × Int)) (i : Nat) : Int := ((hs[i]?.map (·.2)).getD 0) - ((hs[mtB (hs.map (·.1)) i]?.map (·.2)).getD 0)
noncomputable def ShOk (bs : List Bool) : Prop := ∀ n0 n1 n2 n3 n4 n5 n6 n7 : Int, wtPre (bs.zip [n0, n1, n2, n3, n4, n5, n6, n7]) (wtF (bs.zip [n0, n1, n2, n3, n4, n5, n6, n7])) 8 = lwR (bs.zip [n0, n1, n2, n3, n4, n5, n6, n7]) []
theorem shOk : ∀ bs ∈ shapes, ShOk bs := by
  unfold shapes
  repeat' (first | exact List.forall_mem_nil _ | refine List.forall_mem_cons.mpr ⟨?_, ?_⟩ | exact fun _ _ _ _ _ _ _ _ => rfl)
theorem wtPre_is {hs : List (Bool × Int)} (hsh : hs.map (·.1) ∈ shapes) : wtPre hs (wtF hs) 8 = lwR hs [] := by
  have h8 : hs.length = 8 := by rw [← List.length_map (f := (·.1))]; exact (shape1 _ hsh).2.2.2
  obtain ⟨⟨a0, n0⟩, ⟨a1, n1⟩, ⟨a2, n2⟩, ⟨a3, n3⟩, ⟨a4, n4⟩, ⟨a5, n5⟩, ⟨a6, n6⟩, ⟨a7, n7⟩, rfl⟩ := eight_of h8
  exact shOk _ hsh n0 n1 n2 n3 n4 n5 n6 n7
end Mine
end
section
open PySem PySem.W PyProof.Rows PySem.Calls PySem.Spec PyProof.Rows.LCg
set_option maxRecDepth 100000
namespace Mine
noncomputable def upF (p : Int × (Bool × Int)) : Option (Str × Int) := if p.2.1 then some (replyS p.1 p.2.2, p.2.2) else none
theorem up_gs (zs : List (Int × (Bool × Int))) : (zs.filterMap upF).map (·.1) = (zs.filterMap guest).map (·.2) := by
  rw [List.map_filterMap, List.map_filterMap]
  congr 1
  funext p
  unfold upF guest
  cases p.2.1 <;> rfl
theorem fifo_is : ∀ (zs : List (Int × (Bool × Int))) (q : List (Str × Int)), balR (zs.map (·.2.1)) q.length = true → fifo (zs.map (·.2)) (zs.filterMap upF) q = some (fwR (zs.map (·.2)) (q.map (·.2)))
  | [], [], _ => rfl
  | [], a :: q, h => by simp [balR] at h
  | (c, (true, n)) :: t, q, h => by
    have ih := fifo_is t (q ++ [(replyS c n, n)]) (by rw [List.length_append]; exact h)
    have e : ((c, (true, n)) :: t).filterMap upF = (replyS c n, n) :: t.filterMap upF := rfl
    rw [e]
    show fifo (t.map (·.2)) (t.filterMap upF) (q ++ [(replyS c n, n)]) = some (fwR (t.map (·.2)) (q.map (·.2) ++ [n]))
    rw [ih, List.map_append]; rfl
  | (c, (false, n)) :: t, [], h => by simp [balR] at h
  | (c, (false, n)) :: t, a :: q, h => by
    have ih := fifo_is t q h
    have e : ((c, (false, n)) :: t).filterMap upF = t.filterMap upF := rfl
    rw [e]
    have e2 : fifo (((c, (false, n)) :: t).map (·.2)) (t.filterMap upF) (a :: q) = (fifo (t.map (·.2)) (t.filterMap upF) q).map ((n - a.2) :: ·) := by
      cases t.filterMap upF <;> rfl
    rw [e2, ih]
    rfl
noncomputable def heldZ : Nat → List (Int × (Bool × Int)) → List (Nat × (Str × Int))
  | _, [] => []
  | k, (c, (true, n)) :: t => (k, (replyS c n, n)) :: heldZ (k + 1) t
  | k, (_, (false, _)) :: t => heldZ (k + 1) t
theorem held_is : ∀ (zs : List (Int × (Bool × Int))) (i k : Nat), heldL k ((zs.map (·.2)).take i) (zs.filterMap upF) = heldZ k (zs.take i)
  | [], i, k => by simp [heldL, heldZ]
  | z :: t, 0, k => by
    simp only [List.map_cons, List.take_zero, heldZ]
    cases (z :: t).filterMap upF <;> rfl
  | (c, (true, n)) :: t, i + 1, k => by
    have e : ((c, (true, n)) :: t).filterMap upF = (replyS c n, n) :: t.filterMap upF := rfl
    rw [e]
    show (k, (replyS c n, n)) :: heldL (k + 1) ((t.map (·.2)).take i) (t.filterMap upF) = (k, (replyS c n, n)) :: heldZ (k + 1) (t.take i)
    rw [held_is t i (k + 1)]
  | (c, (false, n)) :: t, i + 1, k => by
    have e : ((c, (false, n)) :: t).filterMap upF = t.filterMap upF := rfl
    rw [e]
    have ih := held_is t i (k + 1)
    show heldL k ((false, n) :: (t.map (·.2)).take i) (t.filterMap upF) = heldZ (k + 1) (t.take i)
    rw [← ih]
    cases t.filterMap upF <;> rfl
theorem heldZ_app : ∀ (xs ys : List (Int × (Bool × Int))) (k : Nat), heldZ k (xs ++ ys) = heldZ k xs ++ heldZ (k + xs.length) ys
  | [], ys, k => rfl
  | (c, (true, n)) :: t, ys, k => by
    show (k, (replyS c n, n)) :: heldZ (k + 1) (t ++ ys) = _
    rw [heldZ_app t ys (k + 1), List.length_cons, show k + 1 + t.length = k + (t.length + 1) by omega]; rfl
  | (c, (false, n)) :: t, ys, k => by
    show heldZ (k + 1) (t ++ ys) = _
    rw [heldZ_app t ys (k + 1), List.length_cons, show k + 1 + t.length = k + (t.length + 1) by omega]; rfl
theorem up_at : ∀ (zs : List (Int × (Bool × Int))) (i k : Nat) (c n : Int), zs[i]? = some (c, (true, n)) → (zs.filterMap upF)[(heldZ k (zs.take i)).length]? = some (replyS c n, n)
  | [], i, k, c, n, h => by simp at h
  | z :: t, 0, k, c, n, h => by
    have h : z = (c, (true, n)) := by simpa using h
    subst h
    rfl
  | (c', (true, n')) :: t, i + 1, k, c, n, h => by
    have ih := up_at t i (k + 1) c n (by simpa using h)
    have e : ((c', (true, n')) :: t).filterMap upF = (replyS c' n', n') :: t.filterMap upF := rfl
    rw [e]
    show ((replyS c' n', n') :: t.filterMap upF)[(heldZ (k + 1) (t.take i)).length + 1]? = _
    rw [List.getElem?_cons_succ]; exact ih
  | (c', (false, n')) :: t, i + 1, k, c, n, h => up_at t i (k + 1) c n (by simpa using h)
theorem heldZ_lookup : ∀ (zs : List (Int × (Bool × Int))) (j k : Nat) (c n : Int), zs[j]? = some (c, (true, n)) → (heldZ k zs).lookup (k + j) = some (replyS c n, n)
  | [], j, k, c, n, h => by simp at h
  | z :: t, 0, k, c, n, h => by
    have h : z = (c, (true, n)) := by simpa using h
    subst h
    simp [heldZ]
  | (c', (true, n')) :: t, j + 1, k, c, n, h => by
    have ih := heldZ_lookup t j (k + 1) c n (by simpa using h)
    have e : (k + (j + 1) == k) = false := by simp
    show List.lookup (k + (j + 1)) ((k, (replyS c' n', n')) :: heldZ (k + 1) t) = _
    rw [List.lookup_cons, e, show k + (j + 1) = k + 1 + j by omega]
    exact ih
  | (c', (false, n')) :: t, j + 1, k, c, n, h => by
    have ih := heldZ_lookup t j (k + 1) c n (by simpa using h)
    show List.lookup (k + (j + 1)) (heldZ (k + 1) t) = _
    rw [show k + (j + 1) = k + 1 + j by omega]
    exact ih
theorem zip_at {cells : List Int} {hs : List (Bool × Int)} (he : cells.length = hs.length) {i : Nat} {h : Bool × Int} (hi : hs[i]? = some h) : ∃ c, (cells.zip hs)[i]? = some (c, h) ∧ c ∈ cells := by
  have hl := (List.getElem?_eq_some_iff.mp hi).1
  obtain ⟨c, hc⟩ : ∃ c, cells[i]? = some c := ⟨_, List.getElem?_eq_getElem (by omega)⟩
  exact ⟨c, List.getElem?_zip_eq_some.mpr ⟨hc, hi⟩, List.mem_of_getElem? hc⟩
theorem take_one {α : Type} {zs : List α} {i : Nat} {z : α} (h : zs[i]? = some z) : zs.take (i + 1) = zs.take i ++ [z] ∧ (zs.take i).length = i := by
  have hl := (List.getElem?_eq_some_iff.mp h).1
  refine ⟨by rw [List.take_add_one, h]; rfl, by rw [List.length_take]; omega⟩
theorem brOk_of {cells : List Int} {hs : List (Bool × Int)} (h8 : cells.length = 8) (hsh : hs.map (·.1) ∈ shapes) (hr : ∀ h ∈ hs, 1 ≤ h.2 ∧ h.2 ≤ 320) : BrOk hs ((cells.zip hs).map pieceS) ((cells.zip hs).filterMap upF) (mtB (hs.map (·.1))) (wtF hs) := by
  have hl : hs.length = 8 := by rw [← List.length_map (f := (·.1))]; exact (shape1 _ hsh).2.2.2
  have he : cells.length = hs.length := by omega
  have ez : (cells.zip hs).map (·.2) = hs := List.map_snd_zip (by omega)
  have eb : (cells.zip hs).map (·.2.1) = hs.map (·.1) := by
    conv => rhs; rw [← ez]
    rw [List.map_map]; rfl
  have zl : (cells.zip hs).length = 8 := by rw [List.length_zip]; omega
  have hld : ∀ i, heldL 0 (hs.take i) ((cells.zip hs).filterMap upF) = heldZ 0 ((cells.zip hs).take i) := fun i => by
    have := held_is (cells.zip hs) i 0
    rwa [ez] at this
  refine ⟨by omega, by rw [List.length_map]; omega, fun p hp => ?_, fun r hr' => ?_, fun i n hi => ?_, fun i n hi => ?_, fun i hi => ?_, fun i j hi hj => ?_⟩
  · obtain ⟨z, -, rfl⟩ := List.mem_map.mp hp
    exact piece_short z
  · obtain ⟨⟨c, b, n⟩, hz, e⟩ := List.mem_filterMap.mp hr'
    have hh := hr (b, n) (List.of_mem_zip hz).2
    unfold upF at e
    cases b with
    | false => cases e
    | true =>
      obtain rfl := Option.some.inj e
      dsimp only at hh ⊢
      exact ⟨(reply_is hh.1 hh.2).repF, by omega, by omega⟩
  · obtain ⟨c, hz, -⟩ := zip_at he hi
    obtain ⟨e1, e2⟩ := take_one hz
    refine ⟨(replyS c n, n), ?_, ?_⟩
    · rw [hld]; exact up_at _ i 0 c n hz
    · rw [hld, hld, e1, heldZ_app, e2, Nat.zero_add]; rfl
  · obtain ⟨c, hz, -⟩ := zip_at he hi
    obtain ⟨e1, e2⟩ := take_one hz
    have hi8 := (List.getElem?_eq_some_iff.mp hi).1
    have hbi : (hs.map (·.1))[i]? = some false := by rw [List.getElem?_map, hi]; rfl
    obtain ⟨q1, q2, q3, q4, q5⟩ := shape4 _ hsh i (by omega) hbi
    obtain ⟨k, hk⟩ : ∃ k, hs[mtB (hs.map (·.1)) i]? = some (true, k) := by
      rw [List.getElem?_map] at q3
      cases h : hs[mtB (hs.map (·.1)) i]? with
      | none => rw [h] at q3; cases q3
      | some y =>
        rw [h] at q3
        obtain ⟨b, k⟩ := y
        have : b = true := Option.some.inj q3
        subst this
        exact ⟨k, rfl⟩
    obtain ⟨c', hz', -⟩ := zip_at he hk
    refine ⟨?_, q1, q2, ⟨replyS c' k, k, ?_, ?_⟩, ?_, fun j hj1 hj2 ho => ?_⟩
    · rw [hld, hld, e1, heldZ_app, e2]
      simp [heldZ]
    · rw [hld]
      have := heldZ_lookup ((cells.zip hs).take i) (mtB (hs.map (·.1)) i) 0 c' k (by rw [List.getElem?_take_of_lt q1]; exact hz')
      rwa [Nat.zero_add] at this
    · unfold wtF
      rw [hi, hk]; rfl
    · rw [segT_taken _ _ eb]; exact q4
    · rw [segT_taken _ _ eb]; exact q5 j hj2 hj1 ho
  · rw [rowT_is]
    exact row_short _ (by rw [List.length_append, List.length_drop, List.length_take]; omega)
  · rw [segT_is]
    exact row_short _ (by rw [List.length_take, List.length_drop]; omega)
end Mine
end
section
open PySem PySem.W PyProof.Rows PySem.Calls PySem.Spec PyProof.Rows.LCg
set_option maxRecDepth 100000
namespace Mine
theorem guests_len : ∀ zs : List (Int × (Bool × Int)), (zs.filterMap guest).length = ((zs.map (·.2.1)).filter (·)).length
  | [] => rfl
  | (c, (true, n)) :: t => by
    have e : ((c, (true, n)) :: t).filterMap guest = (c, replyS c n) :: t.filterMap guest := rfl
    rw [e, List.length_cons, guests_len t]
    rfl
  | (c, (false, n)) :: t => by
    have e : ((c, (false, n)) :: t).filterMap guest = t.filterMap guest := rfl
    rw [e, guests_len t]
    rfl
theorem shape5 : ∀ bs ∈ shapes, (bs.filter (·)).length = 4 := by decide +kernel
structure AllOk (cells : List Int) (hs : List (Bool × Int)) : Prop where
  l8 : hs.length = 8
  rng : ∀ h ∈ hs, 1 ≤ h.2 ∧ h.2 ≤ 320
  sh : hs.map (·.1) ∈ shapes
  g4 : ((cells.zip hs).filterMap guest).length = 4
  wr : ∀ p ∈ (cells.zip hs).filterMap guest, WrOk p
  sum : ((((cells.zip hs).filterMap guest).map fun p => writtenS p.1 p.2).map (·.length)).sum + (((cells.zip hs).filterMap guest).map fun p => writtenS p.1 p.2).length ≤ 1048576
  ok : LawOk cells hs ((cells.zip hs).filterMap guest) ((cells.zip hs).filterMap upF) (fwR hs []) (mtB (hs.map (·.1))) (wtF hs)
  pre : wtPre hs (wtF hs) hs.length = lwR hs []
  way : ∀ les mos, LongOf (fwR hs []) les → LongOf (lwR hs []) mos → WayOk ((waysL hs).map (·.2)) les mos
  fst : ((waysL hs).map (·.2))[0]? = some (fwR hs [])
  lst : ((waysL hs).map (·.2))[((waysL hs).map (·.2)).length - 1]? = some (lwR hs [])
  n : ((waysL hs).map (·.2)).length ≤ 1000
  emp : ((List.range hs.length).map fun k => takenB (rowT ((cells.zip hs).map pieceS) k)) = (List.range 8).map (emptyB (hs.map (·.1)))
theorem allOk {cells : List Int} (h8 : cells.length = 8) (hc : ∀ c ∈ cells, 0 ≤ c ∧ c < 1000000) : AllOk cells (hoursL 0 4 0 cells) := by
  have hlen := hours_len cells 0 4 0
  have hsh := hours_shape h8 0
  have hrg := hours_range cells 0 4 0 fun c hx => (hc c hx).1
  have hin := hours_incr cells 0 4 0 fun c hx => (hc c hx).1
  generalize hoursL 0 4 0 cells = hs at *
  have l8 : hs.length = 8 := by omega
  have rng : ∀ h ∈ hs, 1 ≤ h.2 ∧ h.2 ≤ 320 := fun h hx => by have := hrg h hx; omega
  have he : cells.length = hs.length := by omega
  have ez : (cells.zip hs).map (·.2) = hs := List.map_snd_zip (by omega)
  have eb : (cells.zip hs).map (·.2.1) = hs.map (·.1) := by
    conv => rhs; rw [← ez]
    rw [List.map_map]; rfl
  obtain ⟨s1, s2, s3, s4⟩ := shape1 _ hsh
  have g4 : ((cells.zip hs).filterMap guest).length = 4 := by rw [guests_len, eb]; exact shape5 _ hsh
  have word : ∀ p ∈ (cells.zip hs).filterMap guest, WordOk p.2 ∧ 0 ≤ p.1 ∧ p.1 < 1000000 := by
    intro p hp
    obtain ⟨⟨c, b, n⟩, hz, e⟩ := List.mem_filterMap.mp hp
    have hh := rng (b, n) (List.of_mem_zip hz).2
    have hcc := hc c (List.of_mem_zip hz).1
    unfold guest at e
    cases b with
    | false => cases e
    | true =>
      obtain rfl := Option.some.inj e
      exact ⟨(reply_is hh.1 hh.2).word, hcc.1, hcc.2⟩
  have br := brOk_of h8 hsh rng
  have wr : ∀ p ∈ (cells.zip hs).filterMap guest, WrOk p := fun p hp => by
    obtain ⟨h1, h2, h3⟩ := word p hp
    exact word_wr h1 h2 h3
  obtain ⟨bk1, bk2, bk3⟩ := book_is ((cells.zip hs).filterMap guest) fun p hp => (word p hp).1
  rw [← book_flat] at bk1 bk2 bk3
  have fstE : ∃ rest, wyR hs [] = fwR hs [] :: rest := by
    obtain ⟨r, e, -⟩ := wyR_fst ex_id (Int.le_refl 0) hs [] 0 hin s1 .nil fun _ h => nomatch h
    exact ⟨r, e⟩
  have lstE : ∃ ini, wyR hs [] = ini ++ [lwR hs []] := by
    obtain ⟨r, e, -⟩ := wyR_lst ex_id (Int.le_refl 0) hs [] 0 hin s1 .nil fun _ h => nomatch h
    exact ⟨r, e⟩
  have f4 : (fwR hs []).length = 4 := by
    obtain ⟨r, e⟩ := fstE
    rw [wyR_each hs [] _ (by rw [e]; exact .head _)]
    exact s2
  refine ⟨l8, rng, hsh, g4, wr, ?_, ⟨up_gs _, ?_, ?_, ?_, br.rep, ?_, by omega, br, wyOk_of l8 hsh, ?_, ?_⟩, ?_, fun les mos h1 h2 => wayOk hin s1 s2 s3 h1 h2, ?_, ?_, ?_, ?_⟩
  · have hs60 : ∀ y ∈ ((cells.zip hs).filterMap guest).map fun p => writtenS p.1 p.2, y.length ≤ 60 := by
      intro y hy
      obtain ⟨p, hp, rfl⟩ := List.mem_map.mp hy
      rw [len_toList, written_is]
      exact wrL_len (word p hp).1
    have := sum_le 60 _ hs60
    rw [List.length_map, g4] at this
    rw [List.length_map, g4]
    omega
  · rw [up_gs]; exact bk1
  · rw [len_toList]; omega
  · rw [bk2, g4]; rfl
  · have := fifo_is (cells.zip hs) [] (by rw [eb]; exact s1)
    rw [ez] at this
    exact this
  · intro x hx
    rw [up_gs] at hx
    obtain ⟨p, hp, rfl⟩ := List.mem_map.mp hx
    exact (word p hp).1.strOk
  · have := wtPre_len hs (wtF hs) hs.length
    omega
  · rw [l8]; exact wtPre_is hsh
  · obtain ⟨r, e⟩ := fstE
    rw [ways_wyR, e]; rfl
  · obtain ⟨r, e⟩ := lstE
    rw [ways_wyR, e]
    simp
  · rw [ways_wyR, wyR_len]; exact s3
  · rw [l8]
    refine List.map_congr_left fun k hk => ?_
    rw [rowT_taken _ _ eb]
    exact shape3 _ hsh k (List.mem_range.mp hk)
end Mine
end
section
open PySem PySem.W PyProof.Rows PySem.Calls PySem.Spec PyProof.Rows.LCg
set_option maxRecDepth 100000
namespace Mine
theorem lawAll (w : World) (L fa sc : Addr) (vs : List Value) (ns : List Int) (hI : IntsAre vs ns) (hlen : ns.length ≤ 63) (oc1 oc2 : Obj) (vc1 vc2 : Option Value) (hc1 : oc1.data = .cell vc1) (hc2 : oc2.data = .cell vc2)
    (loose : List Str) (mean : ExcName → Option Value) (mg mb : Str → Option Value) (g : Heap) (hsc : g.IsList sc vs.toArray) (h123 : @LT.lt Nat _ 123 L)
    (B : Below callerA g [] g) (X : (KK w).In g) (T : Top VV loose mean mg mb g) (os : OsState) (m : Str → Option Value) (hm : ∀ y, m y = if y = Str.ofString "script" then some (.ref sc) else none) (s : Shared) (F : Fr g L s.heap m) (N : News g L s.heap [(L + 1 + 1, oc2), (L + 1, oc1), (123, tabObj #[])]) (hb : AllBare s.gens) (hos : s.os = os) (Q : Flow → Shared → Prop) (E : Value → Shared → Prop)
    (hQ : ∀ (ps : Array Value) (m : Str → Option Value) (s : Shared), Fr g L s.heap m → News g L s.heap [(123, tabObj ps)] → AllBare s.gens → s.os = os → Q (.ret (.bool true)) s) :
    wpAny (model PP w) (lawA L fa) (execs (lawTail 0) (lawEnv L fa)) Q E s := by
  have hA := allOk (cellsL_len ns) (cellsL_ok ns)
  refine law1 w L fa sc vs ns hI hlen oc1 oc2 vc1 vc2 hc1 hc2 loose mean mg mb g hsc h123 B X T os m hm s F N hb hos Q E ?_
  clear hm F N hb hos m s
  intro dr ca hl cv hv n1 n2 nr m s hm hcv hca hhl hH hnr F N hb hos
  generalize hoursL 0 4 0 (cellsL ns) = hs at *
  refine law2 w L fa sc dr ca hl cv hv n1 n2 (cellsL ns) hs hcv (cellsL_len ns) hA.l8 nr hH hca hhl (cellsL_ok ns) hA.rng _ rfl (by rw [hA.g4]; decide) hA.wr hA.sum oc1 oc2 vc1 vc2 hc1 hc2 hnr loose mean mg mb g h123 B X T os m hm s F N hb hos Q E ?_
  clear hm F N hb hos m s hc1 hnr hca hhl hH hcv oc1
  intro gl pl dl gv pv n3 n4 tb oc1 nr m s hm hc1 hca hhl hH hgl hG hpl hP hnr F N hb hos
  refine law3 w L fa sc dr ca hl gl pl dl cv hv gv pv n1 n2 n3 n4 tb (cellsL ns) hs hA.l8 _ (by rw [hA.g4]; decide) _ _ _ _ hA.ok nr hH hhl hgl hG hpl hP oc1 oc2 _ vc2 hc1 hc2 hnr loose mean mg mb g h123 B X T os m hm s F N hb hos Q E ?_
  clear hm F N hb hos m s hnr hca hhl hH hgl hG hpl hP nr
  intro wl rl Eb Tt Dw le mo wl2 el2 cc lev mov les mos yw nr m s hst hnr hm F N hb hos
  obtain ⟨c2, hle⟩ := hst.lm
  obtain ⟨c3, hmo⟩ := hst.mm
  have hsub : ∀ p ∈ nr, p ∈ lawNews L oc1 oc2 [(123, tabObj #[rawInt 117, rawInt 4, .ref cc])] nr := fun p hp => by
    simp only [lawNews, List.cons_append, List.nil_append, List.mem_cons]; simp [hp]
  have hlo := hst.lo
  have hmx := hst.mx
  rw [hA.pre] at hmx hst
  refine law4 w L fa Dw le mo yw lev mov c2 c3 ((waysL hs).map (·.2)) les mos (lawMap3 (lawMap2 sc dr ca hl gl pl (bookOf (((cellsL ns).zip hs).filterMap guest)) tb) wl rl Eb Tt Dw le mo) _ (hA.way les mos hlo hmx) (hst.ys.mono hsub) (hsub _ hst.dm) (hsub _ hle) (hsub _ hmo) hst.li hst.mi loose mean mg mb g B X T os m
    (lawMap3 (lawMap2 sc dr ca hl gl pl (bookOf (((cellsL ns).zip hs).filterMap guest)) tb) wl rl Eb Tt Dw le mo (Str.ofString "place")) (lawMap3 (lawMap2 sc dr ca hl gl pl (bookOf (((cellsL ns).zip hs).filterMap guest)) tb) wl rl Eb Tt Dw le mo (Str.ofString "way")) (lawMap3 (lawMap2 sc dr ca hl gl pl (bookOf (((cellsL ns).zip hs).filterMap guest)) tb) wl rl Eb Tt Dw le mo (Str.ofString "row"))
    (fun y => (hm y).trans ?_) s F N hb hos Q E ?_
  · by_cases h1 : y = Str.ofString "row"; (focus (subst h1; rfl)); by_cases h2 : y = Str.ofString "way"; (focus (subst h2; rfl)); by_cases h3 : y = Str.ofString "place"; (focus (subst h3; rfl)); by_cases h4 : y = Str.ofString "least"; (focus (subst h4; rfl)); by_cases h5 : y = Str.ofString "most"; (focus (subst h5; rfl)); by_cases h6 : y = Str.ofString "ways"; (focus (subst h6; rfl))
    rw [lpMap, if_neg h1, if_neg h2, if_neg h3, if_neg h4, if_neg h5, if_neg h6]
  · clear hm F N hb hos m s
    intro vp vw vr m s hm F N hb hos
    exact law5 w L fa hl wl Tt wl2 el2 Dw le mo hs _ hA.l8 _ _ lev mov les mos yw (tabObj #[rawInt 117, rawInt 4, .ref cc]) m oc1 oc2 vc2 hc2 nr hst ((hm _).trans rfl) ((hm _).trans rfl) ((hm _).trans rfl) ((hm _).trans rfl) hA.fst hA.lst hA.n hA.emp hnr h123 loose mean mg mb g B X T os s F N hb hos Q E fun m s F N hb hos => hQ _ m s F N hb hos
end Mine
end
theorem Mine.calmLawF : True := by w_top off; first | walk1 | trivial
section
open PySem PySem.W PyProof.Rows PySem.Calls PySem.Spec PyProof.Rows.LCg
set_option maxRecDepth 100000
set_option maxHeartbeats 8000000
namespace Mine
noncomputable def LawQ (h₁ : Heap) (os : OsState) (r : Result) (s' : Shared) : Prop :=
  r = .ok (.ret (.bool true)) ∧ (∀ b o, (ghostOf h₁ [(127, 123)]).get? b = some o → s'.heap.get? b = some o) ∧ GrownAll [(127, 123)] s'.heap ∧ s'.os = os ∧ AllBare s'.gens
theorem my_post {M : Model} {A : Around} {cd : Code} {s s₁ : Shared} {cw : ClaimW} {cl : Str → Option Addr} {mean : ExcName → Option Value} {args : List WData} (hT : TabsAt [(127, 123)] s₁.heap) (hr : ∀ a x, cw.raises a x = false) (hp : cw.post args (.bool true) args = true)
    (h : codeAny M A cd (LawQ s₁.heap s₁.os) s) : codeAny M A cd (GoodWG cw cl mean args s₁) s :=
  codeAny_mono h fun r s' ⟨hc, hk, hgr, hos, hg⟩ => by
    subst hc
    have keep : ∀ b o, b ∉ [((127 : Addr), (123 : Addr))].map (·.2) → s₁.heap.get? b = some o → s'.heap.get? b = some o := fun b o hb e => hk b o (ghost_ne e hb)
    have grown : ∀ b o, b ∈ [((127 : Addr), (123 : Addr))].map (·.2) → s₁.heap.get? b = some o → isCodeTable s₁.heap b ∧ o = tabObj #[] ∧ ∃ ps, s'.heap.get? b = some (tabObj ps) := fun b o hb e => by
      obtain ⟨q, hq, rfl⟩ := List.mem_map.mp hb
      have e2 := (hT q hq).2
      rw [e] at e2
      exact ⟨((hT q hq).1.tab (hT q hq).2).isCodeTable, Option.some.inj e2, hgr.get q hq⟩
    refine ⟨.inl ⟨_, _, [], rfl, hr _, ReadsW.bool true, hp, fun _ => ⟨List.nodup_nil, fun _ hm => (nomatch hm)⟩⟩, ⟨fun b o e => ?_, fun b o e => ?_⟩, hos, hg⟩
    · by_cases hb : b ∈ [((127 : Addr), (123 : Addr))].map (·.2)
      · obtain ⟨ht, rfl, ps, hP⟩ := grown b o hb e
        exact .inr (.inl ⟨ht, rfl, #[], ps, rfl, by rw [Array.empty_append]; exact hP⟩)
      · exact .inl (keep b o hb e)
    · by_cases hb : b ∈ [((127 : Addr), (123 : Addr))].map (·.2)
      · obtain ⟨_, _, ps, hP⟩ := grown b o hb e
        exact ⟨_, hP⟩
      · exact ⟨o, keep b o hb e⟩
noncomputable def codeVal (o : Obj) : Value := match o.data with | .func f => f.code | _ => .none
theorem lawTest : PySem.Challenge.rw_tl0005_01.Holds := by
  refine hd ?_
  k_fill
  intro w s₀ s₁ mg mb G Y fa o pm cd doc dV kV ho hd hcd hD hmg hg args vals as hpre hlay hrd hwl hlo
  have KX := km_in_of Y
  km_tabs Y
  have X := (Ground.X G).1
  have V := (Ground.X G).2
  refine Ground.open G ?_
  intro T B D TE TW
  have ecd : cd = .ref 184 := by
    have e185 : mg (Str.ofString "law") = some (.ref 185) := mg_of KX T.g (by k_is)
    have efa : some (Value.ref fa) = some (Value.ref 185) := hmg.symm.trans e185
    have efb : fa = 185 := by injection efa with e; injection e with e'
    have eob := KX 185 _ (by with_unfolding_all rfl)
    have ho2 := ho
    rw [efb, eob] at ho2
    have eoc := congrArg (fun q : Option Obj => q.map codeVal) ho2
    have eod : codeVal o = cd := by unfold codeVal; rw [hd]; rfl
    have e9 : some (Value.ref 184) = some (codeVal o) := eoc
    rw [eod] at e9
    injection e9 with e
    exact e.symm
  try (refine guard_noD D (by decide +kernel) ?_; clear D)
  km_lay T hmg ho hd cd
  clear hmg
  wrow_args hpre hlay hrd hwl hlo
  first | refine callC_kw (enter_call ?_) | refine enter_call ?_
  w_top on
  refine my_post hT9 (fun _ _ => rfl) (by wrow_post) ?_
  w_call any ho hd hcd hD T F
  clear hd
  kn_ghosts F T
  k_drop
  clear hD hcd
  (with_reducible rename News _ _ _ _ => N9)
  (with_reducible rename Fr _ _ _ _ => F9)
  (with_reducible rename Below _ _ _ _ => B9)
  (with_reducible rename Top _ _ _ _ _ _ => T9)
  (with_reducible rename Frag.In _ _ => X9)
  (with_reducible rename IntsAre _ _ => hI9)
  (with_reducible rename @LT.lt Nat _ 123 _ => l9)
  (with_reducible rename ¬ (_ < _) => hlen9)
  have hlen := Int.ofNat_le.mp (Int.not_lt.mp hlen9)
  subst ecd
  refine' lawAll w s₁.heap.objs.size fa _ _ _ hI9 hlen _ _ ?ev1 ?ev2 ?ed1 ?ed2 _ _ mg mb _ lifted l9 B9 X9 T9 s₁.os _ ?ehm _ ?eF ?eN ?ehb ?ehos _ _ ?ehQ
  (case eF => exact F9)
  (case eN => exact N9)
  (case ed1 => with_reducible assumption)
  (case ed2 => with_reducible assumption)
  (case ehQ =>
    intro ps m s F N hb hos
    exact ⟨rfl, F.keep, ⟨GrownAt.of N (.head _), trivial⟩, hos, hb⟩)
  (case ehos => rfl)
  (case ehb => show AllBare s₁.gens; rw [hg]; intro y hy; simp at hy)
  (case ehm =>
    intro y
    by_cases h : y = Str.ofString "script"
    · subst h
      rfl
    · rw [if_neg h]
      show (if y = Str.ofString "script" then _ else none) = none
      rw [if_neg h])
end Mine
end
end
end
end
open PySem PySem.W PyProof.Rows
theorem PySem.Challenge.cw_tl0005_01_holds : PySem.Challenge.rw_tl0005_01.Holds :=
  Mine.lawTest
