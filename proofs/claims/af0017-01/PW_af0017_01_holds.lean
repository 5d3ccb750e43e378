import PyProof.Rows.All
import Wide.All
import OpenK.AllK
import Wide.FinOn
import Lean
import PySem.Challenge.RW_af0017_01
set_option Elab.async false
set_option linter.unusedVariables false
set_option maxRecDepth 100000
set_option bootstrap.genMatcherCode false
set_option genSizeOf false
set_option tactic.hygienic false
set_option genInjectivity false
set_option compiler.extract_closed false
set_option backward.match.sparseCases false
open PySem PySem.W PySem.Calls PyProof.Rows
namespace Mine
local macro_rules | `(tactic| obtain ⟨$ps,*⟩ := ($e)) => `(tactic| (haveI r := $e; obtain ⟨$ps,*⟩ := (r)))
local macro_rules | `(tactic| obtain ⟨$p, $ps,*⟩ := ($h:ident)) => `(tactic| first | (guard_hyp $h : _ ∧ _; refine (?_ : _ → _ → _) (And.left $h) (And.right $h); (try clear $h); intro a b; obtain ⟨$p⟩ := (a); obtain ⟨$ps,*⟩ := (b)) | (rcases $h:ident with ⟨$p, b⟩; (first | guard_hyp b : _ ∧ _ | guard_hyp b : Exists _); obtain ⟨$ps,*⟩ := (b)) | rcases $h:ident with ⟨$p, $ps,*⟩)
local macro_rules | `(tactic| obtain ⟨$p:rcasesPatMed⟩ := ($h:ident)) => `(tactic| obtain $p := ($h))
local macro_rules | `(tactic| obtain ⟨$x:ident⟩ := ($h:ident)) => `(tactic| (revert $h; rintro $x:ident))
theorem lc1 {n i k : Nat} (h : n - i = k + 1) : n - (i + 1) = k := congrArg Nat.pred h
theorem lc2 {n i : Nat} (h : n - i = 0) (q : i ≤ n) : i = n := Nat.le_antisymm q (Nat.sub_eq_zero_iff_le.mp h)
theorem lc3 {n i k : Nat} (h : n - i = k + 1) : i < n := Nat.lt_of_sub_pos (h ▸ Nat.zero_lt_succ k)
theorem lc4 {n i k : Nat} (h : n - i = k + 1) : n - 1 - k = i := by omega
theorem lc5 {n j : Nat} (h : j < n) : n - j = n - j - 1 + 1 := (Nat.sub_add_cancel (Nat.sub_pos_of_lt h)).symm
section
structure F where
 a : Int
 b : Int
inductive V where
 | none
 | bool (b : Bool)
 | int (i : Int)
 | tup (vs : List V)
 | lst (vs : List V)
 | fq (n p : Int)
 | fp (x : F) (p : Int)
 | e2 (x : F) (p : Int)
 | e12 (cs : List Int) (p : Int)
inductive Cl where | fq | fp | opt | fq2
inductive Fld where | n | fm | cs | mcs | deg | mct
inductive Mt where | made | fqc | one | zero | inv | oprd
set_option genCtorIdx false in
inductive Ty where | int | tuple | cls (c : Cl)
inductive Bi where | len | int | abs
inductive Fn where
 | isInf | onC | dbl | add | mul | eq | norm | neg | twist
 | pIsInf | pOnC | pDbl | pAdd | pMul | pEq | pNeg
 | pfi | deg | prd
 | qInit | qAdd | qMul | qRmul | qRsub | qSub | qDiv | qRdiv | qEq | qNe | qNeg | qInt | qMade | cFQ
 | fInit | fMade | fFqc | fAdd | fSub | fMul | fRmul | fDiv | fPow | fInv | fEq | fNe | fNeg | cFP
 | oInit | oMade | oAdd | oSub | oMul | oRmul | oDiv | oPow | oOprd | oInv | oEq | oNe | oNeg | oOne | oZero | cOPT
 | tMade | cFQ2
 | isInf2 | onC2 | dbl2 | add2 | mul2 | eq2 | norm2 | neg2
 | lPrimes | lTimes | lLess | lOver | lRoot | lAdd | lNeg | lMult | lCube | lPoint | lForm | lPair | lRead | lPlain | lPlainRead | lTells | lOpt | lPlainRight | lTwisted | law
noncomputable def Fn.addr : Fn → Nat
 | .isInf => 28 | .onC => 35 | .dbl => 42 | .add => 49 | .mul => 56 | .eq => 63 | .norm => 70 | .neg => 77 | .twist => 84
 | .pIsInf => 91 | .pOnC => 98 | .pDbl => 105 | .pAdd => 112 | .pMul => 119 | .pEq => 126 | .pNeg => 133
 | .pfi => 140 | .deg => 147 | .prd => 152
 | .qInit => 166 | .qAdd => 173 | .qMul => 180 | .qRmul => 187 | .qRsub => 201 | .qSub => 208 | .qDiv => 215 | .qRdiv => 222 | .qEq => 236 | .qNe => 243 | .qNeg => 250 | .qInt => 264 | .qMade => 278 | .cFQ => 295
 | .fInit => 313 | .fMade => 320 | .fFqc => 327 | .fAdd => 332 | .fSub => 337 | .fMul => 342 | .fRmul => 349 | .fDiv => 354 | .fPow => 361 | .fInv => 366 | .fEq => 380 | .fNe => 387 | .fNeg => 392 | .cFP => 409
 | .oInit => 425 | .oMade => 432 | .oAdd => 437 | .oSub => 442 | .oMul => 454 | .oRmul => 461 | .oDiv => 466 | .oPow => 473 | .oOprd => 478 | .oInv => 483 | .oEq => 497 | .oNe => 504 | .oNeg => 509 | .oOne => 524 | .oZero => 531 | .cOPT => 534
 | .tMade => 552 | .cFQ2 => 563
 | .isInf2 => 572 | .onC2 => 579 | .dbl2 => 586 | .add2 => 593 | .mul2 => 600 | .eq2 => 607 | .norm2 => 614 | .neg2 => 621
 | .lPrimes => 628 | .lTimes => 635 | .lLess => 642 | .lOver => 649 | .lRoot => 656 | .lAdd => 663 | .lNeg => 670 | .lMult => 677 | .lCube => 684 | .lPoint => 691 | .lForm => 696 | .lPair => 703 | .lRead => 708 | .lPlain => 715 | .lPlainRead => 722 | .lTells => 729 | .lOpt => 734 | .lPlainRight => 739 | .lTwisted => 746 | .law => 751
set_option genCtorIdx false in
inductive IE where
 | int (i : Int) | bool (b : Bool) | none
 | va (i : Nat)
 | bin (op : Operator) (l r : IE)
 | neg (e : IE) | not (e : IE)
 | and (l r : IE) | or (l r : IE)
 | cmp (op : CmpOp) (l r : IE)
 | ite (c t e : IE)
 | call (f : Fn) (as : IE)
 | meth (o : IE) (m : Mt) (as : IE)
 | attr (o : IE) (f : Fld)
 | idx (o i : IE)
 | upto (o u : IE)
 | tup (es : IE) | lst (es : IE)
 | comp (caps : List Nat) (own : List Str) (pat : List Nat) (it : IE) (cond : IE) (elt : IE)
 | bi (b : Bi) (e : IE)
 | pow3 (a b c : IE)
 | tupOf (e : IE) | listOf (e : IE) | listEnum (e : IE)
 | isi (e : IE) (ts : List Ty)
 | rng1 (a : IE) | rng3 (a b c : IE) | enum (e : IE) | zip (a b : IE)
 | an | ac (e r : IE)
noncomputable def br (b : Bool) (P Q : Prop) : Prop := match b with | true => P | false => Q
theorem br_i {b : Bool} {P Q : Prop} (h1 : b = true → P) (h2 : b = false → Q) : br b P Q := by cases b; exact h2 rfl; exact h1 rfl
noncomputable def Sm (x : Int) : Prop := -(2 ^ 63) ≤ x ∧ x < 2 ^ 63
noncomputable def okL (vs : List V) (P : Prop) : Prop := match Nat.ble vs.length 64 with | true => P | false => False
noncomputable def getO : List (Option V) → Nat → Option V
 | [], _ => none
 | x :: _, 0 => x
 | _ :: r, n + 1 => getO r n
abbrev setO (l : List (Option V)) (n : Nat) (v : V) : List (Option V) := l.set n (some v)
noncomputable def evL {α : Type} : List α → (List α → Prop) → Prop
 | [], k => k []
 | x :: r, k => evL r fun r' => k (x :: r')
theorem evL_eq {α : Type} (l : List α) : ∀ k : List α → Prop, evL l k = k l := List.rec (motive := fun l => ∀ k : List α → Prop, evL l k = k l) (fun _ => rfl) (fun x _ ih k => ih fun r => k (x :: r)) l
theorem evL_o {α : Type} {l : List α} {k : List α → Prop} (h : evL l k) : k l := evL_eq l k ▸ h
theorem evL_i {α : Type} {l : List α} {k : List α → Prop} (h : k l) : evL l k := evL_eq l k ▸ h
theorem nsm {α : Type} {x : α} {P : Prop} (h : (none : Option α) = some x) : P := by cases h
theorem off {α β : Type} {f : α → Option β} {a b : α} {o : β} (h : f a = none) (e : f b = some o) : b ≠ a := fun q => by subst q; rw [h] at e; cases e
theorem nft {P : Prop} (h : false = true) : P := by cases h
noncomputable def hasN : List Nat → Nat → Bool
 | [], _ => false
 | a :: r, n => match Nat.beq a n with | true => true | false => hasN r n
noncomputable def maskO (caps : List Nat) (own : Nat) : Nat → List (Option V) → List (Option V)
 | _, [] => List.replicate own none
 | i, x :: r => match hasN caps i with | true => x :: maskO caps own (i + 1) r | false => none :: maskO caps own (i + 1) r
noncomputable def capsOk (ρ : List (Option V)) : List Nat → Bool
 | [] => true
 | i :: r => match getO ρ i with | some _ => capsOk ρ r | none => false
noncomputable def setAllO : List (Option V) → List Nat → List V → Option (List (Option V))
 | ρ, [], [] => some ρ
 | ρ, i :: is, v :: vs => setAllO (setO ρ i v) is vs
 | _, _, _ => none
noncomputable def onO (o : Option (List (Option V))) (k : List (Option V) → Prop) : Prop := match o with | some ρ => evL ρ k | none => False
noncomputable def tupV {α : Type} (v : V) (f : List V → Option α) : Option α := match v with | .tup vs => f vs | _ => none
theorem tupV_e {α : Type} {v : V} {f : List V → Option α} {x : α} (h : tupV v f = some x) : ∃ xs, v = .tup xs ∧ f xs = some x := by
 cases v <;> first | exact ⟨_, rfl, h⟩ | cases h
noncomputable def bindO (ρ : List (Option V)) (pat : List Nat) (v : V) : Option (List (Option V)) := match pat with
 | [] => tupV v (setAllO ρ [])
 | i :: is => match is with
  | [] => some (setO ρ i v)
  | j :: r => tupV v (setAllO ρ (i :: j :: r))
noncomputable def getF : V → Fld → Option V
 | .fq n _, .n => some (.int n)
 | .fq _ p, .fm => some (.int p)
 | .fp _ p, .fm => some (.int p)
 | .fp x p, .cs => some (.tup [.fq x.a p, .fq x.b p])
 | .fp _ _, .mcs => some (.tup [.int 1, .int 0])
 | .fp _ _, .deg => some (.int 2)
 | .e2 _ p, .fm => some (.int p)
 | .e2 _ _, .mct => some (.lst [.tup [.int 0, .int 1]])
 | .e2 x _, .cs => some (.tup [.int x.a, .int x.b])
 | .e2 _ _, .mcs => some (.tup [.int 1, .int 0])
 | .e2 _ _, .deg => some (.int 2)
 | .e12 _ p, .fm => some (.int p)
 | .e12 _ _, .mct => some (.lst [.tup [.int 0, .int 2], .tup [.int 6, .int (-2)]])
 | .e12 cs _, .cs => some (.tup (cs.map .int))
 | .e12 _ _, .mcs => some (.tup [.int 2, .int 0, .int 0, .int 0, .int 0, .int 0, .int (-2), .int 0, .int 0, .int 0, .int 0, .int 0])
 | .e12 _ _, .deg => some (.int 12)
 | _, _ => none
noncomputable def clOf : V → Option Cl
 | .fq .. => some .fq
 | .fp .. => some .fp
 | .e2 .. => some .fq2
 | .e12 .. => some .opt
 | _ => none
noncomputable def Cl.addr : Cl → Nat | .fq => 295 | .fp => 409 | .opt => 534 | .fq2 => 563
noncomputable def dun : Cl → Operator → Option Fn
 | .fq, .Add => some .qAdd | .fq, .Sub => some .qSub | .fq, .Mult => some .qMul | .fq, .Div => some .qDiv
 | .fp, .Add => some .fAdd | .fp, .Sub => some .fSub | .fp, .Mult => some .fMul | .fp, .Div => some .fDiv | .fp, .Pow => some .fPow
 | .opt, .Add => some .oAdd | .opt, .Sub => some .oSub | .opt, .Mult => some .oMul | .opt, .Div => some .oDiv | .opt, .Pow => some .oPow
 | .fq2, .Add => some .oAdd | .fq2, .Sub => some .oSub | .fq2, .Mult => some .oMul | .fq2, .Div => some .oDiv | .fq2, .Pow => some .oPow
 | _, _ => none
noncomputable def rdun : Cl → Operator → Option Fn
 | .fq, .Mult => some .qRmul | .fq, .Sub => some .qRsub | .fq, .Div => some .qRdiv
 | .fp, .Mult => some .fRmul | .opt, .Mult => some .oRmul | .fq2, .Mult => some .oRmul
 | _, _ => none
noncomputable def ceq : Cl → CmpOp → Option Fn
 | .fq, .Eq => some .qEq | .fq, .NotEq => some .qNe
 | .fp, .Eq => some .fEq | .fp, .NotEq => some .fNe
 | .opt, .Eq => some .oEq | .opt, .NotEq => some .oNe
 | .fq2, .Eq => some .oEq | .fq2, .NotEq => some .oNe
 | _, _ => none
noncomputable def cneg : Cl → Fn | .fq => .qNeg | .fp => .fNeg | .opt => .oNeg | .fq2 => .oNeg
noncomputable def mfn : Cl → Mt → Option Fn
 | .fq, .made => some .qMade
 | .fp, .made => some .fMade | .fp, .fqc => some .fFqc | .fp, .inv => some .fInv
 | .opt, .made => some .oMade | .opt, .one => some .oOne | .opt, .zero => some .oZero | .opt, .inv => some .oInv | .opt, .oprd => some .oOprd
 | .fq2, .made => some .tMade | .fq2, .one => some .oOne | .fq2, .zero => some .oZero | .fq2, .inv => some .oInv | .fq2, .oprd => some .oOprd
 | _, _ => none
noncomputable def Cl.same : Cl → Cl → Bool | .fq, .fq | .fp, .fp | .opt, .opt | .fq2, .fq2 => true | _, _ => false
abbrev Tab := Fn → List V → (V → Prop) → Prop
noncomputable def sameOrInt (c : Cl) (b : V) : Bool := match b with
 | .int _ => true
 | b => match clOf b with | some d => Cl.same c d | none => false
noncomputable def wBinI (op : Operator) (x y : Int) (k : V → Prop) : Prop := match op with
 | .Add => k (.int (x + y))
 | .Sub => k (.int (x - y))
 | .Mult => (Sm x ∨ Sm y) ∧ k (.int (x * y))
 | .Mod => 0 < y ∧ k (.int (x % y))
 | .FloorDiv => 0 < y ∧ Sm y ∧ k (.int (x / y))
 | .BitAnd => y = 1 ∧ 0 ≤ x ∧ k (.int (x % 2))
 | .RShift => y = 1 ∧ 0 ≤ x ∧ k (.int (x / 2))
 | _ => False
noncomputable def onFn (o : Option Fn) (k : Fn → Prop) : Prop := match o with | some f => k f | none => False
theorem onFn_e {o : Option Fn} {k : Fn → Prop} (h : onFn o k) : ∃ f, o = some f ∧ k f := by
 cases o <;> first | exact ⟨_, rfl, h⟩ | exact h.elim
noncomputable def onCl (o : Option Cl) (k : Cl → Prop) : Prop := match o with | some f => k f | none => False
theorem onCl_e {o : Option Cl} {k : Cl → Prop} (h : onCl o k) : ∃ f, o = some f ∧ k f := by
 cases o <;> first | exact ⟨_, rfl, h⟩ | exact h.elim
noncomputable def ifP (b : Bool) (P : Prop) : Prop := match b with | true => P | false => False
theorem ifP_e {b : Bool} {P : Prop} (h : ifP b P) : b = true ∧ P := by
 cases b <;> first | exact ⟨rfl, h⟩ | exact h.elim
noncomputable def isAdd : Operator → Bool | .Add => true | _ => false
theorem isAdd_e {o : Operator} (h : isAdd o = true) : o = .Add := by
 cases o <;> first | rfl | exact (Bool.false_ne_true h).elim
noncomputable def isMul : Operator → Bool | .Mult => true | _ => false
theorem isMul_e {o : Operator} (h : isMul o = true) : o = .Mult := by
 cases o <;> first | rfl | exact (Bool.false_ne_true h).elim
noncomputable def wBinC (T : Tab) (op : Operator) (a b : V) (k : V → Prop) : Prop := onCl (clOf a) fun c => ifP (sameOrInt c b) (onFn (dun c op) fun f => T f [a, b] k)
noncomputable def wBinR (T : Tab) (op : Operator) (x : Int) (b : V) (k : V → Prop) : Prop := onCl (clOf b) fun c => onFn (rdun c op) fun f => T f [b, .int x] k
noncomputable def wBin (T : Tab) (op : Operator) (a b : V) (k : V → Prop) : Prop := match a with
 | .int x => (match b with
  | .int y => wBinI op x y k
  | b => wBinR T op x b k)
 | .lst xs => (match b with
  | .lst ys => ifP (isAdd op) (evL (xs ++ ys) fun zs => okL zs (k (.lst zs)))
  | .int n => ifP (isMul op) (match xs with
   | [] => False
   | x :: r => match r with
    | [] => 0 ≤ n ∧ evL (List.replicate n.toNat x) fun zs => okL zs (k (.lst zs))
    | _ :: _ => False)
  | _ => False)
 | .tup xs => (match b with
  | .tup ys => ifP (isAdd op) (evL (xs ++ ys) fun zs => okL zs (k (.tup zs)))
  | _ => False)
 | a => wBinC T op a b k
noncomputable def wIBin (T : Tab) (op : Operator) (a b : V) (k : V → Prop) : Prop := match op, a with
 | .Add, .int _ => wBin T .Add a b k
 | .Sub, .int _ => wBin T .Sub a b k
 | .Add, .fq _ _ => wBin T .Add a b k
 | .Sub, .fq _ _ => wBin T .Sub a b k
 | _, _ => False
noncomputable def isData : Nat → V → Bool
 | 0, _ => false
 | n + 1, v => match v with
  | .none => true
  | .int _ => true
  | .tup vs => vs.all (isData n)
  | .lst vs => vs.all (isData n)
  | _ => false
noncomputable def veqL (f : V → V → Bool) : List V → List V → Bool
 | [], [] => true
 | x :: xs, y :: ys => f x y && veqL f xs ys
 | _, _ => false
noncomputable def veq : Nat → V → V → Bool
 | 0, _, _ => false
 | n + 1, a, b => match a, b with
  | .none, .none => true
  | .int x, .int y => decide (x = y)
  | .tup xs, .tup ys => veqL (veq n) xs ys
  | .lst xs, .lst ys => veqL (veq n) xs ys
  | _, _ => false
noncomputable def isNone : V → Bool | .none => true | _ => false
noncomputable def truthy (v : V) (k : Bool → Prop) : Prop := match v with
 | .none => k false
 | .bool b => k b
 | .int i => k (!decide (i = 0))
 | _ => False
noncomputable def onPr (a : V) (k : V → V → Prop) : Prop := match a with
 | .tup l => match l with
  | [] => False
  | x :: r => match r with
   | [] => False
   | y :: q => match q with
    | [] => k x y
    | _ :: _ => False
 | _ => False
set_option tactic.hygienic true in
theorem onPr_e {a : V} {k : V → V → Prop} (h : onPr a k) : ∃ x y, a = .tup [x, y] ∧ k x y := by
 cases a <;> first | exact h.elim | skip
 rename_i l
 rcases l with _ | ⟨x, _ | ⟨y, _ | ⟨z, l⟩⟩⟩ <;> first | exact h.elim | exact ⟨_, _, rfl, h⟩
noncomputable def onFp (a : V) (k : F → Int → Prop) : Prop := match a with | .fp x p => k x p | _ => False
theorem onFp_e {a : V} {k : F → Int → Prop} (h : onFp a k) : ∃ x p, a = .fp x p ∧ k x p := by
 cases a <;> first | exact h.elim | exact ⟨_, _, rfl, h⟩
noncomputable def pairC (T : Tab) (op : CmpOp) (a b : V) (k : V → Prop) : Prop := match op with
 | .Eq => onPr a fun x y => onPr b fun z t => onFp x fun x1 p1 => onFp y fun x2 p2 => onFp z fun y1 q1 => onFp t fun y2 q2 =>
  ∃ b1 b2 : Bool, T .fEq [.fp x1 p1, .fp y1 q1] (· = .bool b1) ∧ T .fEq [.fp x2 p2, .fp y2 q2] (· = .bool b2) ∧ (x1 = y1 → b1 = true) ∧ (x2 = y2 → b2 = true) ∧ k (.bool (b1 && b2))
 | _ => False
noncomputable def eqD (op : CmpOp) (b : Bool) (k : V → Prop) : Prop := match op with | .Eq => k (.bool b) | .NotEq => k (.bool (!b)) | _ => False
noncomputable def wCmpG (T : Tab) (op : CmpOp) (a b : V) (k : V → Prop) : Prop := match clOf a with
 | some c => ifP (sameOrInt c b) (onFn (ceq c op) fun f => T f [a, b] k)
 | none => match isData 5 a && isData 5 b with
  | true => eqD op (veq 5 a b) k
  | false => pairC T op a b k
noncomputable def lt2 (a b : V) (k : Int → Int → Prop) : Prop := match a with
 | .int x => (match b with | .int y => k x y | _ => False)
 | _ => False
theorem lt2_e {a b : V} {k : Int → Int → Prop} (h : lt2 a b k) : ∃ x y, a = .int x ∧ b = .int y ∧ k x y := by
 cases a <;> first | exact h.elim | skip
 cases b <;> first | exact h.elim | exact ⟨_, _, rfl, rfl, h⟩
noncomputable def wCmp (T : Tab) (op : CmpOp) (a b : V) (k : V → Prop) : Prop := match op with
 | .Is => (match b with
  | .none => k (.bool (isNone a))
  | .bool c => (match a with | .bool d => k (.bool (d == c)) | _ => False)
  | _ => False)
 | .IsNot => (match b with | .none => k (.bool (!isNone a)) | _ => False)
 | .Lt => lt2 a b fun x y => k (.bool (decide (x < y)))
 | .Gt => lt2 a b fun x y => k (.bool (decide (y < x)))
 | op => wCmpG T op a b k
noncomputable def onSome (o : Option V) (k : V → Prop) : Prop := match o with | some v => k v | none => False
noncomputable def isiR (v : V) (ts : List Ty) : Option Bool := match ts with
 | [.int] => (match v with | .int _ => some true | .fp .. => some false | .e2 .. => some false | .e12 .. => some false | .fq .. => some false | _ => none)
 | [.tuple] => (match v with | .tup _ => some true | _ => none)
 | [.cls .fq] => (match v with | .fq .. => some true | .int _ => some false | _ => none)
 | [.cls .fp] => (match v with | .fp .. => some true | _ => none)
 | [.cls .opt] => (match v with | .e2 .. => some true | .e12 .. => some true | _ => none)
 | [.int, .cls .fq] => (match v with | .int _ => some true | .fp .. => some false | _ => none)
 | _ => none
noncomputable def onB (o : Option Bool) (k : Bool → Prop) : Prop := match o with | some b => k b | none => False
noncomputable def enumFrom (i : Nat) : List V → List V
 | [] => []
 | v :: r => .tup [.int (i : Int), v] :: enumFrom (i + 1) r
noncomputable def zipV : List V → List V → List V
 | a :: r, b :: q => .tup [a, b] :: zipV r q
 | _, _ => []
noncomputable def nthV : List V → Nat → Option V
 | [], _ => none
 | x :: _, 0 => some x
 | _ :: r, n + 1 => nthV r n
theorem nthV_eq (l : List V) : ∀ n : Nat, nthV l n = l[n]? := by
 induction l with
 | nil => exact fun _ => rfl
 | cons x r ih =>
  intro n
  cases n with
  | zero => rfl
  | succ n => exact ih n
noncomputable def idxV (xs : List V) (n : Int) : Option V := match decide (0 ≤ n) with
 | true => nthV xs n.toNat
 | false => match decide (0 ≤ n + (xs.length : Int)) with
  | true => nthV xs (n + (xs.length : Int)).toNat
  | false => none
noncomputable def idxA (a : V) (n : Int) : Option V := match a with
 | .lst xs => (match decide (0 ≤ n) with | true => nthV xs n.toNat | false => none)
 | .tup xs => idxV xs n
 | _ => none
noncomputable def onItems (v : V) (k : List V → Prop) : Prop := match v with
 | .lst vs => k vs
 | .tup vs => k vs
 | _ => False
noncomputable def onTup (v : V) (k : List V → Prop) : Prop := match v with | .tup vs => k vs | _ => False
noncomputable def sameLen (xs ys : List V) (P : Prop) : Prop := match Nat.beq xs.length ys.length with | true => P | false => False
noncomputable def onInt (v : V) (k : Int → Prop) : Prop := match v with | .int i => k i | _ => False
noncomputable def onMeth (a : V) (m : Mt) (k : Fn → Prop) : Prop := onCl (clOf a) fun c => onFn (mfn c m) k
theorem onMeth_e {a : V} {m : Mt} {k : Fn → Prop} (h : onMeth a m k) : ∃ c f, clOf a = some c ∧ mfn c m = some f ∧ k f := by
 obtain ⟨c, hc, h⟩ := onCl_e h
 obtain ⟨f, hf, h⟩ := onFn_e h
 exact ⟨c, f, hc, hf, h⟩
theorem onSome_e {o : Option V} {k : V → Prop} (h : onSome o k) : ∃ v, o = some v ∧ k v := by
 cases o <;> first | exact ⟨_, rfl, h⟩ | exact h.elim
noncomputable def isNo : IE → Bool | .none => true | _ => false
noncomputable def compF (pat : List Nat) (free : Bool) (cond : List (Option V) → (Bool → Prop) → Prop) (elt : List (Option V) → (V → Prop) → Prop) : List V → List (Option V) → (List V → Prop) → Prop
 | [], _, k => k []
 | v :: r, ρ, k => onO (bindO ρ pat v) fun ρ' => match free with
   | true => elt ρ' fun x => compF pat free cond elt r ρ' fun xs => k (x :: xs)
   | false => cond ρ' fun b => br b (elt ρ' fun x => compF pat free cond elt r ρ' fun xs => k (x :: xs)) (compF pat free cond elt r ρ' k)
noncomputable def wNeg (T : Tab) (a : V) (k : V → Prop) : Prop := match a with
 | .int x => k (.int (-x))
 | a => onCl (clOf a) fun c => T (cneg c) [a] k
mutual
noncomputable def wE (T : Tab) : IE → List (Option V) → (V → Prop) → Prop
 | .int i, _, k => k (.int i)
 | .bool b, _, k => k (.bool b)
 | .none, _, k => k .none
 | .va i, ρ, k => onSome (getO ρ i) k
 | .bin op l r, ρ, k => wE T l ρ fun a => wE T r ρ fun b => wBin T op a b k
 | .neg e, ρ, k => wE T e ρ fun a => wNeg T a k
 | .not e, ρ, k => wE T e ρ fun a => truthy a fun b => k (.bool (!b))
 | .and l r, ρ, k => wE T l ρ fun a => truthy a fun b => br b (wE T r ρ k) (k a)
 | .or l r, ρ, k => wE T l ρ fun a => truthy a fun b => br b (k a) (wE T r ρ k)
 | .cmp op l r, ρ, k => wE T l ρ fun a => wE T r ρ fun b => wCmp T op a b k
 | .ite c t e, ρ, k => wC T c ρ fun b => br b (wE T t ρ k) (wE T e ρ k)
 | .call f as, ρ, k => wEs T as ρ fun vs => T f vs k
 | .meth o m as, ρ, k => wE T o ρ fun a => onMeth a m fun f => wEs T as ρ fun vs => T f (a :: vs) k
 | .attr o f, ρ, k => wE T o ρ fun a => onSome (getF a f) k
 | .idx o i, ρ, k => wE T o ρ fun a => wE T i ρ fun b => onInt b fun n => onSome (idxA a n) k
 | .upto o u, ρ, k => wE T o ρ fun a => wE T u ρ fun b => (match a with
  | .lst xs => onInt b fun n => 0 ≤ n ∧ evL (xs.take n.toNat) fun ys => k (.lst ys)
  | _ => False)
 | .tup es, ρ, k => wEs T es ρ fun vs => okL vs (k (.tup vs))
 | .lst es, ρ, k => wEs T es ρ fun vs => okL vs (k (.lst vs))
 | .comp caps own pat it cond elt, ρ, k => wI T it ρ fun items => okL items (match capsOk ρ caps with
  | true => evL (maskO caps own.length 0 ρ) fun ρ'' => compF pat (isNo cond) (fun ρ' k' => wC T cond ρ' k') (fun ρ' k' => wE T elt ρ' k') items ρ'' fun vs => k (.lst vs)
  | false => False)
 | .bi b e, ρ, k => wE T e ρ fun a => (match b with
  | .len => onItems a fun xs => k (.int xs.length)
  | .int => (match a with | .int x => k (.int x) | .fq n p => T .qInt [.fq n p] (fun r => onInt r fun i => k (.int i)) | _ => False)
  | .abs => onInt a fun x => k (.int x.natAbs))
 | .pow3 a b c, ρ, k => wE T a ρ fun x => wE T b ρ fun y => wE T c ρ fun z => onInt x fun x => onInt y fun y => onInt z fun z => 0 ≤ y ∧ 1 < z ∧ k (.int (x ^ y.toNat % z))
 | .tupOf e, ρ, k => wE T e ρ fun a => onItems a fun xs => k (.tup xs)
 | .listOf e, ρ, k => wE T e ρ fun a => onItems a fun xs => k (.lst xs)
 | .listEnum e, ρ, k => wE T e ρ fun a => onTup a fun xs => evL (enumFrom 0 xs) fun ys => okL ys (k (.lst ys))
 | .isi e ts, ρ, k => wE T e ρ fun a => onB (isiR a ts) fun b => k (.bool b)
 | .rng1 _, _, _ => False
 | .rng3 _ _ _, _, _ => False
 | .enum _, _, _ => False
 | .zip _ _, _, _ => False
 | .an, _, _ => False
 | .ac _ _, _, _ => False
noncomputable def wC (T : Tab) : IE → List (Option V) → (Bool → Prop) → Prop
 | .not e, ρ, k => wC T e ρ fun b => k (!b)
 | .and l r, ρ, k => wC T l ρ fun b => br b (wC T r ρ k) (k false)
 | .or l r, ρ, k => wC T l ρ fun b => br b (k true) (wC T r ρ k)
 | .cmp op l r, ρ, k => wE T l ρ fun a => wE T r ρ fun b => wCmp T op a b fun v => truthy v k
 | .va i, ρ, k => onSome (getO ρ i) fun v => truthy v k
 | .call f as, ρ, k => wEs T as ρ fun vs => T f vs fun v => truthy v k
 | .bin op l r, ρ, k => wE T l ρ fun a => wE T r ρ fun b => wBin T op a b fun v => truthy v k
 | .isi e ts, ρ, k => wE T e ρ fun a => onB (isiR a ts) k
 | _, _, _ => False
noncomputable def wEs (T : Tab) : IE → List (Option V) → (List V → Prop) → Prop
 | .an, _, k => k []
 | .ac e r, ρ, k => wE T e ρ fun v => wEs T r ρ fun vs => k (v :: vs)
 | _, _, _ => False
noncomputable def wI (T : Tab) : IE → List (Option V) → (List V → Prop) → Prop
 | .rng1 a, ρ, k => wE T a ρ fun v => onInt v fun n => 0 ≤ n ∧ n ≤ 64 ∧ evL ((List.range n.toNat).map fun (i : Nat) => V.int (i : Int)) k
 | .rng3 a b _, ρ, k => wE T a ρ fun v => wE T b ρ fun u => onInt v fun n => onInt u fun m => -1 ≤ n ∧ n ≤ 63 ∧ m = -1 ∧ evL ((List.range (n + 1).toNat).map fun (i : Nat) => V.int (n - (i : Int))) k
 | .enum e, ρ, k => wE T e ρ fun v => onTup v fun xs => evL (enumFrom 0 xs) k
 | .zip a b, ρ, k => wE T a ρ fun v => wE T b ρ fun u => onTup v fun xs => onTup u fun ys => sameLen xs ys (evL (zipV xs ys) k)
 | .va i, ρ, k => onSome (getO ρ i) fun v => onItems v k
 | .attr o f, ρ, k => wE T o ρ fun a => onSome (getF a f) fun v => onItems v k
 | .tup es, ρ, k => wEs T es ρ fun vs => okL vs (k vs)
 | .lst es, ρ, k => wEs T es ρ fun vs => okL vs (k vs)
 | .upto o u, ρ, k => wE T o ρ fun a => wE T u ρ fun b => (match a with
  | .lst xs => onInt b fun n => 0 ≤ n ∧ evL (xs.take n.toNat) k
  | _ => False)
 | .bin op l r, ρ, k => wE T l ρ fun a => wE T r ρ fun b => wBin T op a b fun v => onItems v k
 | .call f as, ρ, k => wEs T as ρ fun vs => T f vs fun v => onItems v k
 | .meth o m as, ρ, k => wE T o ρ fun a => onMeth a m fun f => wEs T as ρ fun vs => T f (a :: vs) fun v => onItems v k
 | _, _, _ => False
end
inductive Slot where
 | u
 | v (x : V)
 | o (xs : List V)
set_option genCtorIdx false in
inductive IS where
 | asg (b : Bool) (x : Nat) (e : IE)
 | asgO (x : Nat) (e : IE)
 | frz
 | unp (b : Bool) (xs : List Nat) (e : IE)
 | setIdx (x : Nat) (i e : IE)
 | augIdx (x : Nat) (op : Operator) (i e : IE)
 | aug (x : Nat) (op : Operator) (e : IE)
 | ext (x : Nat) (e : IE)
 | pop (y x : Nat)
 | pop2 (y : Nat) (e : IE) (z x : Nat)
 | ite (c : IE) (t e : IS)
 | for_ (pat : List Nat) (it : IE) (body : IS)
 | forI (pat : List Nat) (it : IE) (body : IS)
 | while_ (n : Nat) (c : IE) (body : IS)
 | whileI (c : IE) (body : IS)
 | ret (e : IE)
 | fail
 | nil
 | cons (s r : IS)
noncomputable def borrow1 : Slot → Option V
 | .u => none
 | .v x => some x
 | .o xs => some (.lst xs)
noncomputable def vals1 : Slot → Option V
 | .v x => some x
 | _ => none
noncomputable def freeze1 : Slot → Slot
 | .o xs => .v (.lst xs)
 | x => x
noncomputable def ob1 : Bool → Slot → Option V
 | true, x => borrow1 x
 | false, x => vals1 x
abbrev obK (b : Bool) (ρ : List Slot) (k : List (Option V) → Prop) : Prop := k (ρ.map (ob1 b))
noncomputable def getS : List Slot → Nat → Slot
 | [], _ => .u
 | x :: _, 0 => x
 | _ :: r, n + 1 => getS r n
abbrev setS (l : List Slot) (n : Nat) (v : Slot) : List Slot := l.set n v
noncomputable def us : Nat → List Slot
 | 0 => []
 | n + 1 => .u :: us n
noncomputable def ofArgs (n : Nat) : List V → List Slot
 | [] => us n
 | v :: r => .v v :: ofArgs n r
noncomputable def noLst : Nat → V → Bool
 | 0, _ => false
 | n + 1, v => match v with
  | .lst _ => false
  | .e2 .. => false
  | .e12 .. => false
  | .tup vs => vs.all (noLst n)
  | _ => true
noncomputable def chkB (b : Bool) (v : V) (P : Prop) : Prop := match b with
 | false => P
 | true => match noLst 5 v with | true => P | false => False
noncomputable def allNo (vs : List V) (P : Prop) : Prop := match vs.all (noLst 5) with | true => P | false => False
noncomputable def setAllS : List Slot → List Nat → List V → Option (List Slot)
 | ρ, [], [] => some ρ
 | ρ, i :: is, v :: vs => setAllS (setS ρ i (.v v)) is vs
 | _, _, _ => none
noncomputable def bindS (ρ : List Slot) (pat : List Nat) (v : V) : Option (List Slot) := match pat with
 | [] => tupV v (setAllS ρ [])
 | i :: is => match is with
  | [] => some (setS ρ i (.v v))
  | j :: r => tupV v (setAllS ρ (i :: j :: r))
noncomputable def onRho (o : Option (List Slot)) (k : List Slot → Prop) : Prop := match o with | some ρ => evL ρ k | none => False
noncomputable def onOwn (s : Slot) (k : List V → Prop) : Prop := match s with | .o xs => k xs | _ => False
noncomputable def place (n : Nat) (i : Int) : Option Nat := match decide (0 ≤ i) with
 | true => (match Nat.blt i.toNat n with | true => some i.toNat | false => none)
 | false => none
noncomputable def onNat (o : Option Nat) (k : Nat → Prop) : Prop := match o with | some n => k n | none => False
abbrev setN (l : List V) (n : Nat) (v : V) : List V := l.set n v
noncomputable def popK : List V → (List V → V → Prop) → Prop
 | [], _ => False
 | x :: r, k => match r with
  | [] => k [] x
  | y :: q => popK (y :: q) fun a b => k (x :: a) b
theorem popK_spec (l : List V) : ∀ k : List V → V → Prop, popK l k → ∃ a b, l = a ++ [b] ∧ k a b := by
 induction l with
 | nil => exact fun _ h => h.elim
 | cons x r ih =>
  intro k h
  cases r with
  | nil => exact ⟨[], x, rfl, h⟩
  | cons y q =>
   obtain ⟨a, b, e, hk⟩ := (ih _ h)
   exact ⟨x :: a, b, e ▸ rfl, hk⟩
noncomputable def forF (pat : List Nat) (body : List Slot → (List Slot → Prop) → Prop) : List V → List Slot → (List Slot → Prop) → Prop
 | [], ρ, kn => kn ρ
 | v :: r, ρ, kn => onRho (bindS ρ pat v) fun ρ' => body ρ' fun ρ'' => forF pat body r ρ'' kn
noncomputable def whileF (c : List Slot → (Bool → Prop) → Prop) (body : List Slot → (List Slot → Prop) → Prop) : Nat → List Slot → (List Slot → Prop) → Prop
 | 0, _, _ => False
 | n + 1, ρ, kn => c ρ fun b => br b (body ρ fun ρ' => whileF c body n ρ' kn) (kn ρ)
noncomputable def isLst : IE → Bool
 | .lst _ => true
 | _ => false
@[elab_as_elim] theorem isLst_e {l : IE} {P : IE → Prop} (h : isLst l = true) (f : ∀ es, P (.lst es)) : P l := by cases l <;> first | exact f _ | exact nft h
noncomputable def isMk : IE → Bool
 | .comp .. => true
 | .lst _ => true
 | .listOf _ => true
 | .bin op l _ => isMul op && isLst l
 | _ => false
noncomputable def wS (T : Tab) : IS → List Slot → (List Slot → Prop) → (V → Prop) → Prop
 | .nil, ρ, kn, _ => kn ρ
 | .cons s r, ρ, kn, kr => wS T s ρ (fun ρ' => wS T r ρ' kn kr) kr
 | .asg b x e, ρ, kn, _ => obK b ρ fun σ => wE T e σ fun v => chkB b v (evL (setS ρ x (.v v)) kn)
 | .asgO x e, ρ, kn, _ => isMk e = true ∧ obK true ρ fun σ => wE T e σ fun v => onItems v fun xs => allNo xs (evL (setS ρ x (.o xs)) kn)
 | .frz, ρ, kn, _ => evL (ρ.map freeze1) kn
 | .unp b xs e, ρ, kn, _ => obK b ρ fun σ => wE T e σ fun v => chkB b v (onItems v fun vs => onRho (setAllS ρ xs vs) kn)
 | .setIdx x i e, ρ, kn, _ => onOwn (getS ρ x) fun xs => obK true ρ fun σ => wE T e σ fun v => wE T i σ fun j => onInt j fun j => chkB true v (onNat (place xs.length j) fun j => evL (setN xs j v) fun xs' => evL (setS ρ x (.o xs')) kn)
 | .augIdx x op i e, ρ, kn, _ => onOwn (getS ρ x) fun xs => obK true ρ fun σ => wE T i σ fun j => onInt j fun j => onNat (place xs.length j) fun j => onSome (nthV xs j) fun a =>
   wE T e σ fun b => wIBin T op a b fun v => chkB true v (evL (setN xs j v) fun xs' => evL (setS ρ x (.o xs')) kn)
 | .aug x op e, ρ, kn, _ => obK true ρ fun σ => onSome (getO σ x) fun a => onInt a fun n => wE T e σ fun b => onInt b fun m => wBinI op n m fun v => evL (setS ρ x (.v v)) kn
 | .ext x e, ρ, kn, _ => onOwn (getS ρ x) fun xs => obK true ρ fun σ => wE T e σ fun b => (match b with | .lst ys => allNo ys (evL (xs ++ ys) fun zs => okL zs (evL (setS ρ x (.o zs)) kn)) | _ => False)
 | .pop y x, ρ, kn, _ => onOwn (getS ρ x) fun xs => popK xs fun r v => evL (setS ρ x (.o r)) fun ρ' => evL (setS ρ' y (.v v)) kn
 | .pop2 y e z x, ρ, kn, _ => obK true ρ fun σ => wE T e σ fun a => chkB true a (onOwn (getS ρ x) fun xs => popK xs fun r v => evL (setS ρ x (.o r)) fun ρ' => evL (setS ρ' y (.v a)) fun ρ'' => evL (setS ρ'' z (.v v)) kn)
 | .ite c t e, ρ, kn, kr => obK true ρ fun σ => wC T c σ fun b => br b (wS T t ρ kn kr) (wS T e ρ kn kr)
 | .for_ pat it body, ρ, kn, kr => obK false ρ fun σ => wI T it σ fun items => okL items (forF pat (fun ρ' k' => wS T body ρ' k' kr) items ρ kn)
 | .forI pat it body, ρ, kn, kr => obK false ρ fun σ => wI T it σ fun items => ∃ Inv : Nat → List Slot → Prop, Inv 0 ρ ∧
   (∀ i v ρ', items[i]? = some v → Inv i ρ' → onRho (bindS ρ' pat v) fun ρ'' => wS T body ρ'' (Inv (i + 1)) kr) ∧ ∀ ρ', Inv items.length ρ' → kn ρ'
 | .while_ n c body, ρ, kn, kr => whileF (fun ρ' k' => obK true ρ' fun σ => wC T c σ k') (fun ρ' k' => wS T body ρ' k' kr) n ρ kn
 | .whileI c body, ρ, kn, kr => ∃ Inv : Nat → List Slot → Prop, (∃ n, Inv n ρ) ∧
   ∀ n ρ', Inv n ρ' → obK true ρ' fun σ => wC T c σ fun b => br b (wS T body ρ' (fun ρ'' => ∃ m, m < n ∧ Inv m ρ'') kr) (kn ρ')
 | .ret e, ρ, _, kr => obK true ρ fun σ => wE T e σ kr
 | .fail, _, _, _ => False
theorem hgt {a b n : Nat} (h : b ≤ n + 1) (e : Nat.ble (a + 1) b = true) : a ≤ n := Nat.le_of_succ_le_succ (Nat.le_trans (Nat.le_of_ble_eq_true e) h)
theorem hgt' {a b n : Nat} (h : b ≤ n) (e : Nat.ble a b = true) : a ≤ n := Nat.le_trans (Nat.le_of_ble_eq_true e) h
end
local macro_rules | `(tactic| omega) => `(tactic| first | exact hgt (by assumption) rfl | exact hgt' (by assumption) rfl | decide | omega +splitDisjunctions)
noncomputable def ir_isInf : IS := (.cons (.ret (.cmp .Eq (.idx (.va 0) (.neg (.int 1))) (.meth (.idx (.va 0) (.neg (.int 1))) .zero .an)))
 .nil)
noncomputable def xt_onC : List Str := ["x", "y", "z"]
noncomputable def irf_onC (f : Fn) : IS := (.cons (.ite (.call f (.ac (.va 0) .an)) (.cons (.ret (.bool true))
 .nil) .nil)
 (.cons (.unp false [2, 3, 4] (.va 0))
 (.cons (.ret (.cmp .Eq (.bin .Sub (.bin .Mult (.bin .Pow (.va 3) (.int 2)) (.va 4)) (.bin .Pow (.va 2) (.int 3))) (.bin .Mult (.va 1) (.bin .Pow (.va 4) (.int 3)))))
 .nil)))
noncomputable def ir_onC : IS := irf_onC .isInf
noncomputable def xt_dbl : List Str := ["x", "y", "z", "W", "S", "B", "H", "S_squared", "newx", "newy", "newz"]
noncomputable def ir_dbl : IS := (.cons (.unp false [1, 2, 3] (.va 0))
 (.cons (.asg false 4 (.bin .Mult (.bin .Mult (.int 3) (.va 1)) (.va 1)))
 (.cons (.asg false 5 (.bin .Mult (.va 2) (.va 3)))
 (.cons (.asg false 6 (.bin .Mult (.bin .Mult (.va 1) (.va 2)) (.va 5)))
 (.cons (.asg false 7 (.bin .Sub (.bin .Mult (.va 4) (.va 4)) (.bin .Mult (.int 8) (.va 6))))
 (.cons (.asg false 8 (.bin .Mult (.va 5) (.va 5)))
 (.cons (.asg false 9 (.bin .Mult (.bin .Mult (.int 2) (.va 7)) (.va 5)))
 (.cons (.asg false 10 (.bin .Sub (.bin .Mult (.va 4) (.bin .Sub (.bin .Mult (.int 4) (.va 6)) (.va 7))) (.bin .Mult (.bin .Mult (.bin .Mult (.int 8) (.va 2)) (.va 2)) (.va 8))))
 (.cons (.asg false 11 (.bin .Mult (.bin .Mult (.int 8) (.va 5)) (.va 8)))
 (.cons (.ret (.tup (.ac (.va 9) (.ac (.va 10) (.ac (.va 11) .an)))))
 .nil))))))))))
noncomputable def xt_add : List Str := ["one", "zero", "x1", "y1", "z1", "x2", "y2", "z2", "U1", "U2", "V1", "V2", "U", "V", "V_squared", "V_squared_times_V2", "V_cubed", "W", "A", "newx", "newy", "newz"]
noncomputable def irf_add (f : Fn) : IS := (.cons (.unp false [2, 3] (.tup (.ac (.meth (.idx (.va 0) (.int 0)) .one .an) (.ac (.meth (.idx (.va 0) (.int 0)) .zero .an) .an))))
 (.cons (.ite (.or (.cmp .Eq (.idx (.va 0) (.int 2)) (.va 3)) (.cmp .Eq (.idx (.va 1) (.int 2)) (.va 3))) (.cons (.ret (.ite (.cmp .Eq (.idx (.va 1) (.int 2)) (.va 3)) (.va 0) (.va 1)))
 .nil) .nil)
 (.cons (.unp false [4, 5, 6] (.va 0))
 (.cons (.unp false [7, 8, 9] (.va 1))
 (.cons (.asg false 10 (.bin .Mult (.va 8) (.va 6)))
 (.cons (.asg false 11 (.bin .Mult (.va 5) (.va 9)))
 (.cons (.asg false 12 (.bin .Mult (.va 7) (.va 6)))
 (.cons (.asg false 13 (.bin .Mult (.va 4) (.va 9)))
 (.cons (.ite (.and (.cmp .Eq (.va 12) (.va 13)) (.cmp .Eq (.va 10) (.va 11))) (.cons (.ret (.call f (.ac (.va 0) .an)))
 .nil) (.cons (.ite (.cmp .Eq (.va 12) (.va 13)) (.cons (.ret (.tup (.ac (.va 2) (.ac (.va 2) (.ac (.va 3) .an)))))
 .nil) .nil)
 .nil))
 (.cons (.asg false 14 (.bin .Sub (.va 10) (.va 11)))
 (.cons (.asg false 15 (.bin .Sub (.va 12) (.va 13)))
 (.cons (.asg false 16 (.bin .Mult (.va 15) (.va 15)))
 (.cons (.asg false 17 (.bin .Mult (.va 16) (.va 13)))
 (.cons (.asg false 18 (.bin .Mult (.va 15) (.va 16)))
 (.cons (.asg false 19 (.bin .Mult (.va 6) (.va 9)))
 (.cons (.asg false 20 (.bin .Sub (.bin .Sub (.bin .Mult (.bin .Mult (.va 14) (.va 14)) (.va 19)) (.va 18)) (.bin .Mult (.int 2) (.va 17))))
 (.cons (.asg false 21 (.bin .Mult (.va 15) (.va 20)))
 (.cons (.asg false 22 (.bin .Sub (.bin .Mult (.va 14) (.bin .Sub (.va 17) (.va 20))) (.bin .Mult (.va 18) (.va 11))))
 (.cons (.asg false 23 (.bin .Mult (.va 18) (.va 19)))
 (.cons (.ret (.tup (.ac (.va 21) (.ac (.va 22) (.ac (.va 23) .an)))))
 .nil))))))))))))))))))))
noncomputable def ir_add : IS := irf_add .dbl
noncomputable def irf_mul (m d a : Fn) : IS := (.cons (.ite (.cmp .Eq (.va 1) (.int 0)) (.cons (.ret (.tup (.ac (.meth (.idx (.va 0) (.int 0)) .one .an) (.ac (.meth (.idx (.va 0) (.int 0)) .one .an) (.ac (.meth (.idx (.va 0) (.int 0)) .zero .an) .an)))))
 .nil) (.cons (.ite (.cmp .Eq (.va 1) (.int 1)) (.cons (.ret (.va 0))
 .nil) (.cons (.ite (.not (.bin .Mod (.va 1) (.int 2))) (.cons (.ret (.call m (.ac (.call d (.ac (.va 0) .an)) (.ac (.bin .FloorDiv (.va 1) (.int 2)) .an))))
 .nil) (.cons (.ret (.call a (.ac (.call m (.ac (.call d (.ac (.va 0) .an)) (.ac (.bi .int (.bin .FloorDiv (.va 1) (.int 2))) .an))) (.ac (.va 0) .an))))
 .nil))
 .nil))
 .nil))
 .nil)
noncomputable def ir_mul : IS := irf_mul .mul .dbl .add
noncomputable def xt_eq : List Str := ["x1", "y1", "z1", "x2", "y2", "z2"]
noncomputable def ir_eq : IS := (.cons (.unp false [2, 3, 4] (.va 0))
 (.cons (.unp false [5, 6, 7] (.va 1))
 (.cons (.ret (.and (.cmp .Eq (.bin .Mult (.va 2) (.va 7)) (.bin .Mult (.va 5) (.va 4))) (.cmp .Eq (.bin .Mult (.va 3) (.va 7)) (.bin .Mult (.va 6) (.va 4)))))
 .nil)))
noncomputable def xt_norm : List Str := ["x", "y", "z"]
noncomputable def ir_norm : IS := (.cons (.unp false [1, 2, 3] (.va 0))
 (.cons (.ret (.tup (.ac (.bin .Div (.va 1) (.va 3)) (.ac (.bin .Div (.va 2) (.va 3)) .an))))
 .nil))
noncomputable def xt_neg : List Str := ["x", "y", "z"]
noncomputable def ir_neg : IS := (.cons (.unp false [1, 2, 3] (.va 0))
 (.cons (.ret (.tup (.ac (.va 1) (.ac (.neg (.va 2)) (.ac (.va 3) .an)))))
 .nil))
noncomputable def xt_twist : List Str := ["_x", "_y", "_z", "xcoeffs", "ycoeffs", "zcoeffs", "nx", "ny", "nz"]
noncomputable def ir_twist : IS := (.cons (.unp false [2, 3, 4] (.va 0))
 (.cons (.asg false 5 (.lst (.ac (.bin .Sub (.idx (.attr (.va 2) .cs) (.int 0)) (.idx (.attr (.va 2) .cs) (.int 1))) (.ac (.idx (.attr (.va 2) .cs) (.int 1)) .an))))
 (.cons (.asg false 6 (.lst (.ac (.bin .Sub (.idx (.attr (.va 3) .cs) (.int 0)) (.idx (.attr (.va 3) .cs) (.int 1))) (.ac (.idx (.attr (.va 3) .cs) (.int 1)) .an))))
 (.cons (.asg false 7 (.lst (.ac (.bin .Sub (.idx (.attr (.va 4) .cs) (.int 0)) (.idx (.attr (.va 4) .cs) (.int 1))) (.ac (.idx (.attr (.va 4) .cs) (.int 1)) .an))))
 (.cons (.asg false 8 (.meth (.va 1) .made (.ac (.bin .Add (.bin .Add (.bin .Add (.bin .Add (.lst (.ac (.int 0) .an)) (.lst (.ac (.idx (.va 5) (.int 0)) .an))) (.bin .Mult (.lst (.ac (.int 0) .an)) (.int 5))) (.lst (.ac (.idx (.va 5) (.int 1)) .an))) (.bin .Mult (.lst (.ac (.int 0) .an)) (.int 4))) .an)))
 (.cons (.asg false 9 (.meth (.va 1) .made (.ac (.bin .Add (.bin .Add (.bin .Add (.lst (.ac (.idx (.va 6) (.int 0)) .an)) (.bin .Mult (.lst (.ac (.int 0) .an)) (.int 5))) (.lst (.ac (.idx (.va 6) (.int 1)) .an))) (.bin .Mult (.lst (.ac (.int 0) .an)) (.int 5))) .an)))
 (.cons (.asg false 10 (.meth (.va 1) .made (.ac (.bin .Add (.bin .Add (.bin .Add (.bin .Add (.bin .Mult (.lst (.ac (.int 0) .an)) (.int 3)) (.lst (.ac (.idx (.va 7) (.int 0)) .an))) (.bin .Mult (.lst (.ac (.int 0) .an)) (.int 5))) (.lst (.ac (.idx (.va 7) (.int 1)) .an))) (.bin .Mult (.lst (.ac (.int 0) .an)) (.int 2))) .an)))
 (.cons (.ret (.tup (.ac (.va 8) (.ac (.va 9) (.ac (.va 10) .an)))))
 .nil))))))))
noncomputable def ir_pIsInf : IS := (.cons (.ret (.cmp .Is (.va 0) .none))
 .nil)
noncomputable def xt_pOnC : List Str := ["x", "y"]
noncomputable def ir_pOnC : IS := (.cons (.ite (.or (.call .pIsInf (.ac (.va 0) .an)) (.cmp .Is (.va 0) .none)) (.cons (.ret (.bool true))
 .nil) .nil)
 (.cons (.unp false [2, 3] (.va 0))
 (.cons (.ret (.cmp .Eq (.bin .Sub (.bin .Pow (.va 3) (.int 2)) (.bin .Pow (.va 2) (.int 3))) (.va 1)))
 .nil)))
noncomputable def xt_pDbl : List Str := ["x", "y", "m", "newx", "newy"]
noncomputable def ir_pDbl : IS := (.cons (.ite (.or (.call .pIsInf (.ac (.va 0) .an)) (.cmp .Is (.va 0) .none)) (.cons (.ret (.va 0))
 .nil) .nil)
 (.cons (.unp false [1, 2] (.va 0))
 (.cons (.asg false 3 (.bin .Div (.bin .Mult (.int 3) (.bin .Pow (.va 1) (.int 2))) (.bin .Mult (.int 2) (.va 2))))
 (.cons (.asg false 4 (.bin .Sub (.bin .Pow (.va 3) (.int 2)) (.bin .Mult (.int 2) (.va 1))))
 (.cons (.asg false 5 (.bin .Sub (.bin .Add (.bin .Mult (.neg (.va 3)) (.va 4)) (.bin .Mult (.va 3) (.va 1))) (.va 2)))
 (.cons (.ret (.tup (.ac (.va 4) (.ac (.va 5) .an))))
 .nil))))))
noncomputable def xt_pAdd : List Str := ["x1", "y1", "x2", "y2", "m", "newx", "newy"]
noncomputable def ir_pAdd : IS := (.cons (.ite (.or (.cmp .Is (.va 0) .none) (.cmp .Is (.va 1) .none)) (.cons (.ret (.ite (.cmp .Is (.va 1) .none) (.va 0) (.va 1)))
 .nil) .nil)
 (.cons (.unp false [2, 3] (.va 0))
 (.cons (.unp false [4, 5] (.va 1))
 (.cons (.ite (.and (.cmp .Eq (.va 4) (.va 2)) (.cmp .Eq (.va 5) (.va 3))) (.cons (.ret (.call .pDbl (.ac (.va 0) .an)))
 .nil) (.cons (.ite (.cmp .Eq (.va 4) (.va 2)) (.cons (.ret .none)
 .nil) (.cons (.asg false 6 (.bin .Div (.bin .Sub (.va 5) (.va 3)) (.bin .Sub (.va 4) (.va 2))))
 .nil))
 .nil))
 (.cons (.asg false 7 (.bin .Sub (.bin .Sub (.bin .Pow (.va 6) (.int 2)) (.va 2)) (.va 4)))
 (.cons (.asg false 8 (.bin .Sub (.bin .Add (.bin .Mult (.neg (.va 6)) (.va 7)) (.bin .Mult (.va 6) (.va 2))) (.va 3)))
 (.cons (.ite (.not (.cmp .Eq (.va 8) (.bin .Sub (.bin .Add (.bin .Mult (.neg (.va 6)) (.va 7)) (.bin .Mult (.va 6) (.va 4))) (.va 5)))) (.cons .fail
 .nil) .nil)
 (.cons (.ret (.tup (.ac (.va 7) (.ac (.va 8) .an))))
 .nil))))))))
noncomputable def ir_pMul : IS := (.cons (.ite (.cmp .Eq (.va 1) (.int 0)) (.cons (.ret .none)
 .nil) (.cons (.ite (.cmp .Eq (.va 1) (.int 1)) (.cons (.ret (.va 0))
 .nil) (.cons (.ite (.not (.bin .Mod (.va 1) (.int 2))) (.cons (.ret (.call .pMul (.ac (.call .pDbl (.ac (.va 0) .an)) (.ac (.bin .FloorDiv (.va 1) (.int 2)) .an))))
 .nil) (.cons (.ret (.call .pAdd (.ac (.call .pMul (.ac (.call .pDbl (.ac (.va 0) .an)) (.ac (.bi .int (.bin .FloorDiv (.va 1) (.int 2))) .an))) (.ac (.va 0) .an))))
 .nil))
 .nil))
 .nil))
 .nil)
noncomputable def ir_pEq : IS := (.cons (.ret (.cmp .Eq (.va 0) (.va 1)))
 .nil)
noncomputable def xt_pNeg : List Str := ["x", "y"]
noncomputable def ir_pNeg : IS := (.cons (.ite (.cmp .Is (.va 0) .none) (.cons (.ret .none)
 .nil) .nil)
 (.cons (.unp false [1, 2] (.va 0))
 (.cons (.ret (.tup (.ac (.va 1) (.ac (.neg (.va 2)) .an))))
 .nil)))
noncomputable def xt_pfi : List Str := ["lm", "hm", "low", "high", "r", "nm", "new"]
noncomputable def ir_pfi : IS := (.cons (.aug 0 .Mod (.va 1))
 (.cons (.ite (.cmp .Eq (.va 0) (.int 0)) (.cons (.ret (.int 0))
 .nil) .nil)
 (.cons (.unp false [2, 3] (.tup (.ac (.int 1) (.ac (.int 0) .an))))
 (.cons (.unp false [4, 5] (.tup (.ac (.bin .Mod (.va 0) (.va 1)) (.ac (.va 1) .an))))
 (.cons (.whileI (.cmp .Gt (.va 4) (.int 1)) (.cons (.asg false 6 (.bin .FloorDiv (.va 5) (.va 4)))
 (.cons (.unp false [7, 8] (.tup (.ac (.bin .Sub (.va 3) (.bin .Mult (.va 2) (.va 6))) (.ac (.bin .Sub (.va 5) (.bin .Mult (.va 4) (.va 6))) .an))))
 (.cons (.unp false [2, 4, 3, 5] (.tup (.ac (.va 7) (.ac (.va 8) (.ac (.va 2) (.ac (.va 4) .an))))))
 .nil))))
 (.cons (.ret (.bin .Mod (.va 2) (.va 1)))
 .nil))))))
noncomputable def xt_deg : List Str := ["d"]
noncomputable def ir_deg : IS := (.cons (.asg false 1 (.bin .Sub (.bi .len (.va 0)) (.int 1)))
 (.cons (.while_ 24 (.and (.cmp .Eq (.idx (.va 0) (.va 1)) (.int 0)) (.va 1)) (.cons (.aug 1 .Sub (.int 1))
 .nil))
 (.cons (.ret (.va 1))
 .nil)))
noncomputable def xt_prd : List Str := ["dega", "degb", "temp", "o", "i", "c"]
noncomputable def ir_prd : IS := (.cons (.asg false 2 (.call .deg (.ac (.va 0) .an)))
 (.cons (.asg false 3 (.call .deg (.ac (.va 1) .an)))
 (.cons (.asgO 4 (.comp [] ["x"] [8] (.va 0) .none (.va 8)))
 (.cons (.asgO 5 (.comp [] ["x"] [8] (.va 0) .none (.int 0)))
 (.cons (.for_ [6] (.rng3 (.bin .Sub (.va 2) (.va 3)) (.neg (.int 1)) (.neg (.int 1))) (.cons (.augIdx 5 .Add (.va 6) (.bi .int (.bin .Div (.idx (.va 4) (.bin .Add (.va 3) (.va 6))) (.idx (.va 1) (.va 3)))))
 (.cons (.for_ [7] (.rng1 (.bin .Add (.va 3) (.int 1))) (.cons (.augIdx 4 .Sub (.bin .Add (.va 7) (.va 6)) (.idx (.va 5) (.va 7)))
 .nil))
 .nil)))
 (.cons (.ret (.tupOf (.upto (.va 5) (.bin .Add (.call .deg (.ac (.va 5) .an)) (.int 1)))))
 .nil))))))
noncomputable def xt_qAdd : List Str := ["on"]
noncomputable def ir_qAdd : IS := (.cons (.ite (.isi (.va 1) [.cls .fq]) (.cons (.asg false 2 (.attr (.va 1) .n))
 .nil) (.cons (.ite (.isi (.va 1) [.int]) (.cons (.asg false 2 (.va 1))
 .nil) (.cons .fail
 .nil))
 .nil))
 (.cons (.ret (.meth (.va 0) .made (.ac (.bin .Mod (.bin .Add (.attr (.va 0) .n) (.va 2)) (.attr (.va 0) .fm)) .an)))
 .nil))
noncomputable def xt_qMul : List Str := ["on"]
noncomputable def ir_qMul : IS := (.cons (.ite (.isi (.va 1) [.cls .fq]) (.cons (.asg false 2 (.attr (.va 1) .n))
 .nil) (.cons (.ite (.isi (.va 1) [.int]) (.cons (.asg false 2 (.va 1))
 .nil) (.cons .fail
 .nil))
 .nil))
 (.cons (.ret (.meth (.va 0) .made (.ac (.bin .Mod (.bin .Mult (.attr (.va 0) .n) (.va 2)) (.attr (.va 0) .fm)) .an)))
 .nil))
noncomputable def ir_qRmul : IS := (.cons (.ret (.bin .Mult (.va 0) (.va 1)))
 .nil)
noncomputable def xt_qRsub : List Str := ["on"]
noncomputable def ir_qRsub : IS := (.cons (.ite (.isi (.va 1) [.cls .fq]) (.cons (.asg false 2 (.attr (.va 1) .n))
 .nil) (.cons (.ite (.isi (.va 1) [.int]) (.cons (.asg false 2 (.va 1))
 .nil) (.cons .fail
 .nil))
 .nil))
 (.cons (.ret (.meth (.va 0) .made (.ac (.bin .Mod (.bin .Sub (.va 2) (.attr (.va 0) .n)) (.attr (.va 0) .fm)) .an)))
 .nil))
noncomputable def xt_qSub : List Str := ["on"]
noncomputable def ir_qSub : IS := (.cons (.ite (.isi (.va 1) [.cls .fq]) (.cons (.asg false 2 (.attr (.va 1) .n))
 .nil) (.cons (.ite (.isi (.va 1) [.int]) (.cons (.asg false 2 (.va 1))
 .nil) (.cons .fail
 .nil))
 .nil))
 (.cons (.ret (.meth (.va 0) .made (.ac (.bin .Mod (.bin .Sub (.attr (.va 0) .n) (.va 2)) (.attr (.va 0) .fm)) .an)))
 .nil))
noncomputable def xt_qDiv : List Str := ["on"]
noncomputable def ir_qDiv : IS := (.cons (.ite (.isi (.va 1) [.cls .fq]) (.cons (.asg false 2 (.attr (.va 1) .n))
 .nil) (.cons (.ite (.isi (.va 1) [.int]) (.cons (.asg false 2 (.va 1))
 .nil) (.cons .fail
 .nil))
 .nil))
 (.cons (.ret (.meth (.va 0) .made (.ac (.bin .Mod (.bin .Mult (.attr (.va 0) .n) (.call .pfi (.ac (.va 2) (.ac (.attr (.va 0) .fm) .an)))) (.attr (.va 0) .fm)) .an)))
 .nil))
noncomputable def xt_qRdiv : List Str := ["on"]
noncomputable def ir_qRdiv : IS := (.cons (.ite (.isi (.va 1) [.cls .fq]) (.cons (.asg false 2 (.attr (.va 1) .n))
 .nil) (.cons (.ite (.isi (.va 1) [.int]) (.cons (.asg false 2 (.va 1))
 .nil) (.cons .fail
 .nil))
 .nil))
 (.cons (.ret (.meth (.va 0) .made (.ac (.bin .Mod (.bin .Mult (.call .pfi (.ac (.attr (.va 0) .n) (.ac (.attr (.va 0) .fm) .an))) (.va 2)) (.attr (.va 0) .fm)) .an)))
 .nil))
noncomputable def ir_qEq : IS := (.cons (.ite (.isi (.va 1) [.cls .fq]) (.cons (.ret (.cmp .Eq (.attr (.va 0) .n) (.attr (.va 1) .n)))
 .nil) (.cons (.ite (.isi (.va 1) [.int]) (.cons (.ret (.cmp .Eq (.attr (.va 0) .n) (.va 1)))
 .nil) (.cons .fail
 .nil))
 .nil))
 .nil)
noncomputable def ir_qNe : IS := (.cons (.ret (.not (.cmp .Eq (.va 0) (.va 1))))
 .nil)
noncomputable def ir_qNeg : IS := (.cons (.ret (.meth (.va 0) .made (.ac (.neg (.attr (.va 0) .n)) .an)))
 .nil)
noncomputable def ir_qInt : IS := (.cons (.ret (.attr (.va 0) .n))
 .nil)
noncomputable def ir_qMade : IS := (.cons (.ret (.call .cFQ (.ac (.va 1) (.ac (.attr (.va 0) .fm) .an))))
 .nil)
noncomputable def ir_fMade : IS := (.cons (.ret (.call .cFP (.ac (.va 1) (.ac (.attr (.va 0) .mcs) (.ac (.attr (.va 0) .fm) .an)))))
 .nil)
noncomputable def ir_fFqc : IS := (.cons (.ret (.call .cFQ (.ac (.va 1) (.ac (.attr (.va 0) .fm) .an))))
 .nil)
noncomputable def ir_fAdd : IS := (.cons (.ite (.not (.isi (.va 1) [.cls .fp])) (.cons .fail
 .nil) .nil)
 (.cons (.ret (.meth (.va 0) .made (.ac (.comp [] ["x", "y"] [2, 3] (.zip (.attr (.va 0) .cs) (.attr (.va 1) .cs)) .none (.bin .Add (.va 2) (.va 3))) .an)))
 .nil))
noncomputable def ir_fSub : IS := (.cons (.ite (.not (.isi (.va 1) [.cls .fp])) (.cons .fail
 .nil) .nil)
 (.cons (.ret (.meth (.va 0) .made (.ac (.comp [] ["x", "y"] [2, 3] (.zip (.attr (.va 0) .cs) (.attr (.va 1) .cs)) .none (.bin .Sub (.va 2) (.va 3))) .an)))
 .nil))
noncomputable def xt_fMul : List Str := ["b", "i", "j", "exp", "top"]
noncomputable def ir_fMul : IS := (.cons (.ite (.isi (.va 1) [.int, .cls .fq]) (.cons (.ret (.meth (.va 0) .made (.ac (.comp [1] ["c"] [7] (.attr (.va 0) .cs) .none (.bin .Mult (.va 7) (.va 1))) .an)))
 .nil) (.cons (.ite (.isi (.va 1) [.cls .fp]) (.cons (.asgO 2 (.comp [0] ["i"] [7] (.rng1 (.bin .Sub (.bin .Mult (.attr (.va 0) .deg) (.int 2)) (.int 1))) .none (.meth (.va 0) .fqc (.ac (.int 0) .an))))
 (.cons (.for_ [3] (.rng1 (.attr (.va 0) .deg)) (.cons (.for_ [4] (.rng1 (.attr (.va 0) .deg)) (.cons (.augIdx 2 .Add (.bin .Add (.va 3) (.va 4)) (.bin .Mult (.idx (.attr (.va 0) .cs) (.va 3)) (.idx (.attr (.va 1) .cs) (.va 4))))
 .nil))
 .nil))
 (.cons (.while_ 4 (.cmp .Gt (.bi .len (.va 2)) (.attr (.va 0) .deg)) (.cons (.pop2 5 (.bin .Sub (.bin .Sub (.bi .len (.va 2)) (.attr (.va 0) .deg)) (.int 1)) 6 2)
 (.cons (.for_ [3] (.rng1 (.attr (.va 0) .deg)) (.cons (.augIdx 2 .Sub (.bin .Add (.va 5) (.va 3)) (.bin .Mult (.va 6) (.meth (.va 0) .fqc (.ac (.idx (.attr (.va 0) .mcs) (.va 3)) .an))))
 .nil))
 .nil)))
 (.cons (.ret (.meth (.va 0) .made (.ac (.va 2) .an)))
 .nil)))) (.cons .fail
 .nil))
 .nil))
 .nil)
noncomputable def ir_fRmul : IS := (.cons (.ret (.bin .Mult (.va 0) (.va 1)))
 .nil)
noncomputable def ir_fDiv : IS := (.cons (.ite (.isi (.va 1) [.int, .cls .fq]) (.cons (.ret (.meth (.va 0) .made (.ac (.comp [1] ["c"] [2] (.attr (.va 0) .cs) .none (.ite (.isi (.va 2) [.cls .fq]) (.bin .Div (.va 2) (.va 1)) (.bin .FloorDiv (.va 2) (.bi .int (.va 1))))) .an)))
 .nil) (.cons (.ite (.isi (.va 1) [.cls .fp]) (.cons (.ret (.bin .Mult (.va 0) (.meth (.va 1) .inv .an)))
 .nil) (.cons .fail
 .nil))
 .nil))
 .nil)
noncomputable def ir_fPow : IS := (.cons (.ite (.cmp .Eq (.va 1) (.int 0)) (.cons (.ret (.meth (.va 0) .made (.ac (.bin .Add (.lst (.ac (.int 1) .an)) (.bin .Mult (.lst (.ac (.int 0) .an)) (.bin .Sub (.attr (.va 0) .deg) (.int 1)))) .an)))
 .nil) (.cons (.ite (.cmp .Eq (.va 1) (.int 1)) (.cons (.ret (.meth (.va 0) .made (.ac (.attr (.va 0) .cs) .an)))
 .nil) (.cons (.ite (.cmp .Eq (.bin .Mod (.va 1) (.int 2)) (.int 0)) (.cons (.ret (.bin .Pow (.bin .Mult (.va 0) (.va 0)) (.bin .FloorDiv (.va 1) (.int 2))))
 .nil) (.cons (.ret (.bin .Mult (.bin .Pow (.bin .Mult (.va 0) (.va 0)) (.bi .int (.bin .FloorDiv (.va 1) (.int 2)))) (.va 0)))
 .nil))
 .nil))
 .nil))
 .nil)
noncomputable def xt_fInv : List Str := ["lm", "hm", "low", "high", "r", "nm", "new", "i", "j"]
noncomputable def ir_fInv : IS := (.cons (.unp false [1, 2] (.tup (.ac (.bin .Add (.lst (.ac (.int 1) .an)) (.bin .Mult (.lst (.ac (.int 0) .an)) (.attr (.va 0) .deg))) (.ac (.bin .Mult (.lst (.ac (.int 0) .an)) (.bin .Add (.attr (.va 0) .deg) (.int 1))) .an))))
 (.cons (.unp false [3, 4] (.tup (.ac (.listOf (.bin .Add (.attr (.va 0) .cs) (.tup (.ac (.int 0) .an)))) (.ac (.listOf (.bin .Add (.attr (.va 0) .mcs) (.tup (.ac (.int 1) .an)))) .an))))
 (.cons (.while_ 4 (.call .deg (.ac (.va 3) .an)) (.cons (.asgO 5 (.listOf (.call .prd (.ac (.va 4) (.ac (.va 3) .an)))))
 (.cons (.ext 5 (.bin .Mult (.lst (.ac (.int 0) .an)) (.bin .Sub (.bin .Add (.attr (.va 0) .deg) (.int 1)) (.bi .len (.va 5)))))
 (.cons (.asgO 6 (.comp [] ["x"] [10] (.va 2) .none (.va 10)))
 (.cons (.asgO 7 (.comp [] ["x"] [10] (.va 4) .none (.va 10)))
 (.cons (.ite (.cmp .NotEq (.bi .len (.va 1)) (.bin .Add (.attr (.va 0) .deg) (.int 1))) (.cons .fail
 .nil) (.cons (.ite (.cmp .NotEq (.bi .len (.va 2)) (.bin .Add (.attr (.va 0) .deg) (.int 1))) (.cons .fail
 .nil) (.cons (.ite (.cmp .NotEq (.bi .len (.va 6)) (.bin .Add (.attr (.va 0) .deg) (.int 1))) (.cons .fail
 .nil) (.cons (.ite (.cmp .NotEq (.bi .len (.va 3)) (.bin .Add (.attr (.va 0) .deg) (.int 1))) (.cons .fail
 .nil) (.cons (.ite (.cmp .NotEq (.bi .len (.va 4)) (.bin .Add (.attr (.va 0) .deg) (.int 1))) (.cons .fail
 .nil) (.cons (.ite (.cmp .NotEq (.bi .len (.va 7)) (.bin .Add (.attr (.va 0) .deg) (.int 1))) (.cons .fail
 .nil) .nil)
 .nil))
 .nil))
 .nil))
 .nil))
 .nil))
 (.cons (.for_ [8] (.rng1 (.bin .Add (.attr (.va 0) .deg) (.int 1))) (.cons (.for_ [9] (.rng1 (.bin .Sub (.bin .Add (.attr (.va 0) .deg) (.int 1)) (.va 8))) (.cons (.augIdx 6 .Sub (.bin .Add (.va 8) (.va 9)) (.bin .Mult (.idx (.va 1) (.va 8)) (.bi .int (.idx (.va 5) (.va 9)))))
 (.cons (.augIdx 7 .Sub (.bin .Add (.va 8) (.va 9)) (.bin .Mult (.idx (.va 3) (.va 8)) (.bi .int (.idx (.va 5) (.va 9)))))
 .nil)))
 .nil))
 (.cons .frz
 (.cons (.unp false [1, 3, 2, 4] (.tup (.ac (.va 6) (.ac (.va 7) (.ac (.va 1) (.ac (.va 3) .an))))))
 .nil)))))))))
 (.cons (.ret (.bin .Div (.meth (.va 0) .made (.ac (.upto (.va 1) (.attr (.va 0) .deg)) .an)) (.bi .int (.idx (.va 3) (.int 0)))))
 .nil))))
noncomputable def xt_fEq : List Str := ["c1", "c2"]
noncomputable def ir_fEq : IS := (.cons (.ite (.not (.isi (.va 1) [.cls .fp])) (.cons .fail
 .nil) .nil)
 (.cons (.for_ [2, 3] (.zip (.attr (.va 0) .cs) (.attr (.va 1) .cs)) (.cons (.ite (.cmp .NotEq (.va 2) (.va 3)) (.cons (.ret (.bool false))
 .nil) .nil)
 .nil))
 (.cons (.ret (.bool true))
 .nil)))
noncomputable def ir_fNe : IS := (.cons (.ret (.not (.cmp .Eq (.va 0) (.va 1))))
 .nil)
noncomputable def ir_fNeg : IS := (.cons (.ret (.meth (.va 0) .made (.ac (.comp [] ["c"] [1] (.attr (.va 0) .cs) .none (.neg (.va 1))) .an)))
 .nil)
noncomputable def ir_oMade : IS := (.cons (.ret (.call .cOPT (.ac (.va 1) (.ac (.attr (.va 0) .mcs) (.ac (.attr (.va 0) .fm) .an)))))
 .nil)
noncomputable def ir_oAdd : IS := (.cons (.ite (.not (.isi (.va 1) [.cls .opt])) (.cons .fail
 .nil) .nil)
 (.cons (.ret (.meth (.va 0) .made (.ac (.comp [0] ["x", "y"] [2, 3] (.zip (.attr (.va 0) .cs) (.attr (.va 1) .cs)) .none (.bin .Mod (.bi .int (.bin .Add (.va 2) (.va 3))) (.attr (.va 0) .fm))) .an)))
 .nil))
noncomputable def ir_oSub : IS := (.cons (.ite (.not (.isi (.va 1) [.cls .opt])) (.cons .fail
 .nil) .nil)
 (.cons (.ret (.meth (.va 0) .made (.ac (.comp [0] ["x", "y"] [2, 3] (.zip (.attr (.va 0) .cs) (.attr (.va 1) .cs)) .none (.bin .Mod (.bi .int (.bin .Sub (.va 2) (.va 3))) (.attr (.va 0) .fm))) .an)))
 .nil))
noncomputable def xt_oMul : List Str := ["b", "inner_enumerate", "i", "eli", "j", "elj", "exp", "top", "c"]
noncomputable def ir_oMul : IS := (.cons (.ite (.isi (.va 1) [.int]) (.cons (.ret (.meth (.va 0) .made (.ac (.comp [0, 1] ["c"] [11] (.attr (.va 0) .cs) .none (.bin .Mod (.bin .Mult (.bi .int (.va 11)) (.va 1)) (.attr (.va 0) .fm))) .an)))
 .nil) (.cons (.ite (.isi (.va 1) [.cls .opt]) (.cons (.asgO 2 (.bin .Mult (.lst (.ac (.int 0) .an)) (.bin .Sub (.bin .Mult (.attr (.va 0) .deg) (.int 2)) (.int 1))))
 (.cons (.asg false 3 (.listEnum (.attr (.va 1) .cs)))
 (.cons (.for_ [4, 5] (.enum (.attr (.va 0) .cs)) (.cons (.for_ [6, 7] (.va 3) (.cons (.augIdx 2 .Add (.bin .Add (.va 4) (.va 6)) (.bi .int (.bin .Mult (.va 5) (.va 7))))
 .nil))
 .nil))
 (.cons (.for_ [8] (.rng3 (.bin .Sub (.attr (.va 0) .deg) (.int 2)) (.neg (.int 1)) (.neg (.int 1))) (.cons (.pop 9 2)
 (.cons (.for_ [4, 10] (.attr (.va 0) .mct) (.cons (.augIdx 2 .Sub (.bin .Add (.va 8) (.va 4)) (.bin .Mult (.va 9) (.va 10)))
 .nil))
 .nil)))
 (.cons (.ret (.meth (.va 0) .made (.ac (.comp [0] ["x"] [11] (.va 2) .none (.bin .Mod (.va 11) (.attr (.va 0) .fm))) .an)))
 .nil))))) (.cons .fail
 .nil))
 .nil))
 .nil)
noncomputable def ir_oRmul : IS := (.cons (.ret (.bin .Mult (.va 0) (.va 1)))
 .nil)
noncomputable def ir_oDiv : IS := (.cons (.ite (.isi (.va 1) [.int]) (.cons (.ret (.meth (.va 0) .made (.ac (.comp [0, 1] ["c"] [2] (.attr (.va 0) .cs) .none (.bin .Mod (.bin .Mult (.bi .int (.va 2)) (.call .pfi (.ac (.va 1) (.ac (.attr (.va 0) .fm) .an)))) (.attr (.va 0) .fm))) .an)))
 .nil) (.cons (.ite (.isi (.va 1) [.cls .opt]) (.cons (.ret (.bin .Mult (.va 0) (.meth (.va 1) .inv .an)))
 .nil) (.cons .fail
 .nil))
 .nil))
 .nil)
noncomputable def xt_oPow : List Str := ["o", "t"]
noncomputable def ir_oPow : IS := (.cons (.asg false 2 (.meth (.va 0) .made (.ac (.bin .Add (.lst (.ac (.int 1) .an)) (.bin .Mult (.lst (.ac (.int 0) .an)) (.bin .Sub (.attr (.va 0) .deg) (.int 1)))) .an)))
 (.cons (.asg false 3 (.va 0))
 (.cons (.while_ 3 (.cmp .Gt (.va 1) (.int 0)) (.cons (.ite (.bin .BitAnd (.va 1) (.int 1)) (.cons (.asg false 2 (.bin .Mult (.va 2) (.va 3)))
 .nil) .nil)
 (.cons (.aug 1 .RShift (.int 1))
 (.cons (.asg false 3 (.bin .Mult (.va 3) (.va 3)))
 .nil))))
 (.cons (.ret (.va 2))
 .nil))))
noncomputable def xt_oOprd : List Str := ["dega", "degb", "temp", "o", "i", "c"]
noncomputable def ir_oOprd : IS := (.cons (.asg false 3 (.call .deg (.ac (.va 1) .an)))
 (.cons (.asg false 4 (.call .deg (.ac (.va 2) .an)))
 (.cons (.asgO 5 (.comp [] ["x"] [9] (.va 1) .none (.va 9)))
 (.cons (.asgO 6 (.comp [] ["x"] [9] (.va 1) .none (.int 0)))
 (.cons (.for_ [7] (.rng3 (.bin .Sub (.va 3) (.va 4)) (.neg (.int 1)) (.neg (.int 1))) (.cons (.setIdx 6 (.va 7) (.bi .int (.bin .Add (.idx (.va 6) (.va 7)) (.bin .Mult (.idx (.va 5) (.bin .Add (.va 4) (.va 7))) (.call .pfi (.ac (.bi .int (.idx (.va 2) (.va 4))) (.ac (.attr (.va 0) .fm) .an)))))))
 (.cons (.for_ [8] (.rng1 (.bin .Add (.va 4) (.int 1))) (.cons (.setIdx 5 (.bin .Add (.va 8) (.va 7)) (.bin .Sub (.idx (.va 5) (.bin .Add (.va 8) (.va 7))) (.idx (.va 6) (.va 8))))
 .nil))
 .nil)))
 (.cons (.ret (.comp [0] ["x"] [9] (.upto (.va 6) (.bin .Add (.call .deg (.ac (.va 6) .an)) (.int 1))) .none (.bin .Mod (.va 9) (.attr (.va 0) .fm))))
 .nil))))))
noncomputable def xt_oInv : List Str := ["lm", "hm", "low", "high", "r", "nm", "new", "i", "j"]
noncomputable def ir_oInv : IS := (.cons (.unp false [1, 2] (.tup (.ac (.bin .Add (.lst (.ac (.int 1) .an)) (.bin .Mult (.lst (.ac (.int 0) .an)) (.attr (.va 0) .deg))) (.ac (.bin .Mult (.lst (.ac (.int 0) .an)) (.bin .Add (.attr (.va 0) .deg) (.int 1))) .an))))
 (.cons (.unp false [3, 4] (.tup (.ac (.listOf (.bin .Add (.attr (.va 0) .cs) (.tup (.ac (.int 0) .an)))) (.ac (.listOf (.bin .Add (.attr (.va 0) .mcs) (.tup (.ac (.int 1) .an)))) .an))))
 (.cons (.while_ 4 (.call .deg (.ac (.va 3) .an)) (.cons (.asgO 5 (.listOf (.meth (.va 0) .oprd (.ac (.va 4) (.ac (.va 3) .an)))))
 (.cons (.ext 5 (.bin .Mult (.lst (.ac (.int 0) .an)) (.bin .Sub (.bin .Add (.attr (.va 0) .deg) (.int 1)) (.bi .len (.va 5)))))
 (.cons (.asgO 6 (.comp [] ["x"] [10] (.va 2) .none (.va 10)))
 (.cons (.asgO 7 (.comp [] ["x"] [10] (.va 4) .none (.va 10)))
 (.cons (.for_ [8] (.rng1 (.bin .Add (.attr (.va 0) .deg) (.int 1))) (.cons (.for_ [9] (.rng1 (.bin .Sub (.bin .Add (.attr (.va 0) .deg) (.int 1)) (.va 8))) (.cons (.augIdx 6 .Sub (.bin .Add (.va 8) (.va 9)) (.bin .Mult (.idx (.va 1) (.va 8)) (.bi .int (.idx (.va 5) (.va 9)))))
 (.cons (.augIdx 7 .Sub (.bin .Add (.va 8) (.va 9)) (.bin .Mult (.idx (.va 3) (.va 8)) (.idx (.va 5) (.va 9))))
 .nil)))
 .nil))
 (.cons (.asgO 6 (.comp [0] ["x"] [10] (.va 6) .none (.bin .Mod (.va 10) (.attr (.va 0) .fm))))
 (.cons (.asgO 7 (.comp [0] ["x"] [10] (.va 7) .none (.bin .Mod (.bi .int (.va 10)) (.attr (.va 0) .fm))))
 (.cons .frz
 (.cons (.unp false [1, 3, 2, 4] (.tup (.ac (.va 6) (.ac (.va 7) (.ac (.va 1) (.ac (.va 3) .an))))))
 .nil))))))))))
 (.cons (.ret (.bin .Div (.meth (.va 0) .made (.ac (.upto (.va 1) (.attr (.va 0) .deg)) .an)) (.bi .int (.idx (.va 3) (.int 0)))))
 .nil))))
noncomputable def xt_oEq : List Str := ["c1", "c2"]
noncomputable def ir_oEq : IS := (.cons (.ite (.not (.isi (.va 1) [.cls .opt])) (.cons .fail
 .nil) .nil)
 (.cons (.for_ [2, 3] (.zip (.attr (.va 0) .cs) (.attr (.va 1) .cs)) (.cons (.ite (.cmp .NotEq (.va 2) (.va 3)) (.cons (.ret (.bool false))
 .nil) .nil)
 .nil))
 (.cons (.ret (.bool true))
 .nil)))
noncomputable def ir_oNe : IS := (.cons (.ret (.not (.cmp .Eq (.va 0) (.va 1))))
 .nil)
noncomputable def ir_oNeg : IS := (.cons (.ret (.meth (.va 0) .made (.ac (.comp [] ["c"] [1] (.attr (.va 0) .cs) .none (.neg (.va 1))) .an)))
 .nil)
noncomputable def ir_oOne : IS := (.cons (.ret (.meth (.va 0) .made (.ac (.bin .Add (.lst (.ac (.int 1) .an)) (.bin .Mult (.lst (.ac (.int 0) .an)) (.bin .Sub (.attr (.va 0) .deg) (.int 1)))) .an)))
 .nil)
noncomputable def ir_oZero : IS := (.cons (.ret (.meth (.va 0) .made (.ac (.bin .Mult (.lst (.ac (.int 0) .an)) (.attr (.va 0) .deg)) .an)))
 .nil)
noncomputable def ir_tMade : IS := (.cons (.ret (.call .cFQ2 (.ac (.va 1) (.ac (.attr (.va 0) .mcs) (.ac (.attr (.va 0) .fm) .an)))))
 .nil)
noncomputable def ir_isInf2 : IS := (.cons (.ret (.cmp .Eq (.idx (.va 0) (.neg (.int 1))) (.meth (.idx (.va 0) (.neg (.int 1))) .zero .an)))
 .nil)
noncomputable def xt_onC2 : List Str := ["x", "y", "z"]
noncomputable def ir_onC2 : IS := irf_onC .isInf2
noncomputable def xt_dbl2 : List Str := ["x", "y", "z", "W", "S", "B", "H", "S_squared", "newx", "newy", "newz"]
noncomputable def ir_dbl2 : IS := (.cons (.unp false [1, 2, 3] (.va 0))
 (.cons (.asg false 4 (.bin .Mult (.bin .Mult (.int 3) (.va 1)) (.va 1)))
 (.cons (.asg false 5 (.bin .Mult (.va 2) (.va 3)))
 (.cons (.asg false 6 (.bin .Mult (.bin .Mult (.va 1) (.va 2)) (.va 5)))
 (.cons (.asg false 7 (.bin .Sub (.bin .Mult (.va 4) (.va 4)) (.bin .Mult (.int 8) (.va 6))))
 (.cons (.asg false 8 (.bin .Mult (.va 5) (.va 5)))
 (.cons (.asg false 9 (.bin .Mult (.bin .Mult (.int 2) (.va 7)) (.va 5)))
 (.cons (.asg false 10 (.bin .Sub (.bin .Mult (.va 4) (.bin .Sub (.bin .Mult (.int 4) (.va 6)) (.va 7))) (.bin .Mult (.bin .Mult (.bin .Mult (.int 8) (.va 2)) (.va 2)) (.va 8))))
 (.cons (.asg false 11 (.bin .Mult (.bin .Mult (.int 8) (.va 5)) (.va 8)))
 (.cons (.ret (.tup (.ac (.va 9) (.ac (.va 10) (.ac (.va 11) .an)))))
 .nil))))))))))
noncomputable def xt_add2 : List Str := ["one", "zero", "x1", "y1", "z1", "x2", "y2", "z2", "U1", "U2", "V1", "V2", "U", "V", "V_squared", "V_squared_times_V2", "V_cubed", "W", "A", "newx", "newy", "newz"]
noncomputable def ir_add2 : IS := irf_add .dbl2
noncomputable def ir_mul2 : IS := irf_mul .mul2 .dbl2 .add2
noncomputable def xt_eq2 : List Str := ["x1", "y1", "z1", "x2", "y2", "z2"]
noncomputable def ir_eq2 : IS := (.cons (.unp false [2, 3, 4] (.va 0))
 (.cons (.unp false [5, 6, 7] (.va 1))
 (.cons (.ret (.and (.cmp .Eq (.bin .Mult (.va 2) (.va 7)) (.bin .Mult (.va 5) (.va 4))) (.cmp .Eq (.bin .Mult (.va 3) (.va 7)) (.bin .Mult (.va 6) (.va 4)))))
 .nil)))
noncomputable def xt_norm2 : List Str := ["x", "y", "z"]
noncomputable def ir_norm2 : IS := (.cons (.unp false [1, 2, 3] (.va 0))
 (.cons (.ret (.tup (.ac (.bin .Div (.va 1) (.va 3)) (.ac (.bin .Div (.va 2) (.va 3)) .an))))
 .nil))
noncomputable def xt_neg2 : List Str := ["x", "y", "z"]
noncomputable def ir_neg2 : IS := (.cons (.unp false [1, 2, 3] (.va 0))
 (.cons (.ret (.tup (.ac (.va 1) (.ac (.neg (.va 2)) (.ac (.va 3) .an)))))
 .nil))
noncomputable def ir_lPrimes : IS := (.cons (.ret (.lst (.ac (.int 7) (.ac (.int 11) (.ac (.int 19) (.ac (.int 23) (.ac (.int 31) (.ac (.int 43) (.ac (.int 59) (.ac (.int 67) (.ac (.int 103) (.ac (.int 127) (.ac (.int 211) (.ac (.int 251) .an))))))))))))))
 .nil)
noncomputable def ir_lTimes : IS := (.cons (.ret (.tup (.ac (.bin .Mod (.bin .Sub (.bin .Mult (.idx (.va 0) (.int 0)) (.idx (.va 1) (.int 0))) (.bin .Mult (.idx (.va 0) (.int 1)) (.idx (.va 1) (.int 1)))) (.va 2)) (.ac (.bin .Mod (.bin .Add (.bin .Mult (.idx (.va 0) (.int 0)) (.idx (.va 1) (.int 1))) (.bin .Mult (.idx (.va 0) (.int 1)) (.idx (.va 1) (.int 0)))) (.va 2)) .an))))
 .nil)
noncomputable def ir_lLess : IS := (.cons (.ret (.tup (.ac (.bin .Mod (.bin .Sub (.idx (.va 0) (.int 0)) (.idx (.va 1) (.int 0))) (.va 2)) (.ac (.bin .Mod (.bin .Sub (.idx (.va 0) (.int 1)) (.idx (.va 1) (.int 1))) (.va 2)) .an))))
 .nil)
noncomputable def xt_lOver : List Str := ["norm"]
noncomputable def ir_lOver : IS := (.cons (.asg false 3 (.pow3 (.bin .Add (.bin .Mult (.idx (.va 1) (.int 0)) (.idx (.va 1) (.int 0))) (.bin .Mult (.idx (.va 1) (.int 1)) (.idx (.va 1) (.int 1)))) (.bin .Sub (.va 2) (.int 2)) (.va 2)))
 (.cons (.ret (.call .lTimes (.ac (.va 0) (.ac (.tup (.ac (.bin .Mod (.bin .Mult (.idx (.va 1) (.int 0)) (.va 3)) (.va 2)) (.ac (.bin .Mod (.bin .Mult (.neg (.idx (.va 1) (.int 1))) (.va 3)) (.va 2)) .an))) (.ac (.va 2) .an)))))
 .nil))
noncomputable def xt_lRoot : List Str := ["norm", "half", "sign", "part", "first", "second"]
noncomputable def ir_lRoot : IS := (.cons (.asg false 2 (.bin .Mod (.bin .Add (.bin .Mult (.idx (.va 0) (.int 0)) (.idx (.va 0) (.int 0))) (.bin .Mult (.idx (.va 0) (.int 1)) (.idx (.va 0) (.int 1)))) (.va 1)))
 (.cons (.asg false 3 (.pow3 (.va 2) (.bin .FloorDiv (.bin .Add (.va 1) (.int 1)) (.int 4)) (.va 1)))
 (.cons (.ite (.cmp .NotEq (.bin .Mod (.bin .Mult (.va 3) (.va 3)) (.va 1)) (.va 2)) (.cons (.ret .none)
 .nil) .nil)
 (.cons (.for_ [4] (.tup (.ac (.int 1) (.ac (.neg (.int 1)) .an))) (.cons (.asg false 5 (.bin .Mod (.bin .Mult (.bin .Add (.idx (.va 0) (.int 0)) (.bin .Mult (.va 4) (.va 3))) (.bin .FloorDiv (.bin .Add (.va 1) (.int 1)) (.int 2))) (.va 1)))
 (.cons (.asg false 6 (.pow3 (.va 5) (.bin .FloorDiv (.bin .Add (.va 1) (.int 1)) (.int 4)) (.va 1)))
 (.cons (.ite (.cmp .Eq (.bin .Mod (.bin .Mult (.va 6) (.va 6)) (.va 1)) (.va 5)) (.cons (.ite (.cmp .Eq (.va 6) (.int 0)) (.cons (.asg false 7 (.pow3 (.bin .Mod (.neg (.idx (.va 0) (.int 0))) (.va 1)) (.bin .FloorDiv (.bin .Add (.va 1) (.int 1)) (.int 4)) (.va 1)))
 .nil) (.cons (.asg false 7 (.bin .Mod (.bin .Mult (.idx (.va 0) (.int 1)) (.pow3 (.bin .Mult (.int 2) (.va 6)) (.bin .Sub (.va 1) (.int 2)) (.va 1))) (.va 1)))
 .nil))
 (.cons (.ite (.cmp .Eq (.call .lTimes (.ac (.tup (.ac (.va 6) (.ac (.va 7) .an))) (.ac (.tup (.ac (.va 6) (.ac (.va 7) .an))) (.ac (.va 1) .an)))) (.tup (.ac (.bin .Mod (.idx (.va 0) (.int 0)) (.va 1)) (.ac (.bin .Mod (.idx (.va 0) (.int 1)) (.va 1)) .an)))) (.cons (.ret (.tup (.ac (.va 6) (.ac (.va 7) .an))))
 .nil) .nil)
 .nil)) .nil)
 .nil))))
 (.cons (.ret .none)
 .nil)))))
noncomputable def xt_lAdd : List Str := ["square", "slope", "x"]
noncomputable def ir_lAdd : IS := (.cons (.ite (.or (.cmp .Is (.va 0) .none) (.cmp .Is (.va 1) .none)) (.cons (.ret (.ite (.cmp .Is (.va 0) .none) (.va 1) (.va 0)))
 .nil) .nil)
 (.cons (.ite (.cmp .Eq (.idx (.va 0) (.int 0)) (.idx (.va 1) (.int 0))) (.cons (.ite (.or (.cmp .NotEq (.idx (.va 0) (.int 1)) (.idx (.va 1) (.int 1))) (.cmp .Eq (.idx (.va 0) (.int 1)) (.tup (.ac (.int 0) (.ac (.int 0) .an))))) (.cons (.ret .none)
 .nil) .nil)
 (.cons (.asg false 3 (.call .lTimes (.ac (.idx (.va 0) (.int 0)) (.ac (.idx (.va 0) (.int 0)) (.ac (.va 2) .an)))))
 (.cons (.asg false 4 (.call .lOver (.ac (.tup (.ac (.bin .Mod (.bin .Mult (.int 3) (.idx (.va 3) (.int 0))) (.va 2)) (.ac (.bin .Mod (.bin .Mult (.int 3) (.idx (.va 3) (.int 1))) (.va 2)) .an))) (.ac (.tup (.ac (.bin .Mod (.bin .Mult (.int 2) (.idx (.idx (.va 0) (.int 1)) (.int 0))) (.va 2)) (.ac (.bin .Mod (.bin .Mult (.int 2) (.idx (.idx (.va 0) (.int 1)) (.int 1))) (.va 2)) .an))) (.ac (.va 2) .an)))))
 .nil))) (.cons (.asg false 4 (.call .lOver (.ac (.call .lLess (.ac (.idx (.va 1) (.int 1)) (.ac (.idx (.va 0) (.int 1)) (.ac (.va 2) .an)))) (.ac (.call .lLess (.ac (.idx (.va 1) (.int 0)) (.ac (.idx (.va 0) (.int 0)) (.ac (.va 2) .an)))) (.ac (.va 2) .an)))))
 .nil))
 (.cons (.asg false 5 (.call .lLess (.ac (.call .lLess (.ac (.call .lTimes (.ac (.va 4) (.ac (.va 4) (.ac (.va 2) .an)))) (.ac (.idx (.va 0) (.int 0)) (.ac (.va 2) .an)))) (.ac (.idx (.va 1) (.int 0)) (.ac (.va 2) .an)))))
 (.cons (.ret (.tup (.ac (.va 5) (.ac (.call .lLess (.ac (.call .lTimes (.ac (.va 4) (.ac (.call .lLess (.ac (.idx (.va 0) (.int 0)) (.ac (.va 5) (.ac (.va 2) .an)))) (.ac (.va 2) .an)))) (.ac (.idx (.va 0) (.int 1)) (.ac (.va 2) .an)))) .an))))
 .nil))))
noncomputable def ir_lNeg : IS := (.cons (.ret (.ite (.cmp .Is (.va 0) .none) .none (.tup (.ac (.idx (.va 0) (.int 0)) (.ac (.call .lLess (.ac (.tup (.ac (.int 0) (.ac (.int 0) .an))) (.ac (.idx (.va 0) (.int 1)) (.ac (.va 1) .an)))) .an)))))
 .nil)
noncomputable def xt_lMult : List Str := ["found", "turn"]
noncomputable def ir_lMult : IS := (.cons (.asg false 3 .none)
 (.cons (.forI [4] (.rng1 (.va 1)) (.cons (.asg false 3 (.call .lAdd (.ac (.va 3) (.ac (.va 0) (.ac (.va 2) .an)))))
 .nil))
 (.cons (.ret (.va 3))
 .nil)))
noncomputable def xt_lCube : List Str := ["cube"]
noncomputable def ir_lCube : IS := (.cons (.asg false 3 (.call .lTimes (.ac (.va 0) (.ac (.call .lTimes (.ac (.va 0) (.ac (.va 0) (.ac (.va 2) .an)))) (.ac (.va 2) .an)))))
 (.cons (.ret (.tup (.ac (.bin .Mod (.bin .Add (.idx (.va 3) (.int 0)) (.idx (.va 1) (.int 0))) (.va 2)) (.ac (.bin .Mod (.bin .Add (.idx (.va 3) (.int 1)) (.idx (.va 1) (.int 1))) (.va 2)) .an))))
 .nil))
noncomputable def xt_lPoint : List Str := ["x", "turn", "y"]
noncomputable def ir_lPoint : IS := (.cons (.asg false 3 (.tup (.ac (.bin .Mod (.bin .FloorDiv (.va 0) (.int 16)) (.va 2)) (.ac (.bin .Mod (.bin .FloorDiv (.bin .FloorDiv (.va 0) (.int 16)) (.va 2)) (.va 2)) .an))))
 (.cons (.forI [4] (.rng1 (.int 40)) (.cons (.asg false 5 (.call .lRoot (.ac (.call .lCube (.ac (.va 3) (.ac (.va 1) (.ac (.va 2) .an)))) (.ac (.va 2) .an))))
 (.cons (.ite (.and (.cmp .IsNot (.va 5) .none) (.cmp .NotEq (.va 5) (.tup (.ac (.int 0) (.ac (.int 0) .an))))) (.cons (.ret (.tup (.ac (.va 3) (.ac (.ite (.cmp .Eq (.bin .Mod (.va 0) (.int 2)) (.int 1)) (.call .lLess (.ac (.tup (.ac (.int 0) (.ac (.int 0) .an))) (.ac (.va 5) (.ac (.va 2) .an)))) (.va 5)) .an))))
 .nil) .nil)
 (.cons (.asg false 3 (.tup (.ac (.bin .Mod (.bin .Add (.idx (.va 3) (.int 0)) (.int 1)) (.va 2)) (.ac (.bin .Mod (.bin .Add (.idx (.va 3) (.int 1)) (.int 2)) (.va 2)) .an))))
 .nil))))
 (.cons (.ret .none)
 .nil)))
noncomputable def xt_lForm : List Str := ["row"]
noncomputable def ir_lForm : IS := (.cons (.ite (.cmp .Is (.va 0) .none) (.cons (.ret (.tup (.ac (.call .cFQ2 (.ac (.va 1) (.ac (.tup (.ac (.int 1) (.ac (.int 0) .an))) (.ac (.va 2) .an)))) (.ac (.call .cFQ2 (.ac (.tup (.ac (.int 1) (.ac (.int 0) .an))) (.ac (.tup (.ac (.int 1) (.ac (.int 0) .an))) (.ac (.va 2) .an)))) (.ac (.call .cFQ2 (.ac (.tup (.ac (.int 0) (.ac (.int 0) .an))) (.ac (.tup (.ac (.int 1) (.ac (.int 0) .an))) (.ac (.va 2) .an)))) .an)))))
 .nil) .nil)
 (.cons (.asg false 3 (.lst (.ac (.call .lTimes (.ac (.idx (.va 0) (.int 0)) (.ac (.va 1) (.ac (.va 2) .an)))) (.ac (.call .lTimes (.ac (.idx (.va 0) (.int 1)) (.ac (.va 1) (.ac (.va 2) .an)))) (.ac (.va 1) .an)))))
 (.cons (.ret (.tupOf (.comp [2] ["pair"] [4] (.va 3) .none (.call .cFQ2 (.ac (.va 4) (.ac (.tup (.ac (.int 1) (.ac (.int 0) .an))) (.ac (.va 2) .an)))))))
 .nil)))
noncomputable def ir_lPair : IS := (.cons (.ret (.tup (.ac (.bi .int (.idx (.attr (.va 0) .cs) (.int 0))) (.ac (.bi .int (.idx (.attr (.va 0) .cs) (.int 1))) .an))))
 .nil)
noncomputable def xt_lRead : List Str := ["x", "y", "z"]
noncomputable def ir_lRead : IS := (.cons (.ite (.or (.not (.isi (.va 0) [.tuple])) (.cmp .NotEq (.bi .len (.va 0)) (.int 3))) (.cons .fail
 .nil) .nil)
 (.cons (.unp false [2, 3, 4] (.comp [] ["part"] [5] (.va 0) .none (.call .lPair (.ac (.va 5) .an))))
 (.cons (.ret (.ite (.cmp .Eq (.va 4) (.tup (.ac (.int 0) (.ac (.int 0) .an)))) .none (.tup (.ac (.call .lOver (.ac (.va 2) (.ac (.va 4) (.ac (.va 1) .an)))) (.ac (.call .lOver (.ac (.va 3) (.ac (.va 4) (.ac (.va 1) .an)))) .an)))))
 .nil)))
noncomputable def ir_lPlain : IS := (.cons (.ite (.cmp .Is (.va 0) .none) (.cons (.ret .none)
 .nil) .nil)
 (.cons (.ret (.tup (.ac (.call .cFP (.ac (.idx (.va 0) (.int 0)) (.ac (.tup (.ac (.int 1) (.ac (.int 0) .an))) (.ac (.va 1) .an)))) (.ac (.call .cFP (.ac (.idx (.va 0) (.int 1)) (.ac (.tup (.ac (.int 1) (.ac (.int 0) .an))) (.ac (.va 1) .an)))) .an))))
 .nil))
noncomputable def ir_lPlainRead : IS := (.cons (.ret (.ite (.cmp .Is (.va 0) .none) (.va 0) (.tup (.ac (.call .lPair (.ac (.idx (.va 0) (.int 0)) .an)) (.ac (.call .lPair (.ac (.idx (.va 0) (.int 1)) .an)) .an)))))
 .nil)
noncomputable def ir_lTells : IS := (.cons (.ret (.ite (.va 1) (.cmp .Is (.va 0) (.bool true)) (.cmp .Is (.va 0) (.bool false))))
 .nil)
noncomputable def xt_lOpt : List Str := ["first", "second", "b", "told", "said", "quotients", "due", "there", "on", "truth"]
noncomputable def ir_lOpt : IS := (.cons (.unp false [7, 8] (.tup (.ac (.call .lForm (.ac (.idx (.va 1) (.int 0)) (.ac (.idx (.va 3) (.int 0)) (.ac (.va 6) .an)))) (.ac (.call .lForm (.ac (.idx (.va 1) (.int 1)) (.ac (.idx (.va 3) (.int 1)) (.ac (.va 6) .an)))) .an))))
 (.cons (.asg false 9 (.call .cFQ2 (.ac (.va 2) (.ac (.tup (.ac (.int 1) (.ac (.int 0) .an))) (.ac (.va 6) .an)))))
 (.cons (.ite (.cmp .Eq (.va 0) (.int 0)) (.cons (.asg false 10 (.lst (.ac (.call .add (.ac (.va 7) (.ac (.va 8) .an))) (.ac (.call .dbl (.ac (.va 7) .an)) (.ac (.call .neg (.ac (.va 7) .an)) (.ac (.call .mul (.ac (.va 8) (.ac (.va 5) .an))) .an))))))
 (.cons (.asg false 11 (.lst (.ac (.call .isInf (.ac (.va 7) .an)) (.ac (.call .isInf (.ac (.va 4) .an)) (.ac (.call .onC (.ac (.va 4) (.ac (.va 9) .an))) (.ac (.call .onC (.ac (.idx (.va 10) (.int 0)) (.ac (.va 9) .an))) (.ac (.call .eq (.ac (.va 7) (.ac (.va 8) .an))) (.ac (.call .eq (.ac (.va 7) (.ac (.va 4) .an))) (.ac (.call .eq (.ac (.idx (.va 10) (.int 2)) (.ac (.va 7) .an))) .an)))))))))
 (.cons (.asg false 12 (.call .norm (.ac (.va 7) .an)))
 .nil))) (.cons (.asg false 10 (.lst (.ac (.call .add2 (.ac (.va 7) (.ac (.va 8) .an))) (.ac (.call .dbl2 (.ac (.va 7) .an)) (.ac (.call .neg2 (.ac (.va 7) .an)) (.ac (.call .mul2 (.ac (.va 8) (.ac (.va 5) .an))) .an))))))
 (.cons (.asg false 11 (.lst (.ac (.call .isInf2 (.ac (.va 7) .an)) (.ac (.call .isInf2 (.ac (.va 4) .an)) (.ac (.call .onC2 (.ac (.va 4) (.ac (.va 9) .an))) (.ac (.call .onC2 (.ac (.idx (.va 10) (.int 0)) (.ac (.va 9) .an))) .an))))))
 (.cons (.asg false 11 (.bin .Add (.va 11) (.lst (.ac (.call .eq2 (.ac (.va 7) (.ac (.va 8) .an))) (.ac (.call .eq2 (.ac (.va 7) (.ac (.va 4) .an))) (.ac (.call .eq2 (.ac (.idx (.va 10) (.int 2)) (.ac (.va 7) .an))) .an))))))
 (.cons (.asg false 12 (.call .norm2 (.ac (.va 7) .an)))
 .nil)))))
 (.cons (.asg false 13 (.lst (.ac (.call .lAdd (.ac (.idx (.va 1) (.int 0)) (.ac (.idx (.va 1) (.int 1)) (.ac (.va 6) .an)))) (.ac (.call .lAdd (.ac (.idx (.va 1) (.int 0)) (.ac (.idx (.va 1) (.int 0)) (.ac (.va 6) .an)))) (.ac (.call .lNeg (.ac (.idx (.va 1) (.int 0)) (.ac (.va 6) .an))) (.ac (.call .lMult (.ac (.idx (.va 1) (.int 1)) (.ac (.va 5) (.ac (.va 6) .an)))) .an))))))
 (.cons (.ite (.cmp .NotEq (.comp [6] ["form"] [17] (.va 10) .none (.call .lRead (.ac (.va 17) (.ac (.va 6) .an)))) (.va 13)) (.cons (.ret (.bool false))
 .nil) .nil)
 (.cons (.asg false 14 (.call .lRead (.ac (.va 4) (.ac (.va 6) .an))))
 (.cons (.asg false 15 (.or (.cmp .Is (.va 14) .none) (.cmp .Eq (.call .lCube (.ac (.idx (.va 14) (.int 0)) (.ac (.va 2) (.ac (.va 6) .an)))) (.call .lTimes (.ac (.idx (.va 14) (.int 1)) (.ac (.idx (.va 14) (.int 1)) (.ac (.va 6) .an)))))))
 (.cons (.asg false 16 (.lst (.ac (.bool false) (.ac (.cmp .Is (.va 14) .none) (.ac (.va 15) (.ac (.bool true) (.ac (.cmp .Eq (.idx (.va 1) (.int 0)) (.idx (.va 1) (.int 1))) (.ac (.cmp .Eq (.idx (.va 1) (.int 0)) (.va 14)) (.ac (.bool false) .an)))))))))
 (.cons (.ite (.cmp .NotEq (.comp [11, 16] ["k"] [17] (.rng1 (.int 7)) (.not (.call .lTells (.ac (.idx (.va 11) (.va 17)) (.ac (.idx (.va 16) (.va 17)) .an)))) (.va 17)) (.lst .an)) (.cons (.ret (.bool false))
 .nil) .nil)
 (.cons (.ret (.cmp .Eq (.comp [] ["part"] [17] (.va 12) .none (.call .lPair (.ac (.va 17) .an))) (.lst (.ac (.idx (.idx (.va 1) (.int 0)) (.int 0)) (.ac (.idx (.idx (.va 1) (.int 0)) (.int 1)) .an)))))
 .nil))))))))))
noncomputable def xt_lPlainRight : List Str := ["first", "second", "point", "told", "due", "b", "other", "said", "truth"]
noncomputable def ir_lPlainRight : IS := (.cons (.unp false [4, 5] (.tup (.ac (.call .lPlain (.ac (.idx (.va 0) (.int 0)) (.ac (.va 3) .an))) (.ac (.call .lPlain (.ac (.idx (.va 0) (.int 1)) (.ac (.va 3) .an))) .an))))
 (.cons (.for_ [6] (.lst (.ac (.idx (.va 0) (.int 1)) (.ac (.call .lAdd (.ac (.idx (.va 0) (.int 1)) (.ac (.idx (.va 0) (.int 1)) (.ac (.va 3) .an)))) .an))) (.cons (.ite (.and (.cmp .IsNot (.va 6) .none) (.cmp .Eq (.idx (.va 6) (.int 1)) (.tup (.ac (.int 0) (.ac (.int 0) .an))))) (.cons (.asg false 2 (.bin .Mod (.va 2) (.int 2)))
 .nil) .nil)
 .nil))
 (.cons (.asg false 7 (.lst (.ac (.call .pAdd (.ac (.va 4) (.ac (.va 5) .an))) (.ac (.call .pDbl (.ac (.va 4) .an)) (.ac (.call .pNeg (.ac (.va 4) .an)) (.ac (.call .pMul (.ac (.va 5) (.ac (.va 2) .an))) .an))))))
 (.cons (.asg false 8 (.lst (.ac (.call .lAdd (.ac (.idx (.va 0) (.int 0)) (.ac (.idx (.va 0) (.int 1)) (.ac (.va 3) .an)))) (.ac (.call .lAdd (.ac (.idx (.va 0) (.int 0)) (.ac (.idx (.va 0) (.int 0)) (.ac (.va 3) .an)))) (.ac (.call .lNeg (.ac (.idx (.va 0) (.int 0)) (.ac (.va 3) .an))) (.ac (.call .lMult (.ac (.idx (.va 0) (.int 1)) (.ac (.va 2) (.ac (.va 3) .an)))) .an))))))
 (.cons (.ite (.cmp .NotEq (.comp [] ["point"] [13] (.va 7) .none (.call .lPlainRead (.ac (.va 13) .an))) (.va 8)) (.cons (.ret (.bool false))
 .nil) .nil)
 (.cons (.asg false 9 (.call .cFP (.ac (.va 1) (.ac (.tup (.ac (.int 1) (.ac (.int 0) .an))) (.ac (.va 3) .an)))))
 (.cons (.asg false 10 (.tup (.ac (.idx (.va 4) (.int 0)) (.ac (.bin .Add (.idx (.va 4) (.int 1)) (.idx (.va 4) (.int 1))) .an))))
 (.cons (.asg false 11 (.lst (.ac (.call .pIsInf (.ac (.va 4) .an)) (.ac (.call .pIsInf (.ac .none .an)) (.ac (.call .pOnC (.ac (.va 4) (.ac (.va 9) .an))) (.ac (.call .pOnC (.ac (.va 10) (.ac (.va 9) .an))) (.ac (.call .pEq (.ac (.va 4) (.ac (.va 4) .an))) (.ac (.call .pEq (.ac (.va 4) (.ac (.idx (.va 7) (.int 2)) .an))) .an))))))))
 (.cons (.asg false 12 (.lst (.ac (.bool false) (.ac (.bool true) (.ac (.bool true) (.ac (.bool false) (.ac (.bool true) (.ac (.bool false) .an))))))))
 (.cons (.ret (.cmp .Eq (.comp [11, 12] ["k"] [13] (.rng1 (.int 6)) (.not (.call .lTells (.ac (.idx (.va 11) (.va 13)) (.ac (.idx (.va 12) (.va 13)) .an)))) (.va 13)) (.lst .an)))
 .nil))))))))))
noncomputable def xt_lTwisted : List Str := ["twelve", "here", "there", "total", "found"]
noncomputable def ir_lTwisted : IS := (.cons (.asg false 2 (.call .cOPT (.ac (.bin .Mult (.lst (.ac (.int 0) .an)) (.int 12)) (.ac (.tup (.ac (.int 2) (.ac (.int 0) (.ac (.int 0) (.ac (.int 0) (.ac (.int 0) (.ac (.int 0) (.ac (.neg (.int 2)) (.ac (.int 0) (.ac (.int 0) (.ac (.int 0) (.ac (.int 0) (.ac (.int 0) .an))))))))))))) (.ac (.va 1) .an)))))
 (.cons (.unp false [3, 4] (.tup (.ac (.call .twist (.ac (.call .lForm (.ac (.idx (.va 0) (.int 0)) (.ac (.tup (.ac (.int 1) (.ac (.int 0) .an))) (.ac (.va 1) .an)))) (.ac (.va 2) .an))) (.ac (.call .twist (.ac (.call .lForm (.ac (.idx (.va 0) (.int 1)) (.ac (.tup (.ac (.int 1) (.ac (.int 0) .an))) (.ac (.va 1) .an)))) (.ac (.va 2) .an))) .an))))
 (.cons (.asg false 5 (.call .lAdd (.ac (.idx (.va 0) (.int 0)) (.ac (.idx (.va 0) (.int 1)) (.ac (.va 1) .an)))))
 (.cons (.asg false 6 (.call .add (.ac (.va 3) (.ac (.va 4) .an))))
 (.cons (.ite (.or (.not (.call .lTells (.ac (.call .isInf (.ac (.va 3) .an)) (.ac (.bool false) .an)))) (.not (.call .lTells (.ac (.call .isInf (.ac (.va 6) .an)) (.ac (.cmp .Is (.va 5) .none) .an))))) (.cons (.ret (.bool false))
 .nil) .nil)
 (.cons (.ret (.or (.cmp .Is (.va 5) .none) (.call .lTells (.ac (.call .eq (.ac (.va 6) (.ac (.call .twist (.ac (.call .lForm (.ac (.va 5) (.ac (.tup (.ac (.int 1) (.ac (.int 0) .an))) (.ac (.va 1) .an)))) (.ac (.va 2) .an))) .an))) (.ac (.bool true) .an)))))
 .nil))))))
noncomputable def xt_law : List Str := ["given", "p", "c", "first", "second", "scales", "row", "strange"]
noncomputable def ir_law : IS := (.cons (.asg false 1 (.comp [0] ["k"] [9] (.rng1 (.int 15)) .none (.ite (.cmp .Lt (.va 9) (.bi .len (.va 0))) (.bi .abs (.idx (.va 0) (.va 9))) (.bin .Add (.bin .Mult (.int 9) (.va 9)) (.int 7)))))
 (.cons (.asg false 2 (.idx (.call .lPrimes .an) (.bin .Mod (.idx (.va 1) (.int 0)) (.int 12))))
 (.cons (.asg false 3 (.tup (.ac (.bin .Mod (.idx (.va 1) (.int 1)) (.va 2)) (.ac (.bin .Mod (.idx (.va 1) (.int 2)) (.va 2)) .an))))
 (.cons (.ite (.cmp .Eq (.va 3) (.tup (.ac (.int 0) (.ac (.int 0) .an)))) (.cons (.asg false 3 (.tup (.ac (.int 1) (.ac (.int 1) .an))))
 .nil) .nil)
 (.cons (.asg false 4 (.call .lPoint (.ac (.idx (.va 1) (.int 3)) (.ac (.va 3) (.ac (.va 2) .an)))))
 (.cons (.ite (.cmp .Is (.va 4) .none) (.cons (.ret (.bool true))
 .nil) .nil)
 (.cons (.asg false 5 (.call .lPoint (.ac (.idx (.va 1) (.int 4)) (.ac (.va 3) (.ac (.va 2) .an)))))
 (.cons (.ite (.cmp .Lt (.bin .Mod (.idx (.va 1) (.int 5)) (.int 8)) (.int 4)) (.cons (.asg false 5 (.idx (.lst (.ac (.va 4) (.ac (.call .lNeg (.ac (.va 4) (.ac (.va 2) .an))) (.ac (.call .lAdd (.ac (.va 4) (.ac (.va 4) (.ac (.va 2) .an)))) (.ac .none .an))))) (.bin .Mod (.idx (.va 1) (.int 5)) (.int 8))))
 .nil) .nil)
 (.cons (.ite (.cmp .Eq (.bin .Mod (.idx (.va 1) (.int 6)) (.int 4)) (.int 3)) (.cons (.ret (.or (.cmp .Is (.va 5) .none) (.call .lTwisted (.ac (.lst (.ac (.va 4) (.ac (.va 5) .an))) (.ac (.va 2) .an)))))
 .nil) .nil)
 (.cons (.ite (.cmp .Eq (.bin .Mod (.idx (.va 1) (.int 6)) (.int 4)) (.int 2)) (.cons (.ret (.call .lPlainRight (.ac (.lst (.ac (.va 4) (.ac (.va 5) .an))) (.ac (.va 3) (.ac (.bin .Mod (.idx (.va 1) (.int 7)) (.int 4)) (.ac (.va 2) .an))))))
 .nil) .nil)
 (.cons (.asg false 6 (.comp [] ["pair"] [9] (.lst (.ac (.tup (.ac (.bin .Mod (.idx (.va 1) (.int 8)) (.va 2)) (.ac (.bin .Mod (.idx (.va 1) (.int 9)) (.va 2)) .an))) (.ac (.tup (.ac (.bin .Mod (.idx (.va 1) (.int 10)) (.va 2)) (.ac (.bin .Mod (.idx (.va 1) (.int 11)) (.va 2)) .an))) .an))) .none (.ite (.cmp .NotEq (.va 9) (.tup (.ac (.int 0) (.ac (.int 0) .an)))) (.va 9) (.tup (.ac (.int 1) (.ac (.int 0) .an))))))
 (.cons (.asgO 7 (.lst (.ac (.tup (.ac (.bin .Mod (.idx (.va 1) (.int 12)) (.va 2)) (.ac (.bin .Mod (.idx (.va 1) (.int 13)) (.va 2)) .an))) (.ac (.tup (.ac (.bin .Mod (.idx (.va 1) (.int 13)) (.va 2)) (.ac (.bin .Mod (.idx (.va 1) (.int 14)) (.va 2)) .an))) (.ac (.tup (.ac (.bin .Mod (.bin .FloorDiv (.idx (.va 1) (.int 14)) (.int 5)) (.va 2)) (.ac (.bin .Mod (.bin .FloorDiv (.idx (.va 1) (.int 12)) (.int 7)) (.va 2)) .an))) .an)))))
 (.cons (.ite (.cmp .Eq (.bin .Mod (.idx (.va 1) (.int 14)) (.int 8)) (.int 3)) (.cons (.setIdx 7 (.int 2) (.tup (.ac (.int 0) (.ac (.int 0) .an))))
 .nil) .nil)
 (.cons (.ite (.cmp .Eq (.va 7) (.lst (.ac (.tup (.ac (.int 0) (.ac (.int 0) .an))) (.ac (.tup (.ac (.int 0) (.ac (.int 0) .an))) (.ac (.tup (.ac (.int 0) (.ac (.int 0) .an))) .an))))) (.cons (.setIdx 7 (.int 1) (.tup (.ac (.int 1) (.ac (.int 0) .an))))
 .nil) .nil)
 (.cons .frz
 (.cons (.asg false 8 (.tupOf (.comp [2] ["pair"] [9] (.va 7) .none (.call .cFQ2 (.ac (.va 9) (.ac (.tup (.ac (.int 1) (.ac (.int 0) .an))) (.ac (.va 2) .an)))))))
 (.cons (.ite (.cmp .Eq (.bin .Mod (.idx (.va 1) (.int 14)) (.int 8)) (.int 4)) (.cons (.asg false 8 (.call .lForm (.ac (.call .lAdd (.ac (.va 4) (.ac (.va 5) (.ac (.va 2) .an)))) (.ac (.idx (.va 6) (.int 1)) (.ac (.va 2) .an)))))
 .nil) .nil)
 (.cons (.ret (.call .lOpt (.ac (.bin .Mod (.idx (.va 1) (.int 6)) (.int 4)) (.ac (.lst (.ac (.va 4) (.ac (.va 5) .an))) (.ac (.va 3) (.ac (.va 6) (.ac (.va 8) (.ac (.bin .Mod (.idx (.va 1) (.int 7)) (.int 6)) (.ac (.va 2) .an)))))))))
 .nil))))))))))))))))))
abbrev ZM := Addr → Option Obj
noncomputable def Fld.str : Fld → Str | .n => "n" | .fm => "field_modulus" | .cs => "coeffs" | .mcs => "modulus_coeffs" | .deg => "degree" | .mct => "mc_tuples"
noncomputable def flds : V → Option (Cl × List (Fld × V))
 | .fq n p => some (.fq, [(.fm, .int p), (.n, .int n)])
 | .fp x p => some (.fp, [(.fm, .int p), (.cs, .tup [.fq x.a p, .fq x.b p]), (.mcs, .tup [.int 1, .int 0]), (.deg, .int 2)])
 | .e2 x p => some (.fq2, [(.fm, .int p), (.mct, .lst [.tup [.int 0, .int 1]]), (.cs, .tup [.int x.a, .int x.b]), (.mcs, .tup [.int 1, .int 0]), (.deg, .int 2)])
 | .e12 cs p => some (.opt, [(.fm, .int p), (.mct, .lst [.tup [.int 0, .int 2], .tup [.int 6, .int (-2)]]), (.cs, .tup (cs.map .int)),
   (.mcs, .tup [.int 2, .int 0, .int 0, .int 0, .int 0, .int 0, .int (-2), .int 0, .int 0, .int 0, .int 0, .int 0]), (.deg, .int 12)])
 | _ => none
mutual
inductive Rep (Z : ZM) : Value → V → Prop
 | none : Rep Z .none .none
 | bool (b : Bool) : Rep Z (.bool b) (.bool b)
 | int (i : Int) (t : Tok) : Rep Z (.int i t) (.int i)
 | tup {a : Addr} {o : Obj} {xs : List Value} {n : Nat} {vs : List V} (h : Z a = some o) (hc : o.cls = .type "tuple") (hd : o.data = .seq xs.toArray n) (hb : vs.length ≤ 64) (r : RepL Z xs vs) : Rep Z (.ref a) (.tup vs)
 | lst {a : Addr} {xs : List Value} {n : Nat} {vs : List V} (h : Z a = some (listOf xs.toArray n)) (hb : vs.length ≤ 64) (r : RepL Z xs vs) : Rep Z (.ref a) (.lst vs)
 | inst {V : V} {c : Cl} {fs : List (Fld × Mine.V)} {a dx : Addr} {es : List DictEntry} {n : Nat} (hf : flds V = some (c, fs)) (h : Z a = some (instObj c.addr dx)) (hd : Z dx = some (dictOf es n)) (r : RepF Z es fs) : Rep Z (.ref a) V
inductive RepL (Z : ZM) : List Value → List V → Prop
 | nil : RepL Z [] []
 | cons {v : Value} {x : V} {vs : List Value} {xs : List V} (h : Rep Z v x) (r : RepL Z vs xs) : RepL Z (v :: vs) (x :: xs)
inductive RepF (Z : ZM) : List DictEntry → List (Fld × V) → Prop
 | nil : RepF Z [] []
 | cons {hs : Int} {t : Tok} {v : Value} {f : Fld} {x : V} {es : List DictEntry} {fs : List (Fld × V)} (h : Rep Z v x) (r : RepF Z es fs) : RepF Z (⟨hs, .str f.str t, v⟩ :: es) ((f, x) :: fs)
end
noncomputable def ZLe (Z Z' : ZM) : Prop := ∀ b o, Z b = some o → Z' b = some o
theorem ZLe.refl (Z : ZM) : ZLe Z Z := fun J J e => e
theorem ZLe.trans {Z Z' Z'' : ZM} (a : ZLe Z Z') (b : ZLe Z' Z'') : ZLe Z Z'' := fun x o e => b x o (a x o e)
theorem Rep.mono {Z Z' : ZM} (le : ZLe Z Z') {v : Value} {x : V} (r : Rep Z v x) : Rep Z' v x :=
 Rep.rec (motive_1 := fun v x J => Rep Z' v x) (motive_2 := fun vs xs J => RepL Z' vs xs) (motive_3 := fun es fs J => RepF Z' es fs) .none .bool .int (fun h hc hd hb J r => .tup (le _ _ h) hc hd hb r) (fun h hb J r => .lst (le _ _ h) hb r)
  (fun hf h hd J r => .inst hf (le _ _ h) (le _ _ hd) r) .nil (fun J J h r => .cons h r) .nil (fun J J h r => .cons h r) r
@[elab_as_elim] theorem RepL.ind {Z : ZM} {P : List Value → List V → Prop} (nil : P [] []) (cons : ∀ {v x vs xs}, Rep Z v x → RepL Z vs xs → P vs xs → P (v :: vs) (x :: xs)) {vs : List Value} {xs : List V} (r : RepL Z vs xs) : P vs xs :=
 RepL.rec (motive_1 := fun J J J => True) (motive_2 := fun vs xs J => P vs xs) (motive_3 := fun J J J => True) trivial (fun J => trivial) (fun J J => trivial) (fun J J J J J J => trivial) (fun J J J J => trivial) (fun J J J J J => trivial) nil (fun h r J q => cons h r q) trivial (fun J J J J => trivial) r
@[elab_as_elim] theorem RepF.ind {Z : ZM} {P : List DictEntry → List (Fld × V) → Prop} (nil : P [] []) (cons : ∀ {hs t v f x es fs}, Rep Z v x → RepF Z es fs → P es fs → P (⟨hs, .str (Fld.str f) t, v⟩ :: es) ((f, x) :: fs)) {es : List DictEntry} {fs : List (Fld × V)} (r : RepF Z es fs) : P es fs :=
 RepF.rec (motive_1 := fun J J J => True) (motive_2 := fun J J J => True) (motive_3 := fun es fs J => P es fs) trivial (fun J => trivial) (fun J J => trivial) (fun J J J J J J => trivial) (fun J J J J => trivial) (fun J J J J J => trivial) trivial (fun J J J J => trivial) nil (fun h r J q => cons h r q) r
theorem RepL.mono {Z Z' : ZM} (le : ZLe Z Z') {vs : List Value} {xs : List V} (r : RepL Z vs xs) : RepL Z' vs xs := RepL.ind .nil (fun h J q => .cons (h.mono le) q) r
theorem RepF.mono {Z Z' : ZM} (le : ZLe Z Z') {es : List DictEntry} {fs : List (Fld × V)} (r : RepF Z es fs) : RepF Z' es fs := RepF.ind .nil (fun h J q => .cons (h.mono le) q) r
theorem RepL.length {Z : ZM} {vs : List Value} {xs : List V} (r : RepL Z vs xs) : vs.length = xs.length := RepL.ind rfl (fun J J q => congrArg (· + 1) q) r
noncomputable def RepI (Z : ZM) (v : Value) : V → Prop
 | .none => v = .none
 | .bool b => v = .bool b
 | .int i => ∃ t, v = .int i t
 | .tup xs => ∃ a o vs n, v = .ref a ∧ Z a = some o ∧ o.cls = .type "tuple" ∧ o.data = .seq (vs : List Value).toArray n ∧ xs.length ≤ 64 ∧ RepL Z vs xs
 | .lst xs => ∃ a vs n, v = .ref a ∧ Z a = some (listOf (vs : List Value).toArray n) ∧ xs.length ≤ 64 ∧ RepL Z vs xs
 | _ => True
theorem Rep.inv {Z : ZM} {v : Value} {x : V} (r : Rep Z v x) : RepI Z v x := by
 cases r with
 | none => exact rfl
 | bool b => exact rfl
 | int i t => exact ⟨t, rfl⟩
 | tup h hc hd hb r => exact ⟨_, _, _, _, rfl, h, hc, hd, hb, r⟩
 | lst h hb r => exact ⟨_, _, _, rfl, h, hb, r⟩
 | inst hf => cases x <;> first | exact trivial | exact nsm hf
theorem Rep.invF {Z : ZM} {v : Value} {x : V} {c : Cl} {fs : List (Fld × V)} (r : Rep Z v x) : flds x = some (c, fs) → ∃ a dx es n, v = .ref a ∧ Z a = some (instObj c.addr dx) ∧ Z dx = some (dictOf es n) ∧ RepF Z es fs := by
 cases r with
 | inst hf h1 h2 r => intro q; cases hf.symm.trans q; exact ⟨_, _, _, _, rfl, h1, h2, r⟩
 | _ => exact fun q => nsm q
theorem RepL.cons_inv {Z : ZM} {vs : List Value} {x : V} {xs : List V} (r : RepL Z vs (x :: xs)) : ∃ v us, vs = v :: us ∧ Rep Z v x ∧ RepL Z us xs := by
 cases r with
 | cons h r => exact ⟨_, _, rfl, h, r⟩
theorem RepL.get {Z : ZM} {vs : List Value} {xs : List V} {i : Nat} {x : V} (r : RepL Z vs xs) (e : xs[i]? = some x) : ∃ v, vs[i]? = some v ∧ Rep Z v x := by
 refine RepL.ind (P := fun vs xs => ∀ i : Nat, xs[i]? = some x → ∃ v, vs[i]? = some v ∧ Rep Z v x) (fun i e => ?_) (fun h J ih i e => ?_) r i e
 ·cases e
 ·cases i with
  | zero => cases e; exact ⟨_, rfl, h⟩
  | succ i => exact ih i e
theorem RepL.append {Z : ZM} {vs us : List Value} {xs ys : List V} (r : RepL Z vs xs) (q : RepL Z us ys) : RepL Z (vs ++ us) (xs ++ ys) := RepL.ind (P := fun vs xs => RepL Z (vs ++ us) (xs ++ ys)) q (fun h J ih => .cons h ih) r
theorem RepL.split {Z : ZM} {xs ys : List V} {vs : List Value} (h : RepL Z vs (xs ++ ys)) : ∃ us ws, vs = us ++ ws ∧ RepL Z us xs ∧ RepL Z ws ys := by
 induction xs generalizing vs with
 | nil => exact ⟨[], vs, rfl, .nil, h⟩
 | cons x xs ih =>
  obtain ⟨v, us, rfl, a, r⟩ := (RepL.cons_inv h)
  obtain ⟨us, ws, rfl, b, c⟩ := (ih r)
  exact ⟨v :: us, ws, rfl, .cons a b, c⟩
theorem RepL.take {Z : ZM} {vs : List Value} {xs : List V} (n : Nat) (r : RepL Z vs xs) : RepL Z (vs.take n) (xs.take n) := by
 refine RepL.ind (P := fun vs xs => ∀ n, RepL Z (vs.take n) (xs.take n)) (fun n => ?_) (fun h J ih n => ?_) r n
 ·cases n <;> exact .nil
 ·cases n with
  | zero => exact .nil
  | succ n => exact .cons h (ih n)
theorem RepL.rep {Z : ZM} {v : Value} {x : V} (h : Rep Z v x) (n : Nat) : RepL Z (List.replicate n v) (List.replicate n x) := by
 induction n with
 | zero => exact .nil
 | succ n ih => exact .cons h ih
theorem RepL.set {Z : ZM} {v : Value} {x : V} (h : Rep Z v x) {vs : List Value} {xs : List V} (n : Nat) (r : RepL Z vs xs) : RepL Z (vs.set n v) (setN xs n x) := by
 refine RepL.ind (P := fun vs xs => ∀ n, RepL Z (vs.set n v) (setN xs n x)) (fun n => ?_) (fun a r ih n => ?_) r n
 ·cases n <;> exact .nil
 ·cases n with
  | zero => exact .cons h r
  | succ n => exact .cons a (ih n)
noncomputable def isT (b : Addr) : Prop := b = 308 ∨ b = 422
noncomputable def tabOk (o : Obj) : Prop := ∃ ps : Array Value, o = { cls := .none, data := .fields ps } ∧ TriplesOk ps.toList
noncomputable def Evo (b : Addr) (o o' : Obj) : Prop := o' = o ∨ (isT b ∧ tabOk o ∧ tabOk o')
theorem Evo.trans {b : Addr} {o o' o'' : Obj} (x : Evo b o o') (y : Evo b o' o'') : Evo b o o'' := by
 rcases x with rfl | ⟨x1, x2, x3⟩
 ·exact y
 ·rcases y with rfl | ⟨y1, y2, y3⟩
  ·exact .inr ⟨x1, x2, x3⟩
  ·exact .inr ⟨x1, x2, y3⟩
noncomputable def KeepH (h h' : Heap) : Prop := ∀ b o, h.get? b = some o → ∃ o', h'.get? b = some o' ∧ Evo b o o'
noncomputable def isF : Data → Bool | .fields _ => true | _ => false
theorem Evo.eq {b : Addr} {o o' : Obj} (x : Evo b o o') (h : isF o.data = false) : o' = o := by
 rcases x with rfl | ⟨_, ⟨ps, hd, _⟩, _⟩
 ·rfl
 ·rw [hd] at h; cases h
theorem Evo.eqT {b : Addr} {o o' : Obj} (x : Evo b o o') (h : ¬ isT b) : o' = o := by
 rcases x with rfl | ⟨h1, _⟩
 ·rfl
 ·exact absurd h1 h
section
variable {h h' h'' : Heap}
theorem KeepH.of (k : ∀ b o, h.get? b = some o → h'.get? b = some o) : KeepH h h' := fun b o e => ⟨o, k b o e, .inl rfl⟩
theorem KeepH.refl : KeepH h h := .of fun J J e => e
theorem KeepH.trans (x : KeepH h h') (y : KeepH h' h'') : KeepH h h'' := fun b o e =>
 (x b o e).elim fun o' p => (y b o' p.1).elim fun o'' q => ⟨o'', q.1, p.2.trans q.2⟩
theorem KeepH.none (x : KeepH h h') {b : Addr} (e : h'.get? b = none) : h.get? b = none := by
 cases q : h.get? b with
 | none => rfl
 | some o => obtain ⟨o', e', _⟩ := x b o q; rw [e] at e'; cases e'
theorem KeepH.at (x : KeepH h h') {b : Addr} {o : Obj} (e : h.get? b = some o) (hd : isF o.data = false) : h'.get? b = some o := by
 obtain ⟨o', e', v⟩ := x b o e
 rw [v.eq hd] at e'; exact e'
theorem KeepH.atT (x : KeepH h h') {b : Addr} {o : Obj} (e : h.get? b = some o) (hd : ¬ isT b) : h'.get? b = some o := by
 obtain ⟨o', e', v⟩ := x b o e
 rw [v.eqT hd] at e'; exact e'
theorem KeepH.lst (x : KeepH h h') {b : Addr} {xs : Array Value} {n : Nat} (e : h.get? b = some (listOf xs n)) : h'.get? b = some (listOf xs n) := x.at e rfl
theorem KeepH.ns (x : KeepH h h') {a : Addr} {m : Str → Option Value} (n : h.Ns a m) : h'.Ns a m := by
 obtain ⟨o, es, ep, e, hd, r⟩ := (n)
 exact ⟨o, es, ep, x.at e (by rw [hd]; rfl), hd, r⟩
theorem KeepH.cell (x : KeepH h h') {a : Addr} {v : Option Value} (n : h.IsCell a v) : h'.IsCell a v := by
 obtain ⟨o, e, hd⟩ := n
 exact ⟨o, x.at e (by rw [hd]; rfl), hd⟩
theorem KeepH.nolim (x : KeepH h h') (n : h.NoLimit) : h'.NoLimit := by
 obtain ⟨m, hm, hn⟩ := n
 exact ⟨m, x.ns hm, hn⟩
end
structure Grow (Z : ZM) (s : Shared) (Z' : ZM) (s' : Shared) : Prop where
 keep : KeepH s.heap s'.heap
 le : ZLe Z Z'
 sub : ∀ b o, Z' b = some o → s'.heap.get? b = some o
 fresh : ∀ b o, Z' b = some o → Z b = some o ∨ s.heap.get? b = none
 bare : AllBare s.gens → AllBare s'.gens
 os : s'.os = s.os
theorem Grow.refl {Z : ZM} {s : Shared} (h : ∀ b o, Z b = some o → s.heap.get? b = some o) : Grow Z s Z s := ⟨.refl, .refl _, h, fun J J e => .inl e, id, rfl⟩
theorem Grow.trans {Z Z' Z'' : ZM} {s s' s'' : Shared} (a : Grow Z s Z' s') (b : Grow Z' s' Z'' s'') : Grow Z s Z'' s'' where
 keep := a.keep.trans b.keep
 le := a.le.trans b.le
 sub := b.sub
 fresh := fun x o e => by
  rcases b.fresh x o e with h | h
  ·exact a.fresh x o h
  ·exact .inr (a.keep.none h)
 bare := fun h => b.bare (a.bare h)
 os := b.os.trans a.os
theorem Grow.still {Z : ZM} {s s' : Shared} (hz : ∀ b o, Z b = some o → s.heap.get? b = some o) (k : ∀ b o, s.heap.get? b = some o → s'.heap.get? b = some o) (hb : AllBare s.gens → AllBare s'.gens) (ho : s'.os = s.os) : Grow Z s Z s' :=
 ⟨.of k, .refl _, fun b o e => k b o (hz b o e), fun J J e => .inl e, hb, ho⟩
theorem Grow.toks {Z : ZM} {s : Shared} (h : ∀ b o, Z b = some o → s.heap.get? b = some o) (t : Nat) : Grow Z s Z { s with toks := t } := Grow.still h (fun J J e => e) id rfl
noncomputable def zAdd (Z : ZM) (a : Addr) (o : Obj) : ZM := fun b => if b = a then some o else Z b
theorem zAdd_self (Z : ZM) (a : Addr) (o : Obj) : zAdd Z a o a = some o := if_pos rfl
theorem zAdd_le {Z : ZM} {a : Addr} {o : Obj} (h : Z a = none) : ZLe Z (zAdd Z a o) := fun b x e => by
 unfold zAdd
 split
 ·rename_i q; rw [q, h] at e; cases e
 ·exact e
theorem Grow.add {Z : ZM} {s s' : Shared} {a : Addr} {o : Obj} (hz : ∀ b o, Z b = some o → s.heap.get? b = some o) (k : ∀ b o, s.heap.get? b = some o → s'.heap.get? b = some o) (hn : s.heap.get? a = none) (ha : s'.heap.get? a = some o) (hb : AllBare s.gens → AllBare s'.gens) (ho : s'.os = s.os) :
  Grow Z s (zAdd Z a o) s' := by
 have hza : Z a = none := by cases q : Z a with | none => rfl | some x => rw [hz a x q] at hn; cases hn
 refine ⟨.of k, zAdd_le hza, fun b x e => ?_, fun b x e => ?_, hb, ho⟩
 ·unfold zAdd at e
  split at e
  ·rename_i q; cases e; rw [q]; exact ha
  ·exact k b x (hz b x e)
 ·unfold zAdd at e
  split at e
  ·rename_i q; rw [q]; exact .inr hn
  ·exact .inl e
structure Gd (K : Frag) (mg mb : Str → Option Value) (s : Shared) : Prop where
 k : K.In s.heap
 g : s.heap.Ns mainGlobals mg
 b : s.heap.Ns builtinsNs mb
 nolim : s.heap.NoLimit
 bi : ∀ x : Str, x ≠ "__name__" → mb x = bootBuiltins x
 kt : ∀ b o, K.lookup b = some o → ¬ isT b
 tabs : ∀ b, isT b → ∃ o, s.heap.get? b = some o ∧ tabOk o
 bm : ∃ bm ob, mg "__builtins__" = some (.ref bm) ∧ bm ≠ builtinsNs ∧ s.heap.get? bm = some ob ∧ ob.cls = .type "module" ∧ ob.dict = some builtinsNs ∧ ob.data = .plain
structure OkA (A : Around) (n : Nat) : Prop where
 h : A.handled = none
 d : A.depth + 4 * n + 8 < recursionLimit
 u : A.units + 200 * n + 400 < cLine
section
set_option maxRecDepth 1000000
set_option maxHeartbeats 0
namespace Hd
abbrev PW : Program := PySem.Challenge.pw_af0017_01
noncomputable def goN (f : SharedT → Thread → Option (SharedT × Thread)) : Nat → SharedT → Thread → Option (SharedT × Thread)
 | 0, s, t => some (s, t)
 | n + 1, s, t => match f s t with
  | some (s', t') => goN f n s' t'
  | none => none
noncomputable def goL (f : SharedT → Thread → Option (SharedT × Thread)) : List Nat → SharedT → Thread → Option (SharedT × Thread)
 | [], s, t => some (s, t)
 | n :: l, s, t => match goN f n s t with
  | some (s', t') => goL f l s' t'
  | none => none
noncomputable def stp (sT : SharedT → Thread → Option (SharedT × Thread)) (ok : Thread → Bool) (s : SharedT) (t : Thread) : Option (SharedT × Thread) :=
 match through t with
 | true => none
 | false => match ok t with
  | false => none
  | true => sT s t
noncomputable def bootT (P : Params) : BT := .node (boot_o_0 P)
 (.node (boot_o_1 P) (.node (boot_o_3 P) (.node (boot_o_7 P) .nil .nil) .nil) (.node (boot_o_5 P) (.node (boot_o_9 P) .nil .nil) .nil))
 (.node (boot_o_2 P) (.node (boot_o_4 P) (.node (boot_o_8 P) .nil .nil) .nil) (.node (boot_o_6 P) (.node (boot_o_10 P) .nil .nil) .nil))
theorem boot_tree (P : Params) : absHeap (bootT P) 11 (boot_heap P).life = boot_heap P := by kernel_rfl
noncomputable def S0 (w : World) (os : OsState) : SharedT := ⟨bootT w.params, 11, (boot_heap w.params).life, Array.mk [], boot_drawn, boot_toks, os⟩
noncomputable def F (w : World) := stp (Fast.tw10156331382660048174 (Fast.tw11892475500146522536 Fast.tw14364793385576792824) PW w) (Fast.tw6613529449190102663 11 (some (.ref 6)))
theorem goN_run {p : Program} {w : World} {m : Nat} {ann : Option Value} (n : Nat) : ∀ (N : Nat) (s s' : SharedT) (t t' : Thread), goN (stp (stepT (denote treeTable) p w) (stepOk m ann)) n s t = some (s', t') → topRun treeTable p w m ann (n + N) s.abs t = topRun treeTable p w m ann N s'.abs t' := by
 induction n with
 | zero => intro N s s' t t' h; cases h; rw [Nat.zero_add]
 | succ n ih =>
  intro N s s' t t' h
  rw [Nat.add_right_comm]
  haveI h : (match stp (stepT (denote treeTable) p w) (stepOk m ann) s t with | some (s', t') => goN (stp (stepT (denote treeTable) p w) (stepOk m ann)) n s' t' | none => none) = some (s', t') := h
  cases q : stp (stepT (denote treeTable) p w) (stepOk m ann) s t with
  | none => rw [q] at h; cases h
  | some x =>
   rw [q] at h
   rw [← ih N x.1 s' x.2 t' h]
   haveI q : (match through t with | true => none | false => match stepOk m ann t with | false => none | true => stepT (denote treeTable) p w s t) = some x := q
   conv => lhs; unfold topRun
   cases e1 : through t with
   | true => rw [e1] at q; cases q
   | false =>
    rw [e1] at q
    cases e2 : stepOk m ann t with
    | false => rw [e2] at q; cases q
    | true =>
     rw [e2] at q
     rw [show step (denote treeTable) p w s.abs t = _ from stepT_spec q]
theorem goL_run {p : Program} {w : World} {m : Nat} {ann : Option Value} (l : List Nat) : ∀ (N : Nat) (s s' : SharedT) (t t' : Thread), goL (stp (stepT (denote treeTable) p w) (stepOk m ann)) l s t = some (s', t') → topRun treeTable p w m ann (l.foldr (· + ·) N) s.abs t = topRun treeTable p w m ann N s'.abs t' := by
 induction l with
 | nil => intro N s s' t t' h; cases h; rfl
 | cons n l ih =>
  intro N s s' t t' h
  haveI h : (match goN (stp (stepT (denote treeTable) p w) (stepOk m ann)) n s t with | some (s', t') => goL (stp (stepT (denote treeTable) p w) (stepOk m ann)) l s' t' | none => none) = some (s', t') := h
  cases q : goN (stp (stepT (denote treeTable) p w) (stepOk m ann)) n s t with
  | none => rw [q] at h; cases h
  | some x =>
   rw [q] at h
   exact (goN_run n _ s x.1 t x.2 q).trans (ih N x.1 s' x.2 t' h)
theorem F_eq (w : World) : F w = stp (stepT (denote treeTable) PW w) (stepOk 11 (some (.ref 6))) := by
 unfold F
 rw [← Fast.te10156331382660048174, ← Fast.te11892475500146522536, ← Fast.te14364793385576792824, ← Fast.te6613529449190102663]
theorem leftO_run {q : Program} {loose : List Str} {Xt : Shared → Bool} {α : Type} {Yf : Shared → α} {Ya : World → α} {N : Nat} {g0 : Bool} (l : List Nat)
  (open_ : ∀ w : World, (fencedOpening treeTable PW w N).map (fun s => (s.heap, s.gens, s.drawn, s.toks)) = some (boot_heap w.params, Array.mk [], boot_drawn, boot_toks))
  (size : ∀ w : World, ((boot_heap w.params).isNs mainGlobals, (boot_heap w.params).objs.size, (boot_heap w.params).nsMap mainGlobals "__annotations__") = (true, 11, some (.ref 6)))
  (le : l.foldr (· + ·) 1 ≤ N)
  (run : ∀ w : World, (fun os => (goL (F w) l (S0 w os) (topStub PW)).map fun r => (through r.2, (staticsOk (importedModules PW.main.body) (boot_heap w.params) r.1.abs.heap && namesBound PW r.1.abs.heap && gensDone r.1.abs && laidKept (boot_heap w.params) r.1.abs.heap),
    openSeen q loose (importedModules PW.main.body) Xt g0 r.1.abs)) = fun J => some (true, true, openGood q loose))
  (more : ∀ (w : World) (os : OsState), ((goL (F w) l (S0 w os) (topStub PW)).map fun r => Yf r.1.abs) = some (Ya w)) : LeftO PW q loose Xt Yf Ya N g0 := fun w => by
 obtain ⟨⟨h, gs, d, k, os⟩, e, e'⟩ := ((Option.map_eq_some_iff.mp (open_ w)))
 obtain ⟨rfl, rfl, rfl, rfl⟩ := show h = boot_heap w.params ∧ gs = Array.mk [] ∧ d = boot_drawn ∧ k = boot_toks from by simpa using e'
 obtain ⟨z1, z2, z3⟩ := (show _ ∧ _ ∧ _ from by simpa only [Prod.mk.injEq] using size w)
 obtain ⟨⟨s₁, t₁⟩, r, r'⟩ := ((Option.map_eq_some_iff.mp (congrFun (run w) os)))
 obtain ⟨l1, l2, l3⟩ := (show _ ∧ _ ∧ _ from by simpa only [Prod.mk.injEq] using r')
 haveI l4 : Yf s₁.abs = Ya w := by
  haveI m := more w os
  rw [r] at m
  exact Option.some.inj m
 haveI hs0 : (S0 w os).abs = ⟨boot_heap w.params, Array.mk [], boot_drawn, boot_toks, os⟩ := by
  exact congrArg (fun h => Shared.mk h (Array.mk []) boot_drawn boot_toks os) (boot_tree w.params)
 rw [F_eq] at r
 haveI g := goL_run l (1 + (N - l.foldr (· + ·) 1)) _ _ _ _ r
 haveI ad : ∀ (l : List Nat) (a b : Nat), l.foldr (· + ·) (a + b) = l.foldr (· + ·) a + b := fun l a b => by
  induction l with
  | nil => rfl
  | cons x l ih => rw [List.foldr_cons, List.foldr_cons, ih]; omega
 rw [ad, show l.foldr (· + ·) 1 + (N - l.foldr (· + ·) 1) = N by omega, hs0] at g
 haveI t : topFrom treeTable PW w N ⟨boot_heap w.params, Array.mk [], boot_drawn, boot_toks, os⟩ = some s₁.abs := by
  unfold topFrom
  dsimp only
  rw [z1, z2, z3, g, Nat.add_comm 1]
  unfold topRun
  rw [l1]
  show (match staticsOk (importedModules PW.main.body) (boot_heap w.params) s₁.abs.heap && namesBound PW s₁.abs.heap && gensDone s₁.abs && laidKept (boot_heap w.params) s₁.abs.heap with | true => _ | false => _) = _
  rw [l2]
 unfold openEnds
 rw [e]
 show (topFrom treeTable PW w N _).map _ = _
 rw [t]
 exact congrArg some (Prod.ext l3 l4)
end Hd
end
noncomputable def fns : List Fn := [.isInf, .onC, .dbl, .add, .mul, .eq, .norm, .neg, .twist, .pIsInf, .pOnC, .pDbl, .pAdd, .pMul, .pEq, .pNeg, .pfi, .deg, .prd, .qInit, .qAdd, .qMul, .qRmul, .qRsub, .qSub, .qDiv, .qRdiv, .qEq, .qNe, .qNeg, .qInt, .qMade, .cFQ, .fInit, .fMade, .fFqc, .fAdd, .fSub, .fMul, .fRmul, .fDiv, .fPow, .fInv, .fEq, .fNe, .fNeg, .cFP, .oInit, .oMade, .oAdd, .oSub, .oMul, .oRmul, .oDiv, .oPow, .oOprd, .oInv, .oEq, .oNe, .oNeg, .oOne, .oZero, .cOPT, .tMade, .cFQ2, .isInf2, .onC2, .dbl2, .add2, .mul2, .eq2, .norm2, .neg2, .lPrimes, .lTimes, .lLess, .lOver, .lRoot, .lAdd, .lNeg, .lMult, .lCube, .lPoint, .lForm, .lPair, .lRead, .lPlain, .lPlainRead, .lTells, .lOpt, .lPlainRight, .lTwisted, .law]
noncomputable def noCls (v : Value) : Bool := match v with | .none => true | _ => false
noncomputable def consIf (b : Bool) (x : Addr × Obj) (l : Frag) : Frag := match b with | true => l | false => x :: l
noncomputable def fragOn (h : Heap) (as : List Addr) : Frag := List.rec (motive := fun _ => Frag) [] (fun a _ r => match h.get? a with | some o => consIf (noCls o.cls) (a, o) r | none => r) as
theorem fragOn_in (h : Heap) (as : List Addr) : (fragOn h as).In h := by
 induction as with
 | nil => exact fun a o e => nsm e
 | cons b as ih =>
  show Frag.In (match h.get? b with | some o => consIf (noCls o.cls) (b, o) (fragOn h as) | none => fragOn h as) h
  cases q : h.get? b with
  | none => exact ih
  | some x =>
   show Frag.In (consIf (noCls x.cls) (b, x) (fragOn h as)) h
   cases noCls x.cls with
   | true => exact ih
   | false =>
    intro a o e
    haveI e : (match a == b with | true => some x | false => List.lookup a (fragOn h as)) = some o := e
    cases c : a == b with
    | true => rw [c] at e; rw [eq_of_beq c]; exact q.trans e
    | false => rw [c] at e; exact ih a o e
noncomputable def as0 : List Addr := [295, 294, 409, 408, 534, 533, 563, 562, 3] ++ fns.flatMap fun f => [f.addr, f.addr - 1]
noncomputable def l0 : List Nat := [1000, 1000, 1000, 1000, 514]
@[irreducible] noncomputable def prog : Program := Hd.PW
noncomputable def IsK (K : Frag) : Prop := ∃ (w : World) (os : OsState) (r : SharedT × Thread), Hd.goL (Hd.F w) l0 (Hd.S0 w os) (topStub Hd.PW) = some r ∧ K = fragOn r.1.abs.heap as0
structure U where
 w : World
 K : Frag
 mg : Str → Option Value
 mb : Str → Option Value
noncomputable def Good (u : U) : Prop := ∀ (A : Around) (s : Shared) (E Q : Value → Shared → Prop) (L : Addr) (vs : List Value) (l : List Int) (n : Nat), Gd u.K u.mg u.mb s → s.heap.get? L = some { cls := .type "list", data := .seq vs.toArray n } →
 IntsAre vs l → l.length ≤ 63 → OkA A 34 → (∀ s', KeepH s.heap s'.heap → (AllBare s.gens → AllBare s'.gens) → s'.os = s.os → Q (.bool true) s') → wpAny (model prog u.w) A (call (.ref 751) [.ref L]) Q E s
noncomputable def Bad (u : U) : Prop := IsK u.K ∧ ¬ Good u
theorem u_ne : Nonempty U := ⟨⟨fun J J => 0, { strHash := fun J => 0, shareClass := fun J => 0, mergeTok := fun t => t, idOf := fun J => 0, idOfShared := fun J J => 0, followText := fun J => false, idOfImm := fun J => 0 }⟩, [], fun J => none, fun J => none⟩
noncomputable def u0 : U := @Classical.epsilon U u_ne Bad
@[irreducible] noncomputable def w : World := u0.w
@[irreducible] noncomputable def K : Frag := u0.K
@[irreducible] noncomputable def mg : Str → Option Value := u0.mg
@[irreducible] noncomputable def mb : Str → Option Value := u0.mb
theorem prog_eq : prog = Hd.PW := by unfold prog; rfl
theorem u0_eq : u0 = ⟨w, K, mg, mb⟩ := by unfold w K mg mb; rfl
theorem u0_bad {u : U} (h : Bad u) : Bad ⟨w, K, mg, mb⟩ := by rw [← u0_eq]; exact @Classical.epsilon_spec _ Bad ⟨u, h⟩
theorem Gd.up {s s' : Shared} (G : Gd K mg mb s) (k : KeepH s.heap s'.heap) : Gd K mg mb s' := by
 obtain ⟨m, o, h1, h2, h3, h4, h5, h6⟩ := (G.bm)
 refine ⟨fun b o e => k.atT (G.k b o e) (G.kt b o e), k.ns G.g, k.ns G.b, k.nolim G.nolim, G.bi, G.kt, fun b hb => ?_, ⟨m, o, h1, h2, k.at h3 (by rw [h6]; rfl), h4, h5, h6⟩⟩
 obtain ⟨o, e, t⟩ := (G.tabs b hb)
 obtain ⟨o', e', v⟩ := (k b o e)
 exact ⟨o', e', v.elim (fun q => q ▸ t) fun q => q.2.2⟩
theorem Gd.keep {s s' : Shared} (G : Gd K mg mb s) (k : KeepH s.heap s'.heap) (hb : AllBare s.gens → AllBare s'.gens) : Gd K mg mb s' := G.up k
theorem Gd.notT {s : Shared} (G : Gd K mg mb s) {b : Addr} (h : s.heap.get? b = none) : ¬ isT b := fun q => by
 obtain ⟨o, e, _⟩ := G.tabs b q
 rw [h] at e; cases e
noncomputable def HasFr (K : Frag) (s : Shared) : Prop := ∃ (b : Heap) (L : Addr) (m : Str → Option Value), Fr b L s.heap m ∧ K.In b ∧ ∀ x o, b.get? x = some o → ¬ isT x
theorem HasFr.keep {s s' : Shared} (F : HasFr K s) (k : KeepH s.heap s'.heap) : HasFr K s' := by
 obtain ⟨b, L, m, f, x, y⟩ := (F)
 exact ⟨b, L, m, ⟨k.ns f.ns, fun a o e => k.atT (f.keep a o e) (y a o e), f.above⟩, x, y⟩
noncomputable def At (env : Env) (h : Heap) (x : Str) (v : Value) : Prop :=
 (env.kindOf x = some .local ∧ ∃ m, h.Ns env.locals m ∧ m x = some v) ∨
 (env.kindOf x = some .cell ∧ ∃ c, env.cells.lookup x = some c ∧ h.IsCell c (some v))
theorem At.keep {env : Env} {h h' : Heap} {x : Str} {v : Value} (a : At env h x v) (k : KeepH h h') : At env h' x v := by
 rcases a with ⟨a, m, b, c⟩ | ⟨a, c, b, d⟩
 ·exact .inl ⟨a, m, k.ns b, c⟩
 ·exact .inr ⟨a, c, b, k.cell d⟩
structure EnvOk (env : Env) : Prop where
 kind : env.scope.kind = .function
 glob : env.globals = mainGlobals
 blt : env.builtins = builtinsNs
 cells : ∀ y, env.kindOf y = some .cell → ∃ c, env.cells.lookup y = some c
 apart : ∀ x y c, env.cells.lookup x = some c → env.cells.lookup y = some c → x = y
theorem zt_grow {Z Z' : ZM} {s s' : Shared} (G : Gd K mg mb s) (zt : ∀ b, isT b → Z b = none) (g : Grow Z s Z' s') : ∀ b, isT b → Z' b = none := fun b hb => by
 cases q : Z' b with
 | none => rfl
 | some o =>
  rcases g.fresh b o q with h | h
  ·rw [zt b hb] at h; cases h
  ·exact absurd hb (G.notT h)
structure FmE (K : Frag) (mg mb : Str → Option Value) (env : Env) (nm : List Str) (Z : ZM) (σ : List (Option V)) (s : Shared) : Prop where
 gd : Gd K mg mb s
 fr : HasFr K s
 zs : ∀ b o, Z b = some o → s.heap.get? b = some o
 zt : ∀ b, isT b → Z b = none
 vars : ∀ i x V, getO σ i = some V → nm[i]? = some x → ∃ v, At env s.heap x v ∧ Rep Z v V
 len : σ.length = nm.length
 cells : ∀ y c, env.cells.lookup y = some c → ∃ v, s.heap.IsCell c v
theorem FmE.grow {env : Env} {nm : List Str} {Z Z' : ZM} {σ : List (Option V)} {s s' : Shared} (F : FmE K mg mb env nm Z σ s) (G : Grow Z s Z' s') : FmE K mg mb env nm Z' σ s' :=
 ⟨F.gd.keep G.keep G.bare, F.fr.keep G.keep, G.sub, zt_grow F.gd F.zt G, fun i x V h e => (F.vars i x V h e).elim fun v p => ⟨v, p.1.keep G.keep, p.2.mono G.le⟩, F.len, fun y c h => (F.cells y c h).elim fun v x => ⟨v, G.keep.cell x⟩⟩
theorem ok_le {a m k j c L : Nat} (h : a + (m + k) + c < L) (hj : j ≤ k) : a + j + m + c < L := by omega
theorem OkA.in1 {A : Around} {n : Nat} (a : OkA A (n + 1)) : OkA A.in1 n := ⟨a.h, ok_le (m := 4 * n) (k := 4) (j := 0) a.d (by decide), ok_le (m := 200 * n) (k := 200) (j := 1) a.u (by decide)⟩
theorem OkA.less {A : Around} {n m : Nat} (a : OkA A n) (h : m ≤ n) : OkA A m := ⟨a.h, Nat.lt_of_le_of_lt (Nat.add_le_add_right (Nat.add_le_add_left (Nat.mul_le_mul_left 4 h) _) _) a.d, Nat.lt_of_le_of_lt (Nat.add_le_add_right (Nat.add_le_add_left (Nat.mul_le_mul_left 200 h) _) _) a.u⟩
theorem OkA.deeper {A : Around} {n : Nat} (a : OkA A (n + 1)) (env : Env) : OkA (A.deeper env) n := ⟨a.h, ok_le (m := 4 * n) (k := 4) (j := 1) a.d (by decide), ok_le (m := 200 * n) (k := 200) (j := 3) a.u (by decide)⟩
noncomputable def CallOk (prog : Program) (w : World) (K : Frag) (mg mb : Str → Option Value) (n : Nat) (f : Fn) (args : List V) (k : V → Prop) : Prop :=
 ∀ (A : Around) (s : Shared) (Z : ZM) (vs : List Value) (Q E : Value → Shared → Prop), OkA A n → Gd K mg mb s → (∀ b o, Z b = some o → s.heap.get? b = some o) → (∀ b, isT b → Z b = none) → RepL Z vs args →
  (∀ v x Z' s', Grow Z s Z' s' → Rep Z' v x → k x → Q v s') → wpAny (model prog w) A (call (.ref f.addr) vs) Q E s
noncomputable def TabOk (prog : Program) (w : World) (K : Frag) (mg mb : Str → Option Value) (n : Nat) (T : Tab) : Prop :=
 ∀ f args k, T f args k → CallOk prog w K mg mb n f args k
section
section
variable {A : Around} {E : Value → Shared → Prop} {s : Shared} {Z : ZM} {Q : Value → Shared → Prop} {k : V → Prop}
abbrev Bk (Z : ZM) (s : Shared) (k : V → Prop) (Q : Value → Shared → Prop) : Prop := ∀ v x Z' s', Grow Z s Z' s' → Rep Z' v x → k x → Q v s'
theorem fmod_pos {a b : Int} (h : 0 < b) : Int.fmod a b = a % b := Int.fmod_eq_emod_of_nonneg a (Int.le_of_lt h)
theorem fdiv_pos {a b : Int} (h : 0 < b) : Int.fdiv a b = a / b := Int.fdiv_eq_ediv_of_nonneg a (Int.le_of_lt h)
theorem log2_sm {x : Int} (h : Sm x) (h0 : x.natAbs ≠ 0) : x.natAbs.log2 < 64 := by
 obtain ⟨h1, h2⟩ := h
 exact (Nat.log2_lt h0).mpr (by omega)
theorem bits_sm {x : Int} (h : Sm x) : Builtin.Int.intBits x ≤ 64 := by
 unfold Builtin.Int.intBits
 by_cases hx : (x == 0) = true
 ·rw [if_pos hx]; exact Nat.zero_le _
 ·rw [if_neg hx]; exact Nat.succ_le_of_lt (log2_sm h fun e => hx (by rw [Int.natAbs_eq_zero.mp e]; rfl))
theorem nopy_sm {x y : Int} (h : Sm y) : Builtin.divisionGoesByPylong x y = false := by
 refine PyProof.noPylong_of_log2 ?_
 by_cases h0 : y.natAbs = 0
 ·rw [h0]; decide +kernel
 ·have := log2_sm h h0; omega
theorem bitAnd_one {x : Int} (h : 0 ≤ x) : Builtin.bitAnd x 1 = x % 2 := by
 unfold Builtin.bitAnd
 rw [decide_eq_true h]
 show ((x.toNat &&& 1 : Nat) : Int) = _
 rw [Nat.and_one_is_mod]
 exact (Int.natCast_emod ..).trans (congrArg (· % (2 : Int)) (Int.toNat_of_nonneg h))
@[elab_as_elim] theorem wBinI_e {op : Operator} {x y : Int} {k : V → Prop} {P : Operator → Prop} (h : wBinI op x y k) (add : k (.int (x + y)) → P .Add) (sub : k (.int (x - y)) → P .Sub) (mul : (Sm x ∨ Sm y) → k (.int (x * y)) → P .Mult) (md : 0 < y → k (.int (x % y)) → P .Mod)
  (fd : 0 < y → Sm y → k (.int (x / y)) → P .FloorDiv) (ba : y = 1 → 0 ≤ x → k (.int (x % 2)) → P .BitAnd) (rs : y = 1 → 0 ≤ x → k (.int (x / 2)) → P .RShift) : P op := by
 cases op <;> first | exact h.elim | exact add h | exact sub h | exact mul h.1 h.2 | exact md h.1 h.2 | exact fd h.1 h.2.1 h.2.2 | exact ba h.1 h.2.1 h.2.2 | exact rs h.1 h.2.1 h.2.2
theorem shr1 (x : Int) : x.fdiv (2 ^ (1 : Int).toNat) = x / 2 := fdiv_pos (by decide)
theorem op_int {op : Operator} {x y : Int} {t u : Tok} (hz : ∀ b o, Z b = some o → s.heap.get? b = some o) (h : wBinI op x y k) (hk : Bk Z s k Q) : wpAny (model prog w) A (binaryOp op (.int x t) (.int y u)) Q E s := by
 have kt : ∀ i u tk, k (.int i) → Q (.int i u) { s with toks := tk } := fun i u tk => hk _ _ _ _ (Grow.toks hz tk) (.int i u)
 exact wBinI_e h (fun h => add_int (kt _ _ _ h)) (fun h => sub_int (kt _ _ _ h)) (fun q h => mul_int (kt _ _ _ h) (q.elim (fun a => .of_left (bits_sm a)) fun a => .of_right (bits_sm a)))
  (fun p h => mod_int' (Int.ne_of_gt p) (by rw [fmod_pos p]; exact kt _ _ _ h)) (fun p q h => floordiv_int (Int.ne_of_gt p) (by rw [fdiv_pos p]; exact kt _ _ _ h) (.inl (nopy_sm q)))
  (fun e p q => by subst e; exact and_int (by rw [bitAnd_one p]; exact kt _ _ _ q)) fun e p q => by subst e; exact rshift_int (by decide) (by rw [shr1]; exact kt _ _ _ q)
theorem iop_int {op : Operator} {x y : Int} {t u : Tok} (hz : ∀ b o, Z b = some o → s.heap.get? b = some o) (h : wBinI op x y k) (hk : Bk Z s k Q) : wpAny (model prog w) A (inplaceOp op (.int x t) (.int y u)) Q E s := by
 have kt : ∀ i u tk, k (.int i) → Q (.int i u) { s with toks := tk } := fun i u tk => hk _ _ _ _ (Grow.toks hz tk) (.int i u)
 exact wBinI_e h (fun h => iadd_int (kt _ _ _ h)) (fun h => isub_int (kt _ _ _ h)) (fun q h => imul_int (kt _ _ _ h) (q.elim (fun a => .of_left (bits_sm a)) fun a => .of_right (bits_sm a)))
  (fun p h => imod_int (Int.ne_of_gt p) (by rw [fmod_pos p]; exact kt _ _ _ h)) (fun p q h => ifloordiv_int (Int.ne_of_gt p) (by rw [fdiv_pos p]; exact kt _ _ _ h) (.inl (nopy_sm q)))
  (fun e p q => by subst e; exact iand_int (by rw [bitAnd_one p]; exact kt _ _ _ q)) fun e p q => by subst e; exact irshift_int (by decide) (by rw [shr1]; exact kt _ _ _ q)
theorem new_none (h : Heap) : h.get? h.objs.size = none := by
 cases e : h.get? h.objs.size with
 | none => rfl
 | some o => exact absurd (Heap.lt_size e) (Nat.lt_irrefl _)
theorem push_keep (h : Heap) (o : Obj) : ∀ b x, h.get? b = some x → (h.push o).get? b = some x := fun J J e => Heap.get?_push_of_some _ e
theorem small64 : 64 ≤ sizeLine := by decide
theorem bk_tup {vs : List Value} {xs : List V} {o : Obj} {n : Nat} (hz : ∀ b o, Z b = some o → s.heap.get? b = some o) {s' : Shared} {a : Addr} (keep : ∀ b x, s.heap.get? b = some x → s'.heap.get? b = some x) (hn : s.heap.get? a = none) (ho : s'.heap.get? a = some o) (hc : o.cls = .type "tuple") (hd : o.data = .seq vs.toArray n)
  (hg : s'.gens = s.gens) (hos : s'.os = s.os) (r : RepL Z vs xs) (hl : xs.length ≤ 64) (h : k (.tup xs)) (hk : Bk Z s k Q) : Q (.ref a) s' := by
 have G := Grow.add (s' := s') hz keep hn ho (fun b => hg ▸ b) hos
 exact hk _ _ _ _ G (.tup (zAdd_self ..) hc hd hl (r.mono G.le)) h
theorem bk_lst {vs : List Value} {xs : List V} {n : Nat} (hz : ∀ b o, Z b = some o → s.heap.get? b = some o) {s' : Shared} {a : Addr} (keep : ∀ b x, s.heap.get? b = some x → s'.heap.get? b = some x) (hn : s.heap.get? a = none) (ho : s'.heap.get? a = some (listOf vs.toArray n))
  (hg : s'.gens = s.gens) (hos : s'.os = s.os) (r : RepL Z vs xs) (hl : xs.length ≤ 64) (h : k (.lst xs)) (hk : Bk Z s k Q) : Q (.ref a) s' := by
 have G := Grow.add (s' := s') hz keep hn ho (fun b => hg ▸ b) hos
 exact hk _ _ _ _ G (.lst (zAdd_self ..) hl (r.mono G.le)) h
theorem okL_iff {vs : List V} {P : Prop} (h : okL vs P) : vs.length ≤ 64 ∧ P := by
 have h : (match Nat.ble vs.length 64 with | true => P | false => False) := h
 cases q : Nat.ble vs.length 64 with
 | true => rw [q] at h; exact ⟨Nat.le_of_ble_eq_true q, h⟩
 | false => rw [q] at h; exact h.elim
theorem new_tup {vs : List Value} {xs : List V} (hz : ∀ b o, Z b = some o → s.heap.get? b = some o) (r : RepL Z vs xs) (hl : xs.length ≤ 64) (h : k (.tup xs)) (hk : Bk Z s k Q) : wpAny (model prog w) A (newTuple vs) Q E s :=
 wpAny_newObj_type (bk_tup (s := s) (n := 0) hz (push_keep _ _) (new_none _) (Heap.get?_push_size _ rfl) rfl rfl rfl rfl r hl h hk)
  (by show vs.toArray.size ≤ sizeLine; rw [List.size_toArray, r.length]; exact Nat.le_trans hl small64)
theorem new_lst {vs : List Value} {xs : List V} (hz : ∀ b o, Z b = some o → s.heap.get? b = some o) (r : RepL Z vs xs) (hl : xs.length ≤ 64) (h : k (.lst xs)) (hk : Bk Z s k Q) : wpAny (model prog w) A (newList vs) Q E s :=
 wpAny_newObj_type (bk_lst (s := s) (n := 0) hz (push_keep _ _) (new_none _) (Heap.get?_push_size _ rfl) rfl rfl r hl h hk)
  (by show vs.toArray.size ≤ sizeLine; rw [List.size_toArray, r.length]; exact Nat.le_trans hl small64)
theorem Rep.tup_inv {v : Value} {xs : List V} (r : Rep Z v (.tup xs)) : ∃ a o vs n, v = .ref a ∧ Z a = some o ∧ o.cls = .type "tuple" ∧ o.data = .seq (vs : List Value).toArray n ∧ xs.length ≤ 64 ∧ RepL Z vs xs := r.inv
theorem Rep.lst_inv {v : Value} {xs : List V} (r : Rep Z v (.lst xs)) : ∃ a vs n, v = .ref a ∧ Z a = some (listOf (vs : List Value).toArray n) ∧ xs.length ≤ 64 ∧ RepL Z vs xs := r.inv
theorem Rep.int_inv {v : Value} {i : Int} (r : Rep Z v (.int i)) : ∃ t, v = .int i t := r.inv
theorem Rep.bool_inv {v : Value} {b : Bool} (r : Rep Z v (.bool b)) : v = .bool b := r.inv
theorem Rep.none_inv {v : Value} (r : Rep Z v .none) : v = .none := r.inv
theorem Rep.items_inv {v : Value} {x : V} {P : List V → Prop} (r : Rep Z v x) (h : onItems x P) : ∃ a o vs n xs T, v = .ref a ∧ Z a = some o ∧ o.cls = .type T ∧ (T = "list" ∨ T = "tuple") ∧ o.data = .seq (vs : List Value).toArray n ∧ xs.length ≤ 64 ∧ RepL Z vs xs ∧ P xs ∧ (x = .lst xs ∨ x = .tup xs) := by
 cases x <;> first | exact h.elim | skip
 ·obtain ⟨a, o, vs, n, e, hz, hc, hd, hl, rl⟩ := (r.tup_inv); exact ⟨a, o, vs, n, _, _, e, hz, hc, .inr rfl, hd, hl, rl, h, .inr rfl⟩
 ·obtain ⟨a, vs, n, e, hz, hl, rl⟩ := (r.lst_inv); exact ⟨a, _, vs, n, _, _, e, hz, rfl, .inl rfl, rfl, hl, rl, h, .inl rfl⟩
theorem op_list_add {xs ys : List V} {t u : Value} (hz : ∀ b o, Z b = some o → s.heap.get? b = some o) (ra : Rep Z t (.lst xs)) (rb : Rep Z u (.lst ys)) (hl : (xs ++ ys).length ≤ 64) (h : k (.lst (xs ++ ys))) (hk : Bk Z s k Q) : wpAny (model prog w) A (binaryOp .Add t u) Q E s := by
 obtain ⟨l, vs, n, rfl, ho, _, r1⟩ := (ra.lst_inv)
 obtain ⟨l2, ws, n2, rfl, ho2, _, r2⟩ := (rb.lst_inv)
 haveI e : vs.toArray ++ ws.toArray = (vs ++ ws).toArray := List.append_toArray ..
 haveI hlen : vs.length + ws.length ≤ 64 := by rw [r1.length, r2.length, ← List.length_append]; exact hl
 refine concat_meets ⟨_, hz _ _ ho, rfl⟩ ⟨_, hz _ _ ho2, rfl⟩ noFill_list_add seq_list_add PySem.F.slot_list_add PySem.F.entry_list_add (PySem.F.args_list_add_2 _ _) (list_addW l l2 vs.toArray ws.toArray n n2 none none #[] #[] (by simpa using Nat.le_trans hlen small64)) ⟨hz _ _ ho, hz _ _ ho2, ?_⟩
 rw [e]
 exact bk_lst (s := s) (n := 0) hz (push_keep _ _) (new_none _) (Heap.get?_push_size _ rfl) rfl rfl (r1.append r2) hl h hk
theorem foldl_app (v : Value) (n : Nat) : ∀ acc : Array Value, List.foldl (fun x1 x2 => x1 ++ x2) acc (List.replicate n #[v]) = acc ++ (List.replicate n v).toArray := by
 induction n with
 | zero => exact fun acc => Array.append_empty.symm
 | succ n ih => exact fun acc => ((ih (acc ++ #[v])).trans (Array.append_assoc ..)).trans (congrArg (acc ++ ·) (List.append_toArray [v] (List.replicate n v)))
set_option tactic.hygienic true in
theorem op_list_mul {x : V} {n : Int} {t : Value} {u : Tok} (hz : ∀ b o, Z b = some o → s.heap.get? b = some o) (ra : Rep Z t (.lst [x])) (hl : (List.replicate n.toNat x).length ≤ 64) (hlo : -(2 ^ 63 : Int) ≤ n) (h : k (.lst (List.replicate n.toNat x))) (hk : Bk Z s k Q) : wpAny (model prog w) A (binaryOp .Mult t (.int n u)) Q E s := by
 obtain ⟨l, vs, m, rfl, ho, _, r1⟩ := (ra.lst_inv)
 cases r1 with
 | cons hv r =>
  cases r
  rename_i v
  rw [List.length_replicate] at hl
  have hsz : [v].toArray.size * n.toNat ≤ 2 ^ 24 := by simp only [List.size_toArray, List.length_cons, List.length_nil]; omega
  refine wpAny_binaryOp_repeat_ref (T := "list") (U := "int") (by decide) ⟨_, hz _ _ ho, rfl⟩ (fun s' => typeIs_int s' n u) noFill_list_mul F.fills_int_mul F.slot_int_rmul repeat_list F.slot_int_index.lookup
   (call_meets F.slot_int_rmul (typeIs_int s n u) F.entry_int_rmul (F.args_int_rmul_2 _ _) (int___rmul___int_list n u l [v].toArray m)
    ⟨hz _ _ ho, rfl, ⟨_, hz _ _ ho, rfl⟩, call_meets F.slot_list_mul ⟨_, hz _ _ ho, rfl⟩ F.entry_list_mul (F.args_list_mul_2 _ _)
     (AutoListH.list___mul___list_int_3 l [v].toArray m n u (by simp [Builtin.List.listFitsIndex]; omega) (by omega) (by simp [Builtin.List.listTooLong, sizeLine]; omega))
     ⟨hz _ _ ho, ?_⟩⟩)
  haveI e : List.foldl (fun x1 x2 => x1 ++ x2) #[] (List.replicate (if [v].toArray.isEmpty = true then 0 else n.toNat) [v].toArray) = (List.replicate n.toNat v).toArray := by
   rw [if_neg (by simp)]
   exact (foldl_app v n.toNat #[]).trans (by simp)
  rw [e]
  exact bk_lst (s := s) (n := 0) hz (push_keep _ _) (new_none _) (Heap.get?_push_size _ rfl) rfl rfl (RepL.rep hv _) (by rw [List.length_replicate]; exact hl) h hk
theorem op_tup_add {xs ys : List V} {t u : Value} (hz : ∀ b o, Z b = some o → s.heap.get? b = some o) (ra : Rep Z t (.tup xs)) (rb : Rep Z u (.tup ys)) (hl : (xs ++ ys).length ≤ 64) (h : k (.tup (xs ++ ys))) (hk : Bk Z s k Q) : wpAny (model prog w) A (binaryOp .Add t u) Q E s := by
 haveI ra' := ra; haveI rb' := rb
 obtain ⟨l, ⟨cls, dd, data, sl⟩, vs, n, rfl, ho, hc, hd, _, r1⟩ := ra.tup_inv
 obtain ⟨l2, ⟨cls2, dd2, data2, sl2⟩, ws, n2, rfl, ho2, hc2, hd2, _, r2⟩ := (rb.tup_inv)
 simp only at hc hd hc2 hd2
 subst hc hd hc2 hd2
 haveI e : vs.toArray ++ ws.toArray = (vs ++ ws).toArray := List.append_toArray ..
 have hlen : vs.length + ws.length ≤ 64 := by rw [r1.length, r2.length, ← List.length_append]; exact hl
 by_cases hv : vs = []
 ·subst hv; cases r1
  exact concat_meets ⟨_, hz _ _ ho, rfl⟩ ⟨_, hz _ _ ho2, rfl⟩ noFill_tuple_add seq_tuple_add PySem.F.slot_tuple_add PySem.F.entry_tuple_add (PySem.F.args_tuple_add_2 _ _)
   (tuple_addW0 l l2 [].toArray ws.toArray n n2 dd dd2 sl sl2 (by simp)) ⟨hz _ _ ho, hz _ _ ho2, hk _ _ _ _ (Grow.refl hz) rb' h⟩
 ·by_cases hw : ws = []
  ·subst hw; cases r2
   rw [List.append_nil] at h
   exact concat_meets ⟨_, hz _ _ ho, rfl⟩ ⟨_, hz _ _ ho2, rfl⟩ noFill_tuple_add seq_tuple_add PySem.F.slot_tuple_add PySem.F.entry_tuple_add (PySem.F.args_tuple_add_2 _ _)
    (tuple_addW1 l l2 vs.toArray [].toArray n n2 dd dd2 sl sl2 (by simpa using hv) (by simp)) ⟨hz _ _ ho, hz _ _ ho2, hk _ _ _ _ (Grow.refl hz) ra' h⟩
  ·refine concat_meets ⟨_, hz _ _ ho, rfl⟩ ⟨_, hz _ _ ho2, rfl⟩ noFill_tuple_add seq_tuple_add PySem.F.slot_tuple_add PySem.F.entry_tuple_add (PySem.F.args_tuple_add_2 _ _)
    (tuple_addW2 l l2 vs.toArray ws.toArray n n2 dd dd2 sl sl2 (by simpa using hv) (by simpa using hw) (by rw [List.size_toArray, List.size_toArray]; exact Nat.le_trans hlen small64)) ⟨hz _ _ ho, hz _ _ ho2, ?_⟩
   rw [e]
   exact bk_tup (s := s) (n := 0) hz (push_keep _ _) (new_none _) (Heap.get?_push_size _ rfl) rfl rfl rfl rfl (r1.append r2) hl h hk
theorem op_slice {xs : List V} {n : Int} {u : Tok} {t : Value} {value slice : Expr} (hz : ∀ b o, Z b = some o → s.heap.get? b = some o) (ra : Rep Z t (.lst xs)) (h0 : 0 ≤ n) (h : k (.lst (xs.take n.toNat))) (hk : Bk Z s k Q)
  (hs : ∀ o i, subscripted slice false o i = operate [i, o] (getItem o i)) (ht : ∀ o r, letTemporaryGo value o r = pure ()) :
  wpAny (model prog w) A (newFields "slice" [.none, .int n u, .none]) (fun i s₁ => wpAny (model prog w) A (subscriptTail value slice t i) Q E s₁) E s := by
 obtain ⟨l, vs, m, rfl, ho, hl, r⟩ := (ra.lst_inv)
 haveI hL : s.heap.IsList l vs.toArray := ⟨_, hz _ _ ho, rfl, _, rfl⟩
 refine wpAny_newObj_type ?_ (by show (3 : Nat) ≤ sizeLine + 2; decide)
 haveI hlen : vs.toArray.size ≤ sizeLine := by rw [List.size_toArray, r.length]; exact Nat.le_trans hl small64
 refine subscriptTail_ops (Heap.IsList.typeIs (s := { s with heap := s.heap.push { cls := .type "slice", data := .fields #[.none, .int n u, .none] } }) (hL.push _)) list_getitem_lookup
  (wpAny_getItem_list_slice (hL.push _) (Heap.IsSliceOf.new ..) .none (.int n u) .none (by simp) ?_ hlen) (hs _ _) (ht _)
 haveI e : slicePick vs.toArray none (some n) none = (vs.take n.toNat).toArray := by
  haveI := slicePick_upto' vs.toArray n.toNat
  rw [show ((n.toNat : Nat) : Int) = n by omega] at this
  simpa using this
 rw [e]
 refine bk_lst (s := s) (n := 0) hz (fun b x q => push_keep _ _ _ _ (push_keep _ _ _ _ q)) ?_ (Heap.get?_push_size _ rfl) rfl rfl (r.take n.toNat) (Nat.le_trans (List.length_take_le' ..) hl) h hk
 rw [Heap.size_push]
 cases q : s.heap.get? (s.heap.objs.size + 1) with
 | none => rfl
 | some o => exact absurd (Heap.lt_size q) (Nat.not_lt.mpr (Nat.le_succ _))
theorem op_listOf {v : Value} {x : V} {P : List V → Prop} (hz : ∀ b o, Z b = some o → s.heap.get? b = some o) (ra : Rep Z v x) (h : onItems x P) (hP : ∀ xs, P xs → k (.lst xs)) (hk : Bk Z s k Q) : wpAny (model prog w) A (call (.type "list") [v]) Q E s := by
 obtain ⟨a, o, vs, n, xs, T, rfl, ho, hc, hT, hd, hl, r, hx, _⟩ := (ra.items_inv h)
 refine call_list_seq a hT (hz _ _ ho) hc hd (fun h' c' keep hn => ?_) (by rw [List.size_toArray, r.length]; exact Nat.le_trans hl small64)
 exact bk_lst (s := s) (s' := { s with heap := h' }) hz keep (new_none _) hn rfl rfl r hl (hP _ hx) hk
theorem op_tupOf {v : Value} {x : V} {P : List V → Prop} (hz : ∀ b o, Z b = some o → s.heap.get? b = some o) (ra : Rep Z v x) (h : onItems x P) (hP : ∀ xs, P xs → k (.tup xs)) (hk : Bk Z s k Q) : wpAny (model prog w) A (call (.type "tuple") [v]) Q E s := by
 cases x <;> first | exact h.elim | skip
 ·obtain ⟨l, o', us, m, rfl, ho, hc, hd, hl, r⟩ := (ra.tup_inv)
  exact call_tuple_same (items := us.toArray) ⟨_, hz _ _ ho, hc, _, hd⟩ (hk _ _ _ _ (Grow.refl hz) ra (hP _ h))
 ·obtain ⟨l, us, m, rfl, ho, hl, r⟩ := (ra.lst_inv)
  refine call_tuple_list (items := us.toArray) ⟨_, hz _ _ ho, rfl, _, rfl⟩ (fun h' keep => ?_) (by rw [List.size_toArray, r.length]; exact Nat.le_trans hl small64)
  refine bk_tup (s := s) (s' := { s with heap := h'.push _ }) (n := 0) hz (fun b x q => push_keep _ _ _ _ (keep _ _ q)) ?_ (Heap.get?_push_size _ rfl) rfl rfl rfl rfl r hl (hP _ h) hk
  cases q : s.heap.get? h'.objs.size with
  | none => rfl
  | some o => exact absurd (Heap.lt_size (keep _ _ q)) (Nat.lt_irrefl _)
theorem len_in {us : List Value} {xs : List V} (r : RepL Z us xs) (hz : ∀ b o, Z b = some o → s.heap.get? b = some o) {u : Tok} {tk : Nat} (h : k (.int (xs.length : Int))) (hk : Bk Z s k Q) : Q (.int (us.toArray.size : Nat) u) { s with toks := tk } := by
 rw [List.size_toArray, r.length]
 exact hk _ _ _ _ (Grow.toks hz _) (.int _ _) h
theorem op_len {v : Value} {x : V} {P : List V → Prop} (hz : ∀ b o, Z b = some o → s.heap.get? b = some o) (ra : Rep Z v x) (h : onItems x P) (hP : ∀ xs, P xs → k (.int (xs.length : Int))) (hk : Bk Z s k Q) : wpAny (model prog w) A (call (.builtin "len") [v]) Q E s := by
 cases x <;> first | exact h.elim | skip
 ·obtain ⟨l, o', us, m, rfl, ho, hc, hd, hl, r⟩ := (ra.tup_inv)
  exact len_tuple ⟨_, hz _ _ ho, hc, _, hd⟩ (by rw [List.size_toArray, r.length]; omega) (len_in r hz (hP _ h) hk)
 ·obtain ⟨l, us, m, rfl, ho, hl, r⟩ := (ra.lst_inv)
  exact len_list ⟨_, hz _ _ ho, rfl, _, rfl⟩ (by rw [List.size_toArray, r.length]; omega) (len_in r hz (hP _ h) hk)
end
end
section
noncomputable def Mt.str : Mt → Str | .made => "made" | .fqc => "FQP_corresponding_FQ_class" | .one => "one" | .zero => "zero" | .inv => "inv" | .oprd => "optimized_poly_rounded_div"
theorem fld_inj : ∀ f g : Fld, (f.str == g.str) = true → f = g := by
 intro f g; cases f <;> cases g <;> first | (intro _; rfl) | (intro h; exact absurd h (by decide +kernel))
theorem fld_mt (f : Fld) (m : Mt) : (f.str == m.str) = false := by cases f <;> cases m <;> decide +kernel
theorem key_str (hs : Int) (x : Str) (t : Tok) (v : Value) (name : Str) : (DictEntry.mk hs (.str x t) v).key.isStr name = (x == name) := rfl
theorem RepF.get {Z : ZM} {f : Fld} {u : V} {es : List DictEntry} {fs : List (Fld × V)} (r : RepF Z es fs) (h : (fs.find? fun p => p.1.str == f.str) = some (f, u)) : ∃ v, (es.find? (·.key.isStr f.str)).map (·.val) = some v ∧ Rep Z v u := by
 refine RepF.ind (P := fun es fs => (fs.find? fun p => p.1.str == f.str) = some (f, u) → ∃ v, (es.find? (·.key.isStr f.str)).map (·.val) = some v ∧ Rep Z v u) (fun h => ?_) (fun {hs t v g x es fs} hr r ih h => ?_) r h
 ·cases h
 ·rw [List.find?_cons] at h
  rw [List.find?_cons, key_str]
  cases q : g.str == f.str with
  | true =>
   rw [q] at h
   cases h
   exact ⟨v, rfl, hr⟩
  | false =>
   rw [q] at h
   exact ih h
theorem RepF.noref {Z : ZM} {es : List DictEntry} {fs : List (Fld × V)} (r : RepF Z es fs) : es.any (·.refKey) = false := RepF.ind (P := fun es J => es.any (·.refKey) = false) rfl (fun J J q => q) r
theorem RepF.miss {Z : ZM} {m : Mt} {es : List DictEntry} {fs : List (Fld × V)} (r : RepF Z es fs) : es.find? (·.key.isStr m.str) = none :=
 RepF.ind (P := fun es J => es.find? (·.key.isStr m.str) = none) rfl (fun J J q => by rw [List.find?_cons, key_str, fld_mt]; exact q) r
theorem RepF.getL {Z : ZM} {f : Fld} {u : V} {es : List DictEntry} {fs : List (Fld × V)} (r : RepF Z es fs) (h : (fs.find? fun p => p.1.str == f.str) = some (f, u)) : ∃ v, PySem.W.getL f.str es = some (some v) ∧ Rep Z v u := by
 obtain ⟨v, e, hr⟩ := (r.get h)
 obtain ⟨en, e1, e2⟩ := (Option.map_eq_some_iff.mp e)
 refine ⟨v, ?_, hr⟩
 unfold PySem.W.getL
 rw [e1]
 exact congrArg (fun x => some (some x)) e2
theorem RepF.getL_none {Z : ZM} {m : Mt} {es : List DictEntry} {fs : List (Fld × V)} (r : RepF Z es fs) : PySem.W.getL m.str es = some none := by
 unfold PySem.W.getL
 rw [r.miss, r.noref]
 rfl
theorem getF_eq (x : V) (f : Fld) : getF x f = (flds x).bind fun q => (q.2.find? fun p => p.1.str == f.str).map (·.2) := by cases x <;> cases f <;> kernel_rfl
theorem flds_cl (x : V) : clOf x = (flds x).map (·.1) := by cases x <;> rfl
theorem getF_flds {x u : V} {f : Fld} (h : getF x f = some u) : ∃ c fs, flds x = some (c, fs) ∧ clOf x = some c ∧ (fs.find? fun p => p.1.str == f.str) = some (f, u) := by
 rw [getF_eq] at h
 obtain ⟨⟨c, fs⟩, hf, h⟩ := (Option.bind_eq_some_iff.mp h)
 obtain ⟨⟨g, v⟩, e, h⟩ := (Option.map_eq_some_iff.mp h)
 have q := fld_inj g f (List.find?_some (p := fun p : Fld × V => p.1.str == f.str) e)
 cases h
 cases q
 exact ⟨c, fs, hf, by rw [flds_cl, hf]; rfl, e⟩
theorem clOf_flds {x : V} {c : Cl} (h : clOf x = some c) : ∃ fs, flds x = some (c, fs) := by
 rw [flds_cl] at h
 obtain ⟨⟨d, fs⟩, e, h⟩ := (Option.map_eq_some_iff.mp h)
 cases h
 exact ⟨fs, e⟩
theorem Rep.inst_inv {Z : ZM} {v : Value} {x : V} {c : Cl} (r : Rep Z v x) (h : clOf x = some c) : ∃ a dx es n fs, v = .ref a ∧ flds x = some (c, fs) ∧ Z a = some (instObj c.addr dx) ∧ Z dx = some (dictOf es n) ∧ RepF Z es fs := by
 obtain ⟨fs, hf⟩ := clOf_flds h
 obtain ⟨a, dx, es, n, e, h1, h2, q⟩ := (r.invF hf)
 exact ⟨a, dx, es, n, fs, e, hf, h1, h2, q⟩
theorem Rep.handed {Z : ZM} {v : Value} {x : V} (r : Rep Z v x) : handedIn v = true := by cases r <;> rfl
theorem inst_at {Z : ZM} {s : Shared} {a dx : Addr} {es : List DictEntry} {n : Nat} {c : Cl} (hz : ∀ b o, Z b = some o → s.heap.get? b = some o) (h1 : Z a = some (instObj c.addr dx)) (h2 : Z dx = some (dictOf es n)) :
  W.InstAt s.heap a (instObj c.addr dx) c.addr (some (dictOf es n)) := ⟨hz _ _ h1, rfl, rfl, hz _ _ h2⟩
noncomputable def isCl (f : Fn) : Bool := Nat.beq f.ctorIdx (Fn.ctorIdx .cFQ) || Nat.beq f.ctorIdx (Fn.ctorIdx .cFP) || Nat.beq f.ctorIdx (Fn.ctorIdx .cOPT) || Nat.beq f.ctorIdx (Fn.ctorIdx .cFQ2)
noncomputable def okF (o : Option Fn) : Bool := match o with | some f => !isCl f | none => true
theorem okF_e {o : Option Fn} {f : Fn} (k : okF o = true) (h : o = some f) : isCl f = false := by
 subst h
 cases q : isCl f with
 | false => rfl
 | true => exact absurd (show (!isCl f) = true from k) (by rw [q]; exact Bool.false_ne_true)
structure KF (K : Frag) : Prop where
 pg : ∀ c : Cl, plainGet K c.addr "n" = true
 hd : ∀ c : Cl, hasDictIn K c.addr = true
 fld : ∀ (x u : V) (f : Fld) (c : Cl), getF x f = some u → clOf x = some c → findIn K (.ref c.addr) f.str = some none
 meth : ∀ (c : Cl) (m : Mt) (f : Fn), mfn c m = some f → findIn K (.ref c.addr) m.str = some (some (.ref f.addr))
 dun : ∀ (c : Cl) (op : Operator) (f : Fn), dun c op = some f → findIn K (.ref c.addr) (PySem.dunder op.info.2) = some (some (.ref f.addr))
 dunR : ∀ (c : Cl) (op : Operator) (f : Fn), Mine.dun c op = some f → ∃ rc, findIn K (.ref c.addr) (dunderR op.info.2) = some rc ∧ (rc = none ∨ ∃ g : Addr, rc = some (.ref g))
 rdun : ∀ (c : Cl) (op : Operator) (f : Fn), rdun c op = some f → findIn K (.ref c.addr) (dunderR op.info.2) = some (some (.ref f.addr)) ∧ ∃ d : Addr, findIn K (.ref c.addr) (PySem.dunder op.info.2) = some (some (.ref d))
 fn : ∀ f : Fn, isCl f = false → isFn K (.ref f.addr) = true
 int : ∀ op : Operator, ∃ fo ro, findIn K (.type "int") (PySem.dunder op.info.2) = some fo ∧ findIn K (.type "int") (dunderR op.info.2) = some ro
 intsub : ∀ c : Cl, subIn K (.type "int") (.ref c.addr) = some false
 subint : ∀ c : Cl, subIn K (.ref c.addr) (.type "int") = some false
 self : ∀ c : Cl, selfFirst K c.addr = true
 ceq : ∀ (c : Cl) (op : CmpOp) (f : Fn), ceq c op = some f → findIn K (.ref c.addr) (cmpInfo op).2.1 = some (some (.ref f.addr))
 isT : ∀ c d : Cl, (Cl.same c d = true ∨ (c = .fq2 ∧ d = .opt)) → isIn K (.ref c.addr) d.addr = true
 isN : isNotIn K "int" (Cl.addr .fq) = true
 kinFq : kin_not K (Cl.addr .fp) (Cl.addr .fq) = true
 kinT : ∀ c : Cl, kin_notT K c.addr "int" = true
 kg : ∀ c : Cl, plainGet K c.addr "__class__" = true
 ka : ∀ c : Cl, findIn K (.ref c.addr) "__class__" = some (some (.builtin "object.__class__"))
 kn : specialIn K (.builtin "object.__class__") "__get__" = some (some (.builtin "getset_descriptor.__get__"))
 kt : takesIn K (.builtin "object.__class__") = some true
 km : ∀ c : Cl, mroIn K c.addr (.type "object") = some true
 keepFn : ∀ f : Fn, keepIn K (.ref f.addr) = true
 qint : findIn K (.ref (Cl.addr .fq)) "__int__" = some (some (.ref (Fn.addr .qInt)))
 iq : ∃ cd, clsIn K 295 = some cd ∧ cd.mro = [.ref 295, .type "object"]
 in1 : ∀ op : Operator, (op = .Add ∨ op = .Sub) → findIn K (.ref 295) (dunderI op.info.2) = some none
 neg : ∀ c : Cl, findIn K (.ref c.addr) "__neg__" = some (some (.ref (cneg c).addr))
theorem not_cls {f : Fn} (h : isCl f = false) (F : KF K) : isFn K (.ref f.addr) = true := F.fn f h
theorem dun_ok (c : Cl) (op : Operator) : okF (dun c op) = true := by cases c <;> cases op <;> rfl
theorem rdun_ok (c : Cl) (op : Operator) : okF (rdun c op) = true := by cases c <;> cases op <;> rfl
theorem ceq_ok (c : Cl) (op : CmpOp) : okF (ceq c op) = true := by cases c <;> cases op <;> rfl
theorem mfn_ok (c : Cl) (m : Mt) : okF (mfn c m) = true := by cases c <;> cases m <;> rfl
theorem dun_fn {c : Cl} {op : Operator} {f : Fn} (h : dun c op = some f) : isCl f = false := okF_e (dun_ok c op) h
theorem rdun_fn {c : Cl} {op : Operator} {f : Fn} (h : rdun c op = some f) : isCl f = false := okF_e (rdun_ok c op) h
theorem ceq_fn {c : Cl} {op : CmpOp} {f : Fn} (h : ceq c op = some f) : isCl f = false := okF_e (ceq_ok c op) h
theorem cneg_fn (c : Cl) : isCl (cneg c) = false := by cases c <;> rfl
section
variable {A : Around} {E : Value → Shared → Prop} {s : Shared} {Z : ZM} {n : Nat} {T : Tab}
theorem op_attr {v : Value} {x u : V} {f : Fld} {expr : Bool} {Q : Value → Shared → Prop} {k : V → Prop} (KK : KF K) (G : Gd K mg mb s) (hz : ∀ b o, Z b = some o → s.heap.get? b = some o) (r : Rep Z v x) (h : getF x f = some u) (hk' : k u) (hk : Bk Z s k Q) :
  wpAny (model prog w) A (getAttr v f.str expr) Q E s := by
 obtain ⟨c, fs, hf, hc, hfd⟩ := (getF_flds h)
 obtain ⟨a, dx, es, m, fs', rfl, hf', h1, h2, r2⟩ := (r.inst_inv hc)
 rw [hf] at hf'; cases hf'
 obtain ⟨v', hg, hr⟩ := (r2.getL hfd)
 exact get_value G.k (inst_at hz h1 h2) (plainGet_of (KK.pg c)).1 (findObj_own (KK.hd c) (KK.fld x u f c h hc) rfl hg) hr.handed (hk _ _ _ _ (Grow.toks hz _) hr hk')
theorem op_getMethod {v : Value} {x : V} {c : Cl} {m : Mt} {f : Fn} {pl : Sem Bool} {Q : Value × List Value → Shared → Prop} (KK : KF K) (G : Gd K mg mb s) (hz : ∀ b o, Z b = some o → s.heap.get? b = some o) (r : Rep Z v x) (hc : clOf x = some c) (hm : mfn c m = some f) (h : Q (.ref f.addr, [v]) s) :
  wpAny (model prog w) A (getMethod v m.str pl) Q E s := by
 obtain ⟨a, dx, es, l, fs, rfl, hf, h1, h2, r2⟩ := (r.inst_inv hc)
 refine method_fn G.k (inst_at hz h1 h2) (plainGet_of (KK.pg c)).1 (plainGet_of (KK.pg c)).2 (KK.meth c m f hm) (beq_iff_eq.mp (not_cls (okF_e (mfn_ok c m) hm) KK)) (by show (lookIn m.str (dictOf es l)).map _ = _; rw [lookIn_dict, r2.getL_none]; rfl) h
theorem op_call {f : Fn} {vs : List Value} {xs : List V} {Q : Value → Shared → Prop} {k : V → Prop} (TT : TabOk prog w K mg mb n T) (hA : OkA A n) (G : Gd K mg mb s) (hz : ∀ b o, Z b = some o → s.heap.get? b = some o) (zt : ∀ b, isT b → Z b = none) (r : RepL Z vs xs) (h : T f xs k) (hk : Bk Z s k Q) :
  wpAny (model prog w) A (call (.ref f.addr) vs) Q E s := TT f xs k h A s Z vs Q E hA G hz zt r hk
theorem cmpBack_of {Q : Value → Shared → Prop} {k : V → Prop} (hk : Bk Z s k Q) : Bk Z s k (W.CmpBack Q) := fun v x Z' s' g r h => by
 have := hk v x Z' s' g r h
 cases r <;> exact this
theorem same_type {M : Model} {v : Value} {x : V} {c : Cl} (hz : ∀ b o, Z b = some o → s.heap.get? b = some o) (r : Rep Z v x) (hc : clOf x = some c) : Looks M s.heap (typeOf v) (.ref c.addr) := by
 obtain ⟨a, dx, es, l, fs, rfl, hf, h1, h2, r2⟩ := (r.inst_inv hc)
 exact (inst_at hz h1 h2).type
theorem cl_same {c d : Cl} (h : Cl.same c d = true) : c = d := by cases c <;> cases d <;> first | rfl | cases h
theorem sameOrInt_cases {c : Cl} {b : V} (h : sameOrInt c b = true) : (∃ i, b = .int i) ∨ clOf b = some c := by
 cases b <;> first
  | (exact .inl ⟨_, rfl⟩)
  | (haveI h' : Cl.same c _ = true := h; rw [cl_same h']; exact .inr rfl)
  | exact nft h
theorem op_cneg {u : Value} {a : V} {c : Cl} {Q : Value → Shared → Prop} {k : V → Prop} (KK : KF K) (TT : TabOk prog w K mg mb n T) (hA : OkA A n) (G : Gd K mg mb s) (HF : HasFr K s) (hz : ∀ b o, Z b = some o → s.heap.get? b = some o) (zt : ∀ b, isT b → Z b = none)
  (ra : Rep Z u a) (hc : clOf a = some c) (h : T (cneg c) [a] k) (hk : Bk Z s k Q) : wpAny (model prog w) A (unaryOp .USub u) Q E s := by
 haveI ra' := ra
 obtain ⟨bh, L, m, FF, X0, _⟩ := (HF)
 obtain ⟨x, dx, es, l, fs, rfl, hfl, h1, h2, r2⟩ := (ra.inst_inv hc)
 exact ksp_neg FF X0 (inst_at hz h1 h2) (KK.neg c) (not_cls (cneg_fn c) KK) (op_call TT hA G hz zt (.cons ra' .nil) h hk)
noncomputable def isEqOp (op : CmpOp) : Bool := match op with | .Eq => true | .NotEq => true | _ => false
theorem ceq_op {c : Cl} {op : CmpOp} {f : Fn} (h : ceq c op = some f) : op = .Eq ∨ op = .NotEq := by
 have q : (match ceq c op with | some _ => isEqOp op | none => true) = true := by cases c <;> cases op <;> rfl
 rw [h] at q
 cases op <;> first | exact .inl rfl | exact .inr rfl | exact Bool.noConfusion q
theorem op_ceq {op : CmpOp} {u v : Value} {a b : V} {c : Cl} {f : Fn} {Q : Value → Shared → Prop} {k : V → Prop} (KK : KF K) (TT : TabOk prog w K mg mb n T) (hA : OkA A n) (G : Gd K mg mb s) (HF : HasFr K s) (hz : ∀ b o, Z b = some o → s.heap.get? b = some o) (zt : ∀ b, isT b → Z b = none)
  (ra : Rep Z u a) (rb : Rep Z v b) (hc : clOf a = some c) (hs : sameOrInt c b = true) (hf : ceq c op = some f) (h : T f [a, b] k) (hk : Bk Z s k Q) : wpAny (model prog w) A (compareOp op u v) Q E s := by
 haveI ra' := ra
 obtain ⟨bh, L, m, FF, X0, _⟩ := (HF)
 obtain ⟨x, dx, es, l, fs, rfl, hfl, h1, h2, r2⟩ := (ra.inst_inv hc)
 have I := inst_at hz h1 h2
 have hu : A.units < cLine := by haveI := hA.u; omega
 have run : wpAny (model prog w) A (call (.ref f.addr) [.ref x, v]) (W.CmpBack Q) E s := op_call TT hA G hz zt (.cons ra' (.cons rb .nil)) h (cmpBack_of hk)
 haveI cmp : wpAny (model prog w) A (richCompare op (.ref x) v) Q E s := by
  rcases sameOrInt_cases hs with ⟨i, rfl⟩ | hb
  ·obtain ⟨t, rfl⟩ := rb.int_inv
   haveI hn : notFirst K c.addr (.type "int") = true := Bool.or_eq_true_iff.mpr (.inr (by rw [KK.intsub c]; rfl))
   haveI ht : Looks (model prog w) s.heap (typeOf (.int i t)) (.type "int") := Looks.of_pure rfl
   haveI hq := KK.ceq c op f hf
   haveI hfn := not_cls (ceq_fn hf) KK
   exact cmp_K hu FF X0 I ht hn hq hfn run
  ·haveI hn : notFirst K c.addr (.ref c.addr) = true := Bool.or_eq_true_iff.mpr (.inl (beq_self_eq_true _))
   haveI hq := KK.ceq c op f hf
   haveI hfn := not_cls (ceq_fn hf) KK
   exact cmp_K hu FF X0 I (same_type hz rb hb) hn hq hfn run
 rcases ceq_op hf with e | e
 ·subst e; exact cmp_ofEq cmp
 ·subst e; exact cmp_ofNotEq cmp
set_option tactic.hygienic true in
theorem op_truthy {u : Value} {a : V} {Q : Bool → Shared → Prop} {kb : Bool → Prop} (hz : ∀ b o, Z b = some o → s.heap.get? b = some o) (ra : Rep Z u a) (h : Mine.truthy a kb) (hk : ∀ b s', Grow Z s Z s' → kb b → Q b s') : wpAny (model prog w) A (PySem.truthy u) Q E s := by
 cases a <;> first | exact h.elim | skip
 ·rw [ra.none_inv]; exact wpAny_pure (hk _ _ (Grow.refl hz) h)
 ·rw [ra.bool_inv]; exact wpAny_truthy_bool (hk _ _ (Grow.refl hz) h)
 ·rename_i i
  obtain ⟨t, rfl⟩ := ra.int_inv
  refine truthy_int ?_
  have e : (i != 0) = !decide (i = 0) := by
   by_cases h0 : i = 0 <;> simp [h0]
  first
   | exact hk _ _ (Grow.refl hz) (e ▸ h)
   | exact hk _ _ (Grow.toks hz _) (e ▸ h)
end
end
theorem int_mul_inst (i : Int) (t : Tok) (x C dx : Addr) :
  Meets (Builtin.«int.__mul__» ⟨[.int i t, .ref x], []⟩) (fun J R s => s.heap.get? x = some (instObj C dx) ∧ R (.ok (.ret Value.notImplemented)) s) :=
 .of_wp fun prog w A R s h => by obtain ⟨hp, g, d, tk, os⟩ := s; obtain ⟨hl, h⟩ := (h); wp_walk; exact ⟨_, rfl, h⟩
theorem int_sub_inst (i : Int) (t : Tok) (x C dx : Addr) :
  Meets (Builtin.«int.__sub__» ⟨[.int i t, .ref x], []⟩) (fun J R s => s.heap.get? x = some (instObj C dx) ∧ R (.ok (.ret Value.notImplemented)) s) :=
 .of_wp fun prog w A R s h => by obtain ⟨hp, g, d, tk, os⟩ := s; obtain ⟨hl, h⟩ := (h); wp_walk; exact ⟨_, rfl, h⟩
theorem int_div_inst (i : Int) (t : Tok) (x C dx : Addr) :
  Meets (Builtin.«int.__truediv__» ⟨[.int i t, .ref x], []⟩) (fun J R s => s.heap.get? x = some (instObj C dx) ∧ R (.ok (.ret Value.notImplemented)) s) :=
 .of_wp fun prog w A R s h => by obtain ⟨hp, g, d, tk, os⟩ := s; obtain ⟨hl, h⟩ := (h); wp_walk; exact ⟨_, rfl, h⟩
section
variable {A : Around} {E : Value → Shared → Prop} {s : Shared} {Z : ZM} {n : Nat} {T : Tab}
theorem rbin_core {nm : String} {i : Int} {t : Tok} {x C dx : Addr} {f d : Addr} {od : Option Obj} {h₀ : Heap} {L : Addr} {m : Str → Option Value} {Q : Option Value → Shared → Prop} (F : Fr h₀ L s.heap m) (X₀ : K.In h₀) (I : InstAt s.heap x (instObj C dx) C od)
  (hc : selfFirst K C = true) (hs : findIn K (.ref C) (PySem.dunder nm) = some (some (.ref d))) (hr : findIn K (.ref C) (dunderR nm) = some (some (.ref f))) (hf : isFn K (.ref f) = true)
  (hi : fillsNumberSlot (.type "int") nm = pure true) (hsub : subIn K (.ref C) (.type "int") = some false)
  (one : ∀ {Q' : Option Value → Shared → Prop}, Q' none s → wpAny (model prog w) A (tryMethod (.int i t) (PySem.dunder nm) (.ref x)) Q' E s)
  (h : wpAny (model prog w) A (call (.ref f) [.ref x, .int i t]) (W.CmpBack fun v s' => Q (some v) s') E s) :
  wpAny (model prog w) A (binaryOp1 nm (.int i t) (.ref x)) Q E s := by
 haveI X := X₀.keeps F.keep
 obtain ⟨cd, rest, hcd, hm⟩ := (ksp_first hc)
 haveI two := ksp_try X I hr hf h
 obtain ⟨hh, g, dd, tt, os⟩ := s
 haveI L1 : Looks (model prog w) hh (typeOf (.ref x)) (.ref C) := I.type
 haveI L2 : Looks (model prog w) hh (typeOf (.int i t)) (.type "int") := Looks.of_pure rfl
 haveI L3 : Looks (model prog w) hh (fillsNumberSlot (.ref C) nm) true := fills_K X hcd hm hs
 haveI L4 : Looks (model prog w) hh (fillsNumberSlot (.type "int") nm) true := Looks.of_pure hi
 haveI L5 : Looks (model prog w) hh (isSubtype (.ref C) (.type "int")) false := looks_subIn X hsub
 haveI L7 : Looks (model prog w) hh (numberSlotInPython (.type "int") nm) false := Looks.of_pure rfl
 haveI hne : (Value.type "int" == Value.ref C) = false := Bool.eq_false_iff.mpr fun q => by cases beq_iff_eq.mp q
 unfold binaryOp1
 refine wpAny_bind (L2.here (wpAny_bind (L1.here (wpAny_bind (L4.here ?_)))))
 rw [hne]
 refine wpAny_bind (L3.here ?_)
 refine wpAny_bind (L5.here ?_)
 refine wpAny_bind (wpAny_pure ?_)
 refine wpAny_bind (one ?_)
 refine wpAny_bind (wpAny_mono two (fun r s' hr' => ?_) fun J J e => e)
 obtain ⟨v, rfl, hq⟩ := (hr')
 exact wpAny_bind (wpAny_rule (wpAny_pure hq))
theorem bin1_run {nm : String} {a b ta tb : Value} {ro : Option Value} {e right : Bool} {Q : Value → Shared → Prop} (he : (ta == tb) = e) (L1 : Looks (model prog w) s.heap (typeOf a) ta) (L2 : Looks (model prog w) s.heap (typeOf b) tb)
  (L3 : Looks (model prog w) s.heap (fillsNumberSlot ta nm) true)
  (hr : e = false → Looks (model prog w) s.heap (fillsNumberSlot tb nm) right ∧ Looks (model prog w) s.heap (isSubtype tb ta) false ∧ Looks (model prog w) s.heap (numberSlotInPython ta nm) true ∧ Looks (model prog w) s.heap (numberSlotInPython tb nm) false ∧ Looks (model prog w) s.heap (typeLookup tb (dunderR nm)) ro)
  (one : wpAny (model prog w) A (tryMethod a (PySem.dunder nm) b) (fun r s' => ∃ x, r = some x ∧ Q x s') E s) : wpAny (model prog w) A (binaryOp1 nm a b) (fun r s' => ∃ x, r = some x ∧ Q x s') E s := by
 unfold binaryOp1
 refine wpAny_bind (L1.here (wpAny_bind (L2.here (wpAny_bind (L3.here ?_)))))
 rw [he]
 have fin : ∀ {f : Option Value → Sem (Option Value)}, (∀ x, f (some x) = pure (some x)) → wpAny (model prog w) A (tryMethod a (PySem.dunder nm) b >>= f) (fun r s' => ∃ x, r = some x ∧ Q x s') E s := fun hf => wpAny_bind (wpAny_mono one (fun r s' ⟨x, e, q⟩ => by subst e; rw [hf]; exact wpAny_pure ⟨x, rfl, q⟩) fun J J e => e)
 cases e with
 | true => exact fin fun x => rfl
 | false =>
  obtain ⟨L4, L5, L6, L7, L8⟩ := (hr rfl)
  refine wpAny_bind (L4.here ?_)
  cases right with
  | false => exact fin fun x => rfl
  | true =>
   refine wpAny_bind (L5.here ?_)
   refine wpAny_bind (L6.here ?_)
   refine wpAny_bind (L7.here ?_)
   refine wpAny_bind (L8.here ?_)
   exact fin fun x => rfl
theorem bin1_dun {op : Operator} {u v : Value} {a b : V} {c : Cl} {f : Fn} {Q : Value → Shared → Prop} {k : V → Prop} (KK : KF K) (TT : TabOk prog w K mg mb n T) (hA : OkA A n) (G : Gd K mg mb s) (HF : HasFr K s) (hz : ∀ b o, Z b = some o → s.heap.get? b = some o) (zt : ∀ b, isT b → Z b = none)
  (ra : Rep Z u a) (rb : Rep Z v b) (hc : clOf a = some c) (hs : sameOrInt c b = true) (hf : dun c op = some f) (h : T f [a, b] k) (hk : Bk Z s k Q) :
  wpAny (model prog w) A (binaryOp1 op.info.2 u v) (fun r s' => ∃ x, r = some x ∧ Q x s') E s := by
 haveI ra' := ra
 obtain ⟨bh, L, m, FF, X0, _⟩ := (HF)
 obtain ⟨x, dx, es, l, fs, rfl, hfl, h1, h2, r2⟩ := (ra.inst_inv hc)
 have I := inst_at hz h1 h2
 have run : wpAny (model prog w) A (call (.ref f.addr) [.ref x, v]) (W.CmpBack Q) E s := op_call TT hA G hz zt (.cons ra' (.cons rb .nil)) h (cmpBack_of hk)
 have X := X0.keeps FF.keep
 haveI hd := KK.dun c op f hf
 obtain ⟨cd, rest, hcd, hm⟩ := (ksp_first (KK.self c))
 have one := ksp_try X I hd (not_cls (dun_fn hf) KK) run
 obtain ⟨rc, hr, hp⟩ := (KK.dunR c op f hf)
 obtain ⟨fo, ro, i1, i2⟩ := (KK.int op)
 haveI hsub := KK.intsub c
 generalize op.info.2 = nm at hd one hr i1 i2 ⊢
 have L1 : Looks (model prog w) s.heap (typeOf (.ref x)) (.ref c.addr) := I.type
 have L3 : Looks (model prog w) s.heap (fillsNumberSlot (.ref c.addr) nm) true := fills_K X hcd hm hd
 rcases sameOrInt_cases hs with ⟨i, rfl⟩ | hb
 ·obtain ⟨t, rfl⟩ := rb.int_inv
  exact bin1_run (e := false) (Bool.eq_false_iff.mpr fun q => by cases beq_iff_eq.mp q) L1 (Looks.of_pure rfl) L3 (fun J => ⟨ksp_fillsT X i1 i2, looks_subIn X hsub, ksp_inPy X hd hr hp, Looks.of_pure rfl, looks_findIn X i2⟩) one
 ·exact bin1_run (ro := none) (right := false) (e := true) (beq_self_eq_true _) L1 (same_type hz rb hb) L3 (fun h => by cases h) one
theorem try_mul {i : Int} {t : Tok} {x C dx : Addr} {Q : Option Value → Shared → Prop} (ho : s.heap.get? x = some (instObj C dx)) (h : Q none s) : wpAny (model prog w) A (tryMethod (.int i t) (PySem.dunder "mul") (.ref x)) Q E s := by
 haveI e1 := PySem.F.slot_int_mul
 haveI e2 := PySem.F.entry_int_mul
 haveI e3 := typeIs_int s i t
 haveI e4 := PySem.F.args_int_mul_2 (.int i t) (.ref x)
 haveI e5 : ∀ {Q' : Value → Shared → Prop}, Q' .notImplemented s → wpAny (model prog w) A (call (.builtin "int.__mul__") [.int i t, .ref x]) Q' E s := fun h => by
  refine call_meets e1 e3 e2 e4 (int_mul_inst i t x C dx) ?_
  exact ⟨ho, h⟩
 unfold tryMethod
 refine wpAny_bind (m := callSpecial? (.int i t) (PySem.dunder "mul") [.ref x]) (wpAny_callSpecial?_slot (name := PySem.dunder "mul") e3 e1 (e5 ?_))
 exact wpAny_pure h
theorem try_sub {i : Int} {t : Tok} {x C dx : Addr} {Q : Option Value → Shared → Prop} (ho : s.heap.get? x = some (instObj C dx)) (h : Q none s) : wpAny (model prog w) A (tryMethod (.int i t) (PySem.dunder "sub") (.ref x)) Q E s := by
 haveI e1 := PySem.F.slot_int_sub
 haveI e2 := PySem.F.entry_int_sub
 haveI e3 := typeIs_int s i t
 haveI e4 := PySem.F.args_int_sub_2 (.int i t) (.ref x)
 haveI e5 : ∀ {Q' : Value → Shared → Prop}, Q' .notImplemented s → wpAny (model prog w) A (call (.builtin "int.__sub__") [.int i t, .ref x]) Q' E s := fun h => by
  refine call_meets e1 e3 e2 e4 (int_sub_inst i t x C dx) ?_
  exact ⟨ho, h⟩
 unfold tryMethod
 refine wpAny_bind (m := callSpecial? (.int i t) (PySem.dunder "sub") [.ref x]) (wpAny_callSpecial?_slot (name := PySem.dunder "sub") e3 e1 (e5 ?_))
 exact wpAny_pure h
theorem try_div {i : Int} {t : Tok} {x C dx : Addr} {Q : Option Value → Shared → Prop} (ho : s.heap.get? x = some (instObj C dx)) (h : Q none s) : wpAny (model prog w) A (tryMethod (.int i t) (PySem.dunder "truediv") (.ref x)) Q E s := by
 haveI e1 := PySem.F.slot_int_truediv
 haveI e2 := PySem.F.entry_int_truediv
 haveI e3 := typeIs_int s i t
 haveI e4 := PySem.F.args_int_truediv_2 (.int i t) (.ref x)
 haveI e5 : ∀ {Q' : Value → Shared → Prop}, Q' .notImplemented s → wpAny (model prog w) A (call (.builtin "int.__truediv__") [.int i t, .ref x]) Q' E s := fun h => by
  refine call_meets e1 e3 e2 e4 (int_div_inst i t x C dx) ?_
  exact ⟨ho, h⟩
 unfold tryMethod
 refine wpAny_bind (m := callSpecial? (.int i t) (PySem.dunder "truediv") [.ref x]) (wpAny_callSpecial?_slot (name := PySem.dunder "truediv") e3 e1 (e5 ?_))
 exact wpAny_pure h
noncomputable def smd (op : Operator) : Bool := match op with | .Sub => true | .Mult => true | .Div => true | _ => false
noncomputable def okS (op : Operator) (o : Option Fn) : Bool := match o with | some _ => smd op | none => true
theorem rdun_smd (c : Cl) (op : Operator) : okS op (rdun c op) = true := by cases c <;> cases op <;> rfl
theorem rdun_op {op : Operator} {o : Option Fn} {f : Fn} (k : okS op o = true) (h : o = some f) : op = .Sub ∨ op = .Mult ∨ op = .Div := by
 subst h
 cases op <;> first | exact .inl rfl | exact .inr (.inl rfl) | exact .inr (.inr rfl) | exact (Bool.false_ne_true k).elim
theorem bin1_rdun {op : Operator} {u : Value} {b : V} {i : Int} {t : Tok} {c : Cl} {f : Fn} {Q : Value → Shared → Prop} {k : V → Prop} (KK : KF K) (TT : TabOk prog w K mg mb n T) (hA : OkA A n) (G : Gd K mg mb s) (HF : HasFr K s) (hz : ∀ b o, Z b = some o → s.heap.get? b = some o) (zt : ∀ b, isT b → Z b = none)
  (rb : Rep Z u b) (hc : clOf b = some c) (hf : rdun c op = some f) (h : T f [b, .int i] k) (hk : Bk Z s k Q) :
  wpAny (model prog w) A (binaryOp1 op.info.2 (.int i t) u) (fun r s' => ∃ x, r = some x ∧ Q x s') E s := by
 haveI rb' := rb
 obtain ⟨bh, L, m, FF, X0, _⟩ := (HF)
 obtain ⟨x, dx, es, l, fs, rfl, hfl, h1, h2, r2⟩ := (rb.inst_inv hc)
 haveI I := inst_at hz h1 h2
 have run : wpAny (model prog w) A (call (.ref f.addr) [.ref x, .int i t]) (W.CmpBack fun v s' => ∃ x, some v = some x ∧ Q x s') E s := op_call TT hA G hz zt (.cons rb' (.cons (.int i t) .nil)) h (cmpBack_of fun v x Z' s' g r h => ⟨_, rfl, hk v x Z' s' g r h⟩)
 obtain ⟨hr, d, hd⟩ := (KK.rdun c op f hf)
 haveI hfn := not_cls (rdun_fn hf) KK
 haveI ho := hz _ _ h1
 rcases rdun_op (rdun_smd c op) hf with rfl | rfl | rfl
 ·exact rbin_core (nm := "sub") FF X0 I (KK.self c) hd hr hfn PySem.F.fills_int_sub (KK.subint c) (try_sub ho) run
 ·exact rbin_core (nm := "mul") FF X0 I (KK.self c) hd hr hfn PySem.F.fills_int_mul (KK.subint c) (try_mul ho) run
 ·exact rbin_core (nm := "truediv") FF X0 I (KK.self c) hd hr hfn PySem.F.fills_int_truediv (KK.subint c) (try_div ho) run
theorem bin_of1 {op : Operator} {u v : Value} {Q : Value → Shared → Prop} (h : wpAny (model prog w) A (binaryOp1 op.info.2 u v) (fun r s' => ∃ x, r = some x ∧ Q x s') E s) : wpAny (model prog w) A (binaryOp op u v) Q E s := by
 unfold binaryOp
 refine wpAny_holding (wpAny_bind (wpAny_mono h (fun r s' hr => ?_) fun J J e => e))
 obtain ⟨x, rfl, hq⟩ := (hr)
 exact wpAny_pure hq
theorem op_bin {op : Operator} {u v : Value} {a b : V} {Q : Value → Shared → Prop} {k : V → Prop} (KK : KF K) (TT : TabOk prog w K mg mb n T) (hA : OkA A n) (G : Gd K mg mb s) (HF : HasFr K s) (hz : ∀ b o, Z b = some o → s.heap.get? b = some o) (zt : ∀ b, isT b → Z b = none)
  (ra : Rep Z u a) (rb : Rep Z v b) (h : wBin T op a b k) (hk : Bk Z s k Q) : wpAny (model prog w) A (binaryOp op u v) Q E s := by
 have el : wBinC T op a b k → wpAny (model prog w) A (binaryOp op u v) Q E s := fun h => by
  obtain ⟨c, hc, h⟩ := (onCl_e h)
  obtain ⟨hs, h⟩ := (ifP_e h)
  obtain ⟨f, hf, h⟩ := (onFn_e h)
  exact bin_of1 (bin1_dun KK TT hA G HF hz zt ra rb hc hs hf h hk)
 cases a with
 | int x =>
  obtain ⟨t, rfl⟩ := ra.int_inv
  have rl : wBinR T op x b k → wpAny (model prog w) A (binaryOp op (.int x t) v) Q E s := fun h => by
   obtain ⟨c, hc, h⟩ := (onCl_e h)
   obtain ⟨f, hf, h⟩ := (onFn_e h)
   exact bin_of1 (bin1_rdun KK TT hA G HF hz zt rb hc hf h hk)
  cases b with
  | int y => obtain ⟨t', rfl⟩ := rb.int_inv; exact op_int hz h hk
  | _ => exact rl h
 | lst xs =>
  cases b with
  | lst ys =>
   obtain ⟨ho, h1⟩ := ifP_e h
   cases isAdd_e ho
   obtain ⟨hl, h⟩ := (okL_iff (evL_o h1))
   exact op_list_add hz ra rb hl h hk
  | int m =>
   obtain ⟨ho, h1⟩ := ifP_e h
   cases isMul_e ho
   rcases xs with _ | ⟨x, _ | ⟨y, l⟩⟩
   ·exact h1.elim
   ·obtain ⟨h0, h⟩ := (h1)
    obtain ⟨hl, h⟩ := (okL_iff (evL_o h))
    obtain ⟨t, rfl⟩ := rb.int_inv
    exact op_list_mul hz ra hl (by omega) h hk
   ·exact h1.elim
  | _ => exact h.elim
 | tup xs =>
  cases b with
  | tup ys =>
   obtain ⟨ho, h1⟩ := ifP_e h
   cases isAdd_e ho
   obtain ⟨hl, h⟩ := (okL_iff (evL_o h1))
   exact op_tup_add hz ra rb hl h hk
  | _ => exact h.elim
 | _ => exact el h
theorem ibin_of1 {op : Operator} {u v ta : Value} {Q : Value → Shared → Prop} (ht : Looks (model prog w) s.heap (typeOf u) ta) (hf : Looks (model prog w) s.heap (fillsInplaceSlot ta op.info.2 (op == .Add)) false)
  (h : wpAny (model prog w) A (binaryOp1 op.info.2 u v) (fun r s' => ∃ x, r = some x ∧ Q x s') E s) : wpAny (model prog w) A (inplaceOp op u v) Q E s := by
 unfold inplaceOp
 refine wpAny_holding (wpAny_bind (ht.here (wpAny_bind (hf.here ?_))))
 refine wpAny_bind (wpAny_mono h (fun r s' hr => ?_) fun J J e => e)
 obtain ⟨x, rfl, hq⟩ := (hr)
 exact wpAny_pure hq
theorem fillsI_fq {M : Model} {h : Heap} {op : Operator} {add : Bool} (KK : KF K) (X : K.In h) (ho : op = .Add ∨ op = .Sub) : Looks M h (fillsInplaceSlot (.ref 295) op.info.2 add) false := by
 obtain ⟨cd, hcd, hm⟩ := (KK.iq)
 haveI hi := KK.in1 op ho
 intro A Q E s k q
 haveI Lm : Looks M h (mroOf (.ref 295)) cd.mro := (looks_clsIn X hcd).andThen (f := fun cd => pure cd.mro) .now
 haveI Lm' := Lm.keeps k
 obtain ⟨hh, g, d, tt, os⟩ := s
 haveI X' : K.In hh := X.keeps k
 haveI L1 : Looks M hh (typeLookup (.ref 295) (dunderI op.info.2)) none := looks_findIn X' hi
 haveI L2 : Looks M hh (typeLookup (.type "object") (dunderI op.info.2)) none := by
  rcases ho with rfl | rfl <;> exact Looks.of_pure rfl
 unfold fillsInplaceSlot
 refine wpAny_bind (Lm'.at ?_)
 rw [hm, List.anyM_cons]
 repeat lk
 exact q
theorem op_ibin {op : Operator} {u v : Value} {a b : V} {Q : Value → Shared → Prop} {k : V → Prop} (KK : KF K) (TT : TabOk prog w K mg mb n T) (hA : OkA A n) (G : Gd K mg mb s) (HF : HasFr K s) (hz : ∀ b o, Z b = some o → s.heap.get? b = some o) (zt : ∀ b, isT b → Z b = none)
  (ra : Rep Z u a) (rb : Rep Z v b) (h : wIBin T op a b k) (hk : Bk Z s k Q) : wpAny (model prog w) A (inplaceOp op u v) Q E s := by
 haveI hop : (op = .Add ∨ op = .Sub) ∧ wBin T op a b k ∧ ((∃ i, a = .int i) ∨ ∃ n p, a = .fq n p) := by
  cases op <;> first | exact h.elim | skip
  ·cases a <;> first | exact h.elim | exact ⟨.inl rfl, h, .inl ⟨_, rfl⟩⟩ | exact ⟨.inl rfl, h, .inr ⟨_, _, rfl⟩⟩
  ·cases a <;> first | exact h.elim | exact ⟨.inr rfl, h, .inl ⟨_, rfl⟩⟩ | exact ⟨.inr rfl, h, .inr ⟨_, _, rfl⟩⟩
 obtain ⟨ho, h, ⟨i, rfl⟩ | ⟨m, p, rfl⟩⟩ := hop
 ·obtain ⟨t, rfl⟩ := ra.int_inv
  haveI hfi : Looks (model prog w) s.heap (fillsInplaceSlot (.type "int") op.info.2 (op == .Add)) false := by rcases ho with rfl | rfl <;> exact Looks.of_pure rfl
  have rl : wBinR T op i b k → wpAny (model prog w) A (inplaceOp op (.int i t) v) Q E s := fun h => by
   obtain ⟨c, hc, h⟩ := (onCl_e h)
   obtain ⟨f, hf, h⟩ := (onFn_e h)
   exact ibin_of1 (Looks.of_pure rfl) hfi (bin1_rdun KK TT hA G HF hz zt rb hc hf h hk)
  cases b with
  | int y => obtain ⟨t', rfl⟩ := rb.int_inv; exact iop_int hz h hk
  | _ => exact rl h
 ·haveI ht : Looks (model prog w) s.heap (typeOf u) (.ref (Cl.addr .fq)) := same_type hz ra rfl
  obtain ⟨hs, h⟩ := (ifP_e (show ifP (sameOrInt .fq b) (onFn (dun .fq op) fun f => T f [.fq m p, b] k) from h))
  obtain ⟨f, hf, h⟩ := (onFn_e h)
  exact ibin_of1 ht (fillsI_fq KK G.k ho) (bin1_dun KK TT hA G HF hz zt ra rb rfl hs hf h hk)
end
section
variable {A : Around} {E : Value → Shared → Prop} {s : Shared} {Z : ZM} {n : Nat} {T : Tab}
theorem Rep.attr {v : Value} {x u : V} {f : Fld} (r : Rep Z v x) (h : getF x f = some u) : ∃ a, v = .ref a ∧ ∃ c dx, Z a = some (instObj c dx) ∧ ∃ es n, Z dx = some (dictOf es n) ∧ ∃ w, PySem.W.getL f.str es = some (some w) ∧ Rep Z w u := by
 obtain ⟨c, fs, hf, hc, hfd⟩ := (getF_flds h)
 obtain ⟨a, dx, es, n, e, h1, h2, q⟩ := (r.invF hf)
 obtain ⟨w, hg, hr⟩ := (q.getL hfd)
 exact ⟨a, e, _, _, h1, _, _, h2, w, hg, hr⟩
theorem Rep.fld {v : Value} {x y u u' : V} {f : Fld} (r1 : Rep Z v x) (r2 : Rep Z v y) (c1 : getF x f = some u) (c2 : getF y f = some u') : ∃ w, Rep Z w u ∧ Rep Z w u' := by
 obtain ⟨a, e, c, dx, h1, es, n, h2, w, h3, h4⟩ := (r1.attr c1)
 obtain ⟨a', e', c', dx', h1', es', n', h2', w', h3', h4'⟩ := (r2.attr c2)
 cases Value.ref.inj (e.symm.trans e')
 haveI ed : dx = dx' := Value.ref.inj (Option.some.inj (congrArg (fun o : Option Obj => o.bind fun o => o.dict.map Value.ref) (h1.symm.trans h1')))
 subst ed
 have ee : es.toArray = es'.toArray := by cases (h2.symm.trans h2'); rfl
 cases (show es = es' from congrArg Array.toList ee)
 cases h3.symm.trans h3'
 exact ⟨_, h4, h4'⟩
theorem Rep.int_eq {w : Value} {i j : Int} (a : Rep Z w (.int i)) (b : Rep Z w (.int j)) : i = j := by
 obtain ⟨t, e⟩ := a.int_inv
 obtain ⟨u, q⟩ := b.int_inv
 exact (Value.int.inj (e.symm.trans q)).1
theorem Rep.tup_eq {w : Value} {xs ys : List V} (a : Rep Z w (.tup xs)) (b : Rep Z w (.tup ys)) : ∃ us, RepL Z us xs ∧ RepL Z us ys := by
 obtain ⟨l, o, us, k, e, ho, hc, hd, hl, r⟩ := a.tup_inv
 obtain ⟨l', o', us', k', e', ho', hc', hd', hl', r'⟩ := (b.tup_inv)
 cases Value.ref.inj (e.symm.trans e')
 cases ho.symm.trans ho'
 cases (show us = us' from congrArg Array.toList (Data.seq.inj (hd.symm.trans hd')).1)
 exact ⟨_, r, r'⟩
theorem fq_inj {v : Value} {a b p q : Int} (r1 : Rep Z v (.fq a p)) (r2 : Rep Z v (.fq b q)) : a = b := by
 obtain ⟨_, a1, a2⟩ := r1.fld r2 (f := .n) rfl rfl
 exact a1.int_eq a2
theorem fp_inj {v : Value} {x y : F} {p q : Int} (r1 : Rep Z v (.fp x p)) (r2 : Rep Z v (.fp y q)) : x = y := by
 obtain ⟨_, b1, b2⟩ := ((r1.fld r2 (f := .cs) rfl rfl))
 obtain ⟨us, l1, l2⟩ := (b1.tup_eq b2)
 obtain ⟨w, us, rfl, c1, l1⟩ := (l1.cons_inv)
 obtain ⟨_, _, e, c2, l2⟩ := (l2.cons_inv)
 cases e
 obtain ⟨w, us, rfl, d1, l1⟩ := (l1.cons_inv)
 obtain ⟨_, _, e, d2, l2⟩ := (l2.cons_inv)
 cases e
 exact congr (congrArg F.mk (fq_inj c1 c2)) (fq_inj d1 d2)
theorem eqB_fp {u v : Value} {x y : F} {p q : Int} {b : Bool} {Q : Bool → Shared → Prop} (KK : KF K) (TT : TabOk prog w K mg mb n T) (hA : OkA A n) (G : Gd K mg mb s) (HF : HasFr K s) (hz : ∀ b o, Z b = some o → s.heap.get? b = some o) (zt : ∀ b, isT b → Z b = none)
  (ra : Rep Z u (.fp x p)) (rb : Rep Z v (.fp y q)) (h : T .fEq [.fp x p, .fp y q] (· = .bool b)) (hxy : x = y → b = true) (hQ : ∀ Z' s', Grow Z s Z' s' → Q b s') : wpAny (model prog w) A (eqBool u v) Q E s := by
 haveI ra0 := ra
 haveI rb0 := rb
 obtain ⟨x1, dx1, es1, n1, fs1, rfl, hf1, h1, h2, s1⟩ := (ra.inst_inv (c := .fp) rfl)
 obtain ⟨x2, dx2, es2, n2, fs2, rfl, hf2, h3, h4, s2⟩ := (rb.inst_inv (c := .fp) rfl)
 unfold eqBool
 refine wpAny_holding ?_
 show wpAny _ _ (if (Value.ref x1 == Value.ref x2) = true then _ else _) Q E s
 by_cases hab : (Value.ref x1 == Value.ref x2) = true
 ·rw [if_pos hab]
  haveI e : x1 = x2 := by haveI := eq_of_beq hab; injection this
  subst e
  haveI := hxy (fp_inj ra0 rb0)
  subst this
  exact wpAny_bind (wpAny_rule (wpAny_pure (hQ _ _ (Grow.refl hz))))
 ·rw [if_neg hab]
  haveI cmp : wpAny (model prog w) A (compareOp .Eq (.ref x1) (.ref x2)) (fun r s' => wpAny (model prog w) A (truthOfDropped r) Q E s') E s := by
   refine op_ceq KK TT hA G HF hz zt ra0 rb0 (c := .fp) rfl rfl rfl h fun r X Z' s' g rr e => ?_
   subst e
   rw [rr.bool_inv]
   exact wpAny_truthy_bool (hQ _ _ g)
  exact wpAny_bind cmp
theorem op_pair {u v : Value} {x1 x2 y1 y2 : F} {p1 p2 q1 q2 : Int} {b1 b2 : Bool} {Q : Value → Shared → Prop} (KK : KF K) (TT : TabOk prog w K mg mb n T) (hA : OkA A (n + 1)) (G : Gd K mg mb s) (HF : HasFr K s) (hz : ∀ b o, Z b = some o → s.heap.get? b = some o) (zt : ∀ b, isT b → Z b = none)
  (ra : Rep Z u (.tup [.fp x1 p1, .fp x2 p2])) (rb : Rep Z v (.tup [.fp y1 q1, .fp y2 q2])) (t1 : T .fEq [.fp x1 p1, .fp y1 q1] (· = .bool b1)) (t2 : T .fEq [.fp x2 p2, .fp y2 q2] (· = .bool b2)) (e1 : x1 = y1 → b1 = true) (e2 : x2 = y2 → b2 = true)
  (hQ : ∀ Z' s', Grow Z s Z' s' → Q (.bool (b1 && b2)) s') : wpAny (model prog w) A (compareOp .Eq u v) Q E s := by
 obtain ⟨a, oa, us, na, rfl, hoa, hca, hda, hla, rla⟩ := (ra.tup_inv)
 obtain ⟨b, ob, vs, nb, rfl, hob, hcb, hdb, hlb, rlb⟩ := (rb.tup_inv)
 obtain ⟨u1, us, rfl, ra1, rla⟩ := rla.cons_inv
 obtain ⟨u2, us, rfl, ra2, rla⟩ := rla.cons_inv
 cases rla
 obtain ⟨v1, vs, rfl, rb1, rlb⟩ := rlb.cons_inv
 obtain ⟨v2, vs, rfl, rb2, rlb⟩ := rlb.cons_inv
 cases rlb
 haveI hTa : s.TypeIs (.ref a) "tuple" := ⟨_, hz _ _ hoa, hca⟩
 haveI hTb : s.TypeIs (.ref b) "tuple" := ⟨_, hz _ _ hob, hcb⟩
 have hu : A.units < cLine := by haveI := hA.u; omega
 show wpAny (model prog w) A (richCompare .Eq (.ref a) (.ref b)) Q E s
 refine wpAny_richCompare_same_room (op := .Eq) hTa hTb F.slot_tuple_eq (wpAny_call_entry F.slot_tuple_eq hTa F.entry_tuple_eq ?_ (F.args_tuple_eq_2 _ _)) hu
 show wpAny _ _ (isInstance (.ref b) (.type "tuple") >>= _) _ _ s
 refine wpAny_bind (wpAny_isInstance hTb isSubtype_tuple_tuple ?_)
 simp only [Bool.not_true, Bool.false_eq_true, if_false]
 refine wpAny_bind (wpAny_tupleItemsOf (hz _ _ hoa) hda ?_)
 refine wpAny_bind (wpAny_tupleItemsOf (hz _ _ hob) hdb ?_)
 refine wpAny_bind ?_
 show wpAny _ _ (forIn [(u1, v1), (u2, v2)] _ _) _ _ s
 rw [List.forIn_cons]
 refine wpAny_bind (wpAny_bind (eqB_fp KK TT hA.in1 G HF hz zt ra1 rb1 t1 e1 fun Z1 s1 g1 => ?_))
 cases b1 with
 | false =>
  simp only [Bool.not_false, if_true]
  exact wpAny_bind (wpAny_pure (wpAny_pure (wpAny_pure (wpAny_pure ⟨_, rfl, nofun, hQ _ _ g1⟩))))
 | true =>
  simp only [Bool.not_true, Bool.false_eq_true, if_false]
  refine wpAny_pure ?_
  haveI zt1 := zt_grow G zt g1
  show wpAny _ _ (forIn [(u2, v2)] _ _) _ _ s1
  rw [List.forIn_cons]
  refine wpAny_bind (wpAny_bind (eqB_fp KK TT hA.in1 (G.keep g1.keep g1.bare) (HF.keep g1.keep) g1.sub zt1 (ra2.mono g1.le) (rb2.mono g1.le) t2 e2 fun Z2 s2 g2 => ?_))
  cases b2 with
  | false =>
   simp only [Bool.not_false, if_true]
   exact wpAny_bind (wpAny_pure (wpAny_pure (wpAny_pure (wpAny_pure ⟨_, rfl, nofun, hQ _ _ (g1.trans g2)⟩))))
  | true =>
   simp only [Bool.not_true, Bool.false_eq_true, if_false]
   refine wpAny_pure ?_
   exact wpAny_pure (wpAny_pure ⟨_, rfl, nofun, hQ _ _ (g1.trans g2)⟩)
end
noncomputable def toD : Nat → V → PyData
 | 0, _ => .none
 | n + 1, v => match v with
  | .int i => .int i
  | .tup vs => .tuple (vs.map (toD n))
  | .lst vs => .list (vs.map (toD n))
  | _ => .none
theorem canLayAll_map {f : V → PyData} (hf : ∀ v, (f v).canLay0 = true) (vs : List V) : PyData.canLayAll0 (vs.map f) = true := by
 induction vs with
 | nil => rfl
 | cons v r ih => exact Bool.and_eq_true_iff.mpr ⟨hf v, ih⟩
theorem canLay_toD (n : Nat) : ∀ v : V, (toD n v).canLay0 = true := by
 induction n with
 | zero => exact fun _ => rfl
 | succ n ih =>
  intro v
  cases v <;> first | rfl | exact canLayAll_map ih _
theorem depthAll_map {f : V → PyData} {n : Nat} (hf : ∀ v, (f v).depth ≤ n) (vs : List V) : PyData.depthAll (vs.map f) ≤ n := by
 induction vs with
 | nil => exact Nat.zero_le _
 | cons v r ih => exact Nat.max_le.mpr ⟨hf v, ih⟩
theorem depth_toD (n : Nat) : ∀ v : V, (toD n v).depth ≤ n := by
 induction n with
 | zero => exact fun _ => Nat.zero_le _
 | succ n ih =>
  intro v
  cases v <;> first | exact Nat.zero_le _ | exact Nat.succ_le_succ (depthAll_map ih _)
theorem shaped_toD (v : V) : PySem.SeqAt.shaped (toD 5 v) = true := by
 unfold PySem.SeqAt.shaped
 rw [canLay_toD]
 exact decide_eq_true (Nat.le_trans (depth_toD 5 v) (by decide))
theorem eqvAll_map {f : V → PyData} {g : V → V → Bool} (P : V → Prop) (hf : ∀ a b, P a → P b → PyData.eqv (f a) (f b) = g a b) (xs : List V) : ∀ ys : List V, (∀ a ∈ xs, P a) → (∀ b ∈ ys, P b) → PyData.eqvAll (xs.map f) (ys.map f) = veqL g xs ys := by
 induction xs with
 | nil => intro ys _ _; cases ys <;> rfl
 | cons x xs ih =>
  intro ys h1 h2
  cases ys with
  | nil => rfl
  | cons y ys => exact congr (congrArg and (hf x y (h1 x (.head _)) (h2 y (.head _)))) (ih ys (fun a h => h1 a (.tail _ h)) fun a h => h2 a (.tail _ h))
@[elab_as_elim] theorem isData_e {n : Nat} {P : V → Prop} (v : V) (h : isData (n + 1) v = true) (h0 : P .none) (h1 : ∀ i, P (.int i)) (h2 : ∀ vs, (∀ x ∈ vs, isData n x = true) → P (.tup vs)) (h3 : ∀ vs, (∀ x ∈ vs, isData n x = true) → P (.lst vs)) : P v := by
 cases v <;> first | exact h0 | exact h1 _ | exact h2 _ (List.all_eq_true.mp h) | exact h3 _ (List.all_eq_true.mp h) | exact nft h
theorem eqv_toD (n : Nat) : ∀ a b : V, isData n a = true → isData n b = true → PyData.eqv (toD n a) (toD n b) = veq n a b := by
 induction n with
 | zero => exact fun _ _ h => nft h
 | succ n ih =>
  intro a b ha hb
  refine isData_e a ha ?_ (fun i => ?_) (fun xs hx => ?_) fun xs hx => ?_
  ·exact isData_e b hb rfl (fun j => rfl) (fun ys hy => rfl) fun ys hy => rfl
  ·exact isData_e b hb rfl (fun j => rfl) (fun ys hy => rfl) fun ys hy => rfl
  ·exact isData_e b hb rfl (fun j => rfl) (fun ys hy => eqvAll_map _ ih _ _ hx hy) fun ys hy => rfl
  ·exact isData_e b hb rfl (fun j => rfl) (fun ys hy => rfl) fun ys hy => eqvAll_map _ ih _ _ hx hy
theorem RepL.reads {Z : ZM} {h : Heap} {f : V → PyData} (P : V → Prop) (hf : ∀ v x, Rep Z v x → P x → ∃ as, Reads h v (f x) as) {vs : List Value} {xs : List V} (r : RepL Z vs xs) (hp : ∀ x ∈ xs, P x) : ∃ as, ReadsAll h vs (xs.map f) as := by
 refine RepL.ind (P := fun vs xs => (∀ x ∈ xs, P x) → ∃ as, ReadsAll h vs (xs.map f) as) (fun J => ⟨_, .nil⟩) (fun {v x vs xs} hr _ ih hp => ?_) r hp
 obtain ⟨as, ra⟩ := hf _ _ hr (hp x (List.mem_cons_self ..))
 obtain ⟨bs, rb⟩ := ih fun a h => hp a (.tail _ h)
 exact ⟨_, .cons ra rb⟩
theorem Rep.reads {Z : ZM} {h : Heap} (hz : ∀ b o, Z b = some o → h.get? b = some o) (n : Nat) : ∀ (v : Value) (x : V), Rep Z v x → isData n x = true → ∃ as, Reads h v (toD n x) as := by
 induction n with
 | zero => exact fun _ _ _ q => Bool.noConfusion (show false = true from q)
 | succ n ih =>
  intro v x r q
  revert r
  refine isData_e x q (fun r => ?_) (fun i r => ?_) (fun xs hx r => ?_) fun xs hx r => ?_
  ·rw [r.none_inv]; exact ⟨_, .none⟩
  ·obtain ⟨t, rfl⟩ := r.int_inv; exact ⟨_, .int _ _⟩
  ·obtain ⟨a, o, vs, m, rfl, ho, hc, hd, hl, rl⟩ := (r.tup_inv)
   obtain ⟨as, ra⟩ := RepL.reads (h := h) (f := toD n) _ ih rl hx
   exact ⟨_, .tuple (hz _ _ ho) hc hd ra⟩
  ·obtain ⟨a, vs, m, rfl, ho, hl, rl⟩ := (r.lst_inv)
   obtain ⟨as, ra⟩ := RepL.reads (h := h) (f := toD n) _ ih rl hx
   exact ⟨_, .list (hz _ _ ho) rfl rfl ra⟩
section
variable {A : Around} {E : Value → Shared → Prop} {s : Shared} {Z : ZM} {n : Nat} {T : Tab}
theorem Rep.eqNone {u : Value} {a : V} (r : Rep Z u a) : (u == Value.none) = isNone a := by
 cases r with
 | inst hf => cases a <;> first | rfl | cases hf
 | _ => rfl
theorem is_none {u : Value} {a : V} {Q : Value → Shared → Prop} (r : Rep Z u a) (h : Q (.bool (isNone a)) s) : wpAny (model prog w) A (compareOp .Is u .none) Q E s :=
 wpAny_is_plain (by cases r <;> rfl) (r.eqNone ▸ h)
theorem isNot_none {u : Value} {a : V} {Q : Value → Shared → Prop} (r : Rep Z u a) (h : Q (.bool (!isNone a)) s) : wpAny (model prog w) A (compareOp .IsNot u .none) Q E s :=
 wpAny_isNot_plain (by cases r <;> rfl) (r.eqNone ▸ h)
theorem op_data {op : CmpOp} {u v : Value} {a b : V} {Q : Value → Shared → Prop} (hA : OkA A n) (hz : ∀ b o, Z b = some o → s.heap.get? b = some o) (ra : Rep Z u a) (rb : Rep Z v b) (ha : isData 5 a = true) (hb : isData 5 b = true)
  (h : eqD op (veq 5 a b) fun v => ∀ c, v = .bool c → Q (.bool c) s) : wpAny (model prog w) A (compareOp op u v) Q E s := by
 obtain ⟨as, r1⟩ := Rep.reads hz 5 u a ra ha
 obtain ⟨bs, r2⟩ := Rep.reads hz 5 v b rb hb
 haveI hu : A.units + 64 < cLine := by haveI := hA.u; omega
 haveI e := eqv_toD 5 a b ha hb
 cases op <;> first | exact h.elim | skip
 ·exact eq_dataH r1 r2 (shaped_toD a) (shaped_toD b) hu (by rw [e]; exact h _ rfl)
 ·exact ne_dataH r1 r2 (shaped_toD a) (shaped_toD b) hu (by rw [e]; exact h _ rfl)
theorem op_cmpG {op : CmpOp} {u v : Value} {a b : V} {Q : Value → Shared → Prop} {k : V → Prop} (KK : KF K) (TT : TabOk prog w K mg mb n T) (hA1 : OkA A (n + 1)) (hA : OkA A n) (G : Gd K mg mb s) (HF : HasFr K s) (hz : ∀ b o, Z b = some o → s.heap.get? b = some o) (zt : ∀ b, isT b → Z b = none)
  (ra : Rep Z u a) (rb : Rep Z v b) (h : wCmpG T op a b k) (hk : Bk Z s k Q) : wpAny (model prog w) A (compareOp op u v) Q E s := by
 unfold wCmpG at h
 cases hc : clOf a with
 | some c =>
  rw [hc] at h
  obtain ⟨hs, h⟩ := ifP_e h
  obtain ⟨f, hf, h⟩ := (onFn_e h)
  exact op_ceq KK TT hA G HF hz zt ra rb hc hs hf h hk
 | none =>
  rw [hc] at h
  cases hd : isData 5 a && isData 5 b with
  | true =>
   rw [hd] at h
   obtain ⟨h1, h2⟩ := (Bool.and_eq_true_iff.mp hd)
   refine op_data hA hz ra rb h1 h2 ?_
   cases op <;> first | exact h.elim | exact fun c e => hk _ _ _ _ (Grow.refl hz) (.bool c) (e ▸ h)
  | false =>
   rw [hd] at h
   haveI h : pairC T op a b k := h
   cases op <;> first | exact h.elim | skip
   obtain ⟨x, y, rfl, h⟩ := (onPr_e h)
   obtain ⟨z, t, rfl, h⟩ := (onPr_e h)
   obtain ⟨x1, p1, rfl, h⟩ := (onFp_e h)
   obtain ⟨x2, p2, rfl, h⟩ := (onFp_e h)
   obtain ⟨y1, q1, rfl, h⟩ := (onFp_e h)
   obtain ⟨y2, q2, rfl, h⟩ := (onFp_e h)
   obtain ⟨b1, b2, t1, t2, e1, e2, h⟩ := (h)
   exact op_pair KK TT hA1 G HF hz zt ra rb t1 t2 e1 e2 fun Z' s' g => hk _ _ _ _ g (.bool _) h
theorem op_is {u v : Value} {a b : V} {Q : Value → Shared → Prop} {k : V → Prop} (ra : Rep Z u a) (rb : Rep Z v b) (h : wCmp T .Is a b k) (fin : ∀ c : Bool, k (.bool c) → Q (.bool c) s) : wpAny (model prog w) A (compareOp .Is u v) Q E s := by
 cases b with
 | none => rw [rb.none_inv]; exact is_none ra (fin _ h)
 | bool c =>
  cases a with
  | bool d =>
   rw [ra.bool_inv, rb.bool_inv]
   exact wpAny_is_plain rfl (fin _ ((show (Value.bool d == Value.bool c) = (d == c) by cases d <;> cases c <;> decide) ▸ h))
  | _ => exact h.elim
 | _ => exact h.elim
theorem op_cmp {op : CmpOp} {u v : Value} {a b : V} {Q : Value → Shared → Prop} {k : V → Prop} (KK : KF K) (TT : TabOk prog w K mg mb n T) (hA1 : OkA A (n + 1)) (hA : OkA A n) (G : Gd K mg mb s) (HF : HasFr K s) (hz : ∀ b o, Z b = some o → s.heap.get? b = some o) (zt : ∀ b, isT b → Z b = none)
  (ra : Rep Z u a) (rb : Rep Z v b) (h : wCmp T op a b k) (hk : Bk Z s k Q) : wpAny (model prog w) A (compareOp op u v) Q E s := by
 have fin : ∀ c : Bool, k (.bool c) → Q (.bool c) s := fun c q => hk _ _ _ _ (Grow.refl hz) (.bool c) q
 cases op with
 | Is => exact op_is ra rb h fin
 | IsNot =>
  cases b with
  | none => rw [rb.none_inv]; exact isNot_none ra (fin _ h)
  | _ => exact h.elim
 | Lt =>
  obtain ⟨x, y, rfl, rfl, h⟩ := lt2_e h
  obtain ⟨t, rfl⟩ := ra.int_inv
  obtain ⟨t', rfl⟩ := rb.int_inv
  exact lt_int (fin _ h)
 | Gt =>
  obtain ⟨x, y, rfl, rfl, h⟩ := lt2_e h
  obtain ⟨t, rfl⟩ := ra.int_inv
  obtain ⟨t', rfl⟩ := rb.int_inv
  exact gt_int (fin _ h)
 | _ => exact op_cmpG KK TT hA1 hA G HF hz zt ra rb h hk
theorem nthV_some {l : List V} {n : Nat} {x : V} (h : nthV l n = some x) : n < l.length ∧ l[n]? = some x := by
 rw [nthV_eq] at h
 exact ⟨(List.getElem?_eq_some_iff.mp h).1, h⟩
theorem seqIdx {i j : Int} {m : Nat} (e : (if i < 0 then i + m else i) = j) (h0 : 0 ≤ j) (h1 : j.toNat < m) : seqIndex? i m = some j.toNat := by
 have h1 : j < m := (Int.toNat_lt h0).mp h1
 show (if (decide (0 ≤ (if i < 0 then i + m else i)) && decide ((if i < 0 then i + m else i) < (m : Int))) = true then some (if i < 0 then i + m else i).toNat else none) = _
 rw [e, decide_eq_true h0, decide_eq_true h1]
 rfl
theorem idxV_seq {xs : List V} {i : Int} {x : V} (h : idxV xs i = some x) (hl : xs.length ≤ 64) : ∃ j, seqIndex? i xs.length = some j ∧ xs[j]? = some x ∧ -(64 : Int) ≤ i ∧ i < 64 := by
 haveI h : (match decide (0 ≤ i) with | true => nthV xs i.toNat | false => match decide (0 ≤ i + (xs.length : Int)) with | true => nthV xs (i + (xs.length : Int)).toNat | false => none) = some x := h
 by_cases q : 0 ≤ i
 ·rw [decide_eq_true q] at h
  obtain ⟨a, b⟩ := (nthV_some h)
  exact ⟨_, seqIdx (if_neg (Int.not_lt.mpr q)) q a, b, by omega, by omega⟩
 ·rw [decide_eq_false q] at h
  by_cases q' : 0 ≤ i + (xs.length : Int)
  ·rw [decide_eq_true q'] at h
   obtain ⟨a, b⟩ := (nthV_some h)
   exact ⟨_, seqIdx (if_pos (Int.not_le.mp q)) q' a, b, by omega, by omega⟩
  ·rw [decide_eq_false q'] at h; cases h
theorem idx_core {value slice : Expr} {o : Value} {i : Int} {t : Tok} {Ty id : String} {Q : Value → Shared → Prop} (hs : ∀ o j, subscripted slice false o j = operate [o, j] (getItem o j)) (hT : s.TypeIs o Ty) (hl : typeLookup (.type Ty) "__getitem__" = pure (some (.builtin id)))
  (hg : wpAny (model prog w) A (getItem o (.int i t)) Q E s) : wpAny (model prog w) A (subscriptTail value slice o (.int i t)) Q E s := by
 unfold subscriptTail
 refine wpAny_bind ?_
 rw [getitemInPython_of_ne hT.not_modules]
 refine wpAny_bind (wpAny_specialOf hT hl (wpAny_pure (wpAny_bind ?_)))
 rw [hs]
 exact wpAny_operating (wpAny_mono hg (fun r s₃ h₃ => wpAny_bind (wpAny_letTemporaryGo (wpAny_pure h₃))) fun J J x => x)
theorem op_idx {u : Value} {a x : V} {i : Int} {t : Tok} {value slice : Expr} {Q : Value → Shared → Prop} {k : V → Prop} (hz : ∀ b o, Z b = some o → s.heap.get? b = some o) (ra : Rep Z u a) (h : idxA a i = some x) (hx : k x) (hk : Bk Z s k Q)
  (hs : ∀ o j, subscripted slice false o j = operate [o, j] (getItem o j)) : wpAny (model prog w) A (subscriptTail value slice u (.int i t)) Q E s := by
 cases a <;> first | (cases h; done) | skip
 ·obtain ⟨l, o, vs, m, rfl, ho, hc, hd, hl, r⟩ := (ra.tup_inv)
  haveI ht : IsTup s.heap l vs.toArray := ⟨_, hz _ _ ho, hc, _, hd⟩
  obtain ⟨j, hj, hjx, h1, h2⟩ := (idxV_seq h hl)
  obtain ⟨v, hv, hr⟩ := (r.get hjx)
  exact idx_core hs ht.typeIs slot_tuple_getitem.lookup (getItem_tuple ht (by omega) (by omega) (by rw [List.size_toArray, r.length]; exact hj) (by simpa using hv) (hk _ _ _ _ (Grow.refl hz) hr hx))
 ·obtain ⟨l, vs, m, rfl, ho, hl, r⟩ := (ra.lst_inv)
  haveI hL : s.heap.IsList l vs.toArray := ⟨_, hz _ _ ho, rfl, _, rfl⟩
  rename_i xs
  haveI h : (match decide (0 ≤ i) with | true => nthV xs i.toNat | false => none) = some x := h
  by_cases q : 0 ≤ i
  ·rw [decide_eq_true q] at h
   obtain ⟨a, b⟩ := (nthV_some h)
   obtain ⟨v, hv, hr⟩ := (r.get b)
   exact idx_core hs hL.typeIs slot_list_getitem.lookup (wpAny_getItem_list hL q (by omega) (by simpa using hv) (hk _ _ _ _ (Grow.refl hz) hr hx))
  ·rw [decide_eq_false q] at h; cases h
end
section
theorem kind_pow : builtinKind "pow" = none := by decide +kernel
theorem plain_pow : plainId "pow" = true := by decide +kernel
theorem entry_pow : entryFor table "pow" = some Builtin.«pow» := entryFor_of_fast (by kernel_rfl)
theorem args_pow (a b c : Value) : argsOk "pow" ⟨[a, b, c], []⟩ := by unfold argsOk; kernel_rfl
theorem powStep {b e m i : Nat} (P : Nat) (h : P = b ^ (e / 2 ^ (i + 1)) % m) : (if e.testBit i then P * P % m * b % m else P * P % m) = b ^ (e / 2 ^ i) % m := by
 haveI hq : e / 2 ^ (i + 1) = e / 2 ^ i / 2 := by rw [Nat.pow_succ, Nat.div_div_eq_div_mul]
 haveI hb : e.testBit i = decide (e / 2 ^ i % 2 = 1) := Nat.testBit_eq_decide_div_mod_eq
 generalize e / 2 ^ i = q at *
 rw [hq] at h
 haveI sq : P * P % m = b ^ (q / 2 + q / 2) % m := by rw [h, ← Nat.mul_mod, Nat.pow_add]
 rw [hb]
 by_cases h1 : q % 2 = 1
 ·simp only [h1, decide_true, if_true]
  rw [sq, Nat.mod_mul_mod, ← Nat.pow_succ]
  congr 2
  omega
 ·simp only [h1, decide_false, Bool.false_eq_true, if_false]
  rw [sq]
  congr 2
  omega
theorem powFold (b e m k : Nat) : ∀ P : Nat, P = b ^ (e / 2 ^ k) % m → (List.range k).reverse.foldl (fun p i => if e.testBit i then p * p % m * b % m else p * p % m) P = b ^ e % m := by
 induction k with
 | zero => intro P h; rw [Nat.pow_zero, Nat.div_one] at h; exact h
 | succ k ih =>
  intro P h
  rw [List.range_succ, List.reverse_append, List.reverse_cons, List.reverse_nil, List.nil_append, List.singleton_append, List.foldl_cons]
  exact ih _ (powStep P h)
theorem powMod_eq (b e m : Nat) : Builtin.powMod b e m = b ^ e % m := by
 unfold Builtin.powMod
 apply powFold
 have hlt : e < 2 ^ Builtin.Int.intBits e := by
  unfold Builtin.Int.intBits
  split
  ·rename_i h
   have h : (e : Int) = 0 := by simpa using h
   omega
  ·exact Nat.lt_log2_self
 rw [Nat.div_eq_of_lt hlt, Nat.pow_zero]
theorem emod_pow (x : Int) (z : Int) (n : Nat) : (x % z) ^ n % z = x ^ n % z := by
 induction n with
 | zero => rw [Int.pow_zero, Int.pow_zero]
 | succ n ih => rw [Int.pow_succ, Int.pow_succ, Int.mul_emod, ih, Int.emod_emod_of_dvd _ (Int.dvd_refl z), ← Int.mul_emod]
theorem int_pow3 (x y z : Int) (t u v : Tok) (h0 : 0 ≤ y) (h1 : 1 < z) :
  Meets (Builtin.«int.__pow__» ⟨[.int x t, .int y u, .int z v], []⟩) (fun J R s => R (.ok (.ret (Value.int (x ^ y.toNat % z) s.toks))) { s with toks := s.toks + 1 }) :=
 .of_wp fun prog w A R s h => by
  obtain ⟨hp, g, d, tk, os⟩ := s
  haveI e1 : (z == 0) = false := beq_eq_false_iff_ne.mpr (by omega)
  haveI e2 : (z.natAbs == 1) = false := beq_eq_false_iff_ne.mpr (by omega)
  haveI e3 : ¬ y < 0 := by omega
  haveI e4 : ¬ z < 0 := by omega
  wp_walk
  refine ⟨_, rfl, ?_⟩
  haveI e : (if (decide (z < 0) && ((Builtin.powMod (x % (z.natAbs : Int)).toNat y.natAbs z.natAbs : Nat) : Int) != 0) = true then ((Builtin.powMod (x % (z.natAbs : Int)).toNat y.natAbs z.natAbs : Nat) : Int) - (z.natAbs : Int) else ((Builtin.powMod (x % (z.natAbs : Int)).toNat y.natAbs z.natAbs : Nat) : Int)) = x ^ y.toNat % z := by
   rw [decide_eq_false e4, Bool.false_and, if_neg Bool.false_ne_true, powMod_eq]
   haveI hz : ((z.natAbs : Nat) : Int) = z := by omega
   haveI hx : (((x % z).toNat : Nat) : Int) = x % z := Int.toNat_of_nonneg (Int.emod_nonneg _ (by omega))
   haveI hy : y.natAbs = y.toNat := by omega
   rw [hz, hy, Int.natCast_emod, Int.natCast_pow, hx, hz]
   exact emod_pow x z y.toNat
  rw [e]
  exact h
section
variable {A : Around} {E : Value → Shared → Prop} {s : Shared} {Z : ZM} {n : Nat} {T : Tab}
theorem int_new_inst (x : Addr) (P : Around → (Result → Shared → Prop) → Shared → Prop)
  (hP : ∀ A R s, P A R s → wpAny (model prog w) A.in1 (callSpecial? (.ref x) "__int__") (fun r s' => ∃ i t, r = some (.int i t) ∧ R (.ok (.ret (.int i t))) s') (fun e s' => R (.error e) s') s) :
  MeetsIn prog w (Builtin.«int.__new__» ⟨[.type "int", .ref x], []⟩) P :=
 .of_wp fun A R s h => by
  haveI hq := hP A R s h
  haveI f1 := F.conv_sub_int
  haveI f2 := F.madeHere_int
  obtain ⟨hp, g, d, tk, os⟩ := s
  haveI f3 : ∀ {Q : Option Value → Shared → Prop}, (∀ i t s', R (.ok (.ret (.int i t))) s' → Q (some (.int i t)) s') → wpAny (model prog w) A.in1 (callSpecial? (.ref x) "__int__") Q (fun e s' => R (.error e) s') ⟨hp, g, d, tk, os⟩ := fun hh => wpAny_mono hq (fun r s' hr => by obtain ⟨i, t, rfl, h⟩ := (hr); exact hh i t s' h) fun J J e => e
  repeat (any_goals (first | assumption | (refine f3 ?_) | wp_step))
  intro i t s' hr
  repeat (any_goals (first | assumption | wp_step))
  exact ⟨_, rfl, hr⟩
noncomputable def toIntP (T : Tab) (a : V) (k : V → Prop) : Prop := match a with | .int x => k (.int x) | .fq n p => T .qInt [.fq n p] (fun r => onInt r fun i => k (.int i)) | _ => False
set_option tactic.hygienic true in
theorem op_toInt {v : Value} {a : V} {Q : Value → Shared → Prop} {k : V → Prop} (KK : KF K) (TT : TabOk prog w K mg mb n T) (hA : OkA A (n + 1)) (G : Gd K mg mb s) (hz : ∀ b o, Z b = some o → s.heap.get? b = some o) (zt : ∀ b, isT b → Z b = none) (ra : Rep Z v a)
  (h : toIntP T a k) (hk : Bk Z s k Q) : wpAny (model prog w) A (call (.type "int") [v]) Q E s := by
 cases a <;> first | exact h.elim | skip
 ·obtain ⟨t, rfl⟩ := ra.int_inv
  exact call_int_int (hk _ _ _ _ (Grow.refl hz) (.int _ _) h)
 ·rename_i m p
  haveI ra' := ra
  obtain ⟨x, dx, es, l, fs, rfl, hfl, h1, h2, r2⟩ := (ra.inst_inv (c := .fq) rfl)
  haveI I := inst_at hz h1 h2
  haveI hA' : OkA A.in1.in1 n := ⟨hA.h, by haveI := hA.d; show A.depth + _ + _ < _; omega, by haveI := hA.u; show A.units + 1 + 1 + _ + _ < _; omega⟩
  refine callType_newIn F.called_int F.newNe_int (F.typeCall_int_1 _) (F.newCall_int_1 _) (fun obj => F.args_object_init_2 obj _) F.entry_int_new
   (int_new_inst x (fun A R s => K.In s.heap ∧ InstAt s.heap x (instObj (Cl.addr .fq) dx) (Cl.addr .fq) (some (dictOf es l)) ∧ wpAny (model prog w) A.in1 (call (.ref (Fn.addr .qInt)) [.ref x]) (fun r s' => ∃ i t, r = .int i t ∧ R (.ok (.ret (.int i t))) s') (fun e s' => R (.error e) s') s) ?_) ?_
  ·intro A R s zz; obtain ⟨X, I, hr⟩ := (zz)
   exact special_fn X I KK.qint (beq_iff_eq.mp (not_cls rfl KK)) (wpAny_mono hr (fun r s' q => by obtain ⟨i, t, rfl, z⟩ := (q); exact ⟨i, t, rfl, z⟩) fun J J e => e)
  ·refine ⟨G.k, I, ?_⟩
   refine op_call TT hA' G hz zt (.cons ra' .nil) h ?_
   intro r x Z' s' g hr hx
   cases x <;> first | exact hx.elim | skip
   obtain ⟨t, rfl⟩ := hr.int_inv
   exact ⟨_, t, rfl, rfl, hk _ _ _ _ g hr hx⟩
set_option tactic.hygienic true in
theorem op_abs {v : Value} {a : V} {Q : Value → Shared → Prop} {k : V → Prop} (hz : ∀ b o, Z b = some o → s.heap.get? b = some o) (ra : Rep Z v a) (h : onInt a fun x => k (.int x.natAbs)) (hk : Bk Z s k Q) : wpAny (model prog w) A (call (.builtin "abs") [v]) Q E s := by
 cases a <;> first | exact h.elim | skip
 rename_i i
 obtain ⟨t, rfl⟩ := ra.int_inv
 refine call_abs_int fun u tk => ?_
 haveI e : (if i < 0 then -i else i) = (i.natAbs : Int) := by split <;> omega
 rw [e]
 exact hk _ _ _ _ (Grow.toks hz tk) (.int _ _) h
set_option tactic.hygienic true in
theorem op_pow3 {u v x : Value} {a b c : V} {Q : Value → Shared → Prop} {k : V → Prop} (hz : ∀ b o, Z b = some o → s.heap.get? b = some o) (ra : Rep Z u a) (rb : Rep Z v b) (rc : Rep Z x c)
  (h : onInt a fun x => onInt b fun y => onInt c fun z => 0 ≤ y ∧ 1 < z ∧ k (.int (x ^ y.toNat % z))) (hk : Bk Z s k Q) : wpAny (model prog w) A (call (.builtin "pow") [u, v, x]) Q E s := by
 cases a <;> first | exact h.elim | skip
 cases b <;> first | exact h.elim | skip
 cases c <;> first | exact h.elim | skip
 rename_i i j m
 obtain ⟨t, rfl⟩ := ra.int_inv
 obtain ⟨t2, rfl⟩ := rb.int_inv
 obtain ⟨t3, rfl⟩ := rc.int_inv
 obtain ⟨h0, h1, h⟩ : 0 ≤ j ∧ 1 < m ∧ k (.int (i ^ j.toNat % m)) := h
 haveI q := hk _ _ _ _ (Grow.toks hz (s.toks + 1)) (.int (i ^ j.toNat % m) s.toks) h
 refine call_function_entry kind_pow plain_pow entry_pow (args_pow _ _ _) ?_
 haveI f1 := typeIs_int s i t
 haveI g1 := PySem.F.slot_int_pow
 haveI g2 := PySem.F.entry_int_pow
 haveI g4 := PySem.F.args_int_pow_3 (.int i t) (.int j t2) (.int m t3)
 haveI e5 : ∀ {A : Around} {E : Value → Shared → Prop} {Q : Value → Shared → Prop}, Q (.int (i ^ j.toNat % m) s.toks) { s with toks := s.toks + 1 } → wpAny (model prog w) A (call (.builtin "int.__pow__") [.int i t, .int j t2, .int m t3]) Q E s := fun hh => by
  refine call_meets g1 f1 g2 g4 (int_pow3 i j m t t2 t3 h0 h1) ?_
  exact hh
 haveI f3 : ∀ {A : Around} {E : Value → Shared → Prop} {Q : Option Value → Shared → Prop}, Q (some (.int (i ^ j.toNat % m) s.toks)) { s with toks := s.toks + 1 } → wpAny (model prog w) A (callSpecial? (.int i t) (PySem.dunder "pow") [.int j t2, .int m t3]) Q E s := fun hh =>
  wpAny_callSpecial?_slot (name := PySem.dunder "pow") f1 g1 (e5 hh)
 haveI f4 : typeLookup (.type "int") (Str.ofString "__pow__") = pure (some (.builtin "int.__pow__")) := g1.lookup
 haveI f5 : typeOf (.int i t) = pure (.type "int") := rfl
 unfold Builtin.«pow»
 haveI b1 : Builtin.Builtins.bindParams "pow" ["base", "exp", "mod"] 2 ⟨[Value.int i t, Value.int j t2, Value.int m t3], []⟩ = pure [some (Value.int i t), some (Value.int j t2), some (Value.int m t3)] := by kernel_rfl
 refine wpAny_bind (wpAny_of_eq b1 ?_)
 refine wpAny_bind (wpAny_rule (wpAny_bind (wpAny_of_eq f5 ?_)))
 refine wpAny_bind (wpAny_of_eq f4 ?_)
 refine wpAny_bind (m := callSpecial? (.int i t) (PySem.dunder "pow") [.int j t2, .int m t3]) (f3 ?_)
 exact wpAny_pure ⟨_, rfl, q⟩
end
end
section
theorem no_some {b : Bool} {P : Prop} (h : none = some b) : P := by cases h
noncomputable def Ty.val : Ty → Value | .int => .type "int" | .tuple => .type "tuple" | .cls c => .ref c.addr
section
variable {A : Around} {E : Value → Shared → Prop} {s : Shared} {Z : ZM} {n : Nat} {T : Tab}
theorem ty_type : typeOf (.type "int") = pure (.type "type") := by rfl
theorem sub_int : isSubtype (.type "int") (.type "int") = pure true := by rw [isSubtype_type]; kernel_rfl
theorem sub_tup : isSubtype (.type "tuple") (.type "tuple") = pure true := by rw [isSubtype_type]; kernel_rfl
theorem inst_not_int {a dx : Addr} {c : Cl} {od : Obj} {Q : Value → Shared → Prop} (KK : KF K) (G : Gd K mg mb s) (I : InstAt s.heap a (instObj c.addr dx) c.addr (some od)) (h : Q (.bool false) { s with toks := s.toks + 1 }) :
  wpAny (model prog w) A (call (.builtin "isinstance") [.ref a, .type "int"]) Q E s :=
 kin_callT G.k I (KK.kinT c) ty_type (KK.kg c) (KK.hd c) (KK.ka c) KK.kn KK.kt (KK.km c) h
theorem isi_yes {v : Value} {a : V} {c d : Cl} {Q : Value → Shared → Prop} (KK : KF K) (G : Gd K mg mb s) (hz : ∀ b o, Z b = some o → s.heap.get? b = some o) (ra : Rep Z v a) (hc : clOf a = some c) (hd : Cl.same c d = true ∨ (c = .fq2 ∧ d = .opt)) (fin : Q (.bool true) s) : wpAny (model prog w) A (call (.builtin "isinstance") [v, .ref d.addr]) Q E s := by
 haveI hT : ∀ M, _ := fun M => same_type (M := M) hz ra hc
 obtain ⟨x, dx, es, l, fs, rfl, _⟩ := (ra.inst_inv hc)
 exact isi_call G.k hT (KK.isT c d hd) (fun q => Value.noConfusion q) fin
theorem isi_no {v : Value} {a : V} {c : Cl} {Q : Value → Shared → Prop} (KK : KF K) (G : Gd K mg mb s) (hz : ∀ b o, Z b = some o → s.heap.get? b = some o) (ra : Rep Z v a) (hc : clOf a = some c) (fin : Q (.bool false) { s with toks := s.toks + 1 }) : wpAny (model prog w) A (call (.builtin "isinstance") [v, .type "int"]) Q E s := by
 obtain ⟨x, dx, es, l, fs, rfl, hfl, h1, h2, r2⟩ := (ra.inst_inv hc)
 exact inst_not_int KK G (inst_at hz h1 h2) fin
theorem op_isi1 {v : Value} {a : V} {t : Ty} {b : Bool} {Q : Value → Shared → Prop} {k : V → Prop} (KK : KF K) (G : Gd K mg mb s) (hz : ∀ b o, Z b = some o → s.heap.get? b = some o) (ra : Rep Z v a)
  (h : isiR a [t] = some b) (hb : k (.bool b)) (hk : Bk Z s k Q) : wpAny (model prog w) A (call (.builtin "isinstance") [v, t.val]) Q E s := by
 have fin := hk _ _ _ _ (Grow.refl hz) (.bool b) hb
 have fin1 := hk _ _ _ _ (Grow.toks hz (s.toks + 1)) (.bool b) hb
 clear hb hk
 cases t with
 | int =>
  cases a <;> first | exact no_some h | cases h
  ·obtain ⟨t, rfl⟩ := ra.int_inv
   exact call_isinstance_yes (typeIs_int s _ t) ty_type sub_int fin
  all_goals exact isi_no KK G hz ra rfl fin1
 | tuple =>
  cases a <;> first | exact no_some h | cases h
  obtain ⟨l, o, vs, m, rfl, ho, hc, _⟩ := (ra.tup_inv)
  exact call_isinstance_yes (Tx := "tuple") ⟨_, hz _ _ ho, hc⟩ (by rfl) sub_tup fin
 | cls c =>
  cases c with
  | fq =>
   cases a <;> first | exact no_some h | cases h
   ·obtain ⟨t, rfl⟩ := ra.int_inv
    exact isn_call (P := fun J => True) G.k (fun J => Looks.of_pure rfl) KK.isN (fun q => Value.noConfusion q) trivial int_cls fin1
   ·exact isi_yes KK G hz ra (c := .fq) rfl (.inl rfl) fin
  | fp =>
   cases a <;> first | exact no_some h | cases h
   exact isi_yes KK G hz ra (c := .fp) rfl (.inl rfl) fin
  | opt =>
   cases a <;> first | exact no_some h | cases h
   ·exact isi_yes KK G hz ra (c := .fq2) rfl (.inr ⟨rfl, rfl⟩) fin
   ·exact isi_yes KK G hz ra (c := .opt) rfl (.inl rfl) fin
  | fq2 => exact no_some h
theorem nested_tuple {prog : Program} {w : World} {P : Shared → Prop} (hP : ∀ s tk, P s → P { s with toks := tk }) {x tp : Addr} {C : Addr} {cs : List Value} {vs : List Bool} {tk : Tok} {s : Shared} {Q : Fin → Shared → Prop}
  (hx : Looks (model prog w) s.heap (typeOf (.ref x)) (.ref C)) (hne : C ≠ tp) (htp : s.heap.get? tp = some { cls := .type "tuple", data := .seq cs.toArray }) (ha : AnswersAll P (.ref x) cs vs) (hs : P s)
  (hq : ∀ tk', Q (.done (.ret (.bool (vs.any id)))) { s with toks := tk' }) : wpAny (model prog w) A (Builtin.«isinstance.nested» ⟨[.ref x, .ref tp, .int 0 tk], []⟩) Q E s := by
 obtain ⟨h, g, d, t, os⟩ := s
 haveI hT2 : (⟨h, g, d, t, os⟩ : Shared).TypeIs (.ref tp) "tuple" := ⟨_, htp, rfl⟩
 haveI f1 := F.isi_sub_tuple
 haveI hb : (Value.ref C == Value.ref tp) = false := Bool.eq_false_iff.mpr fun q => hne (Value.ref.inj (beq_iff_eq.mp q))
 haveI LT := @hx
 unfold Builtin.«isinstance.nested»
 refine wpAny_bind (hx.at ?_)
 rw [if_neg (by rw [hb]; exact Bool.false_ne_true)]
 repeat (any_goals (first | assumption | wp_step))
 refine wpAny_arrayLoop ?_
 simp only [Option.getD_some, List.toList_toArray]
 refine isinstance_items (dep := 0) hP cs vs _ _ ha hs fun tk' => ?_
 cases hv : vs.any id with
 | true =>
  simp only [if_true]
  repeat (any_goals (first | assumption | wp_step))
  exact hv ▸ hq tk'
 | false =>
  simp only [Bool.false_eq_true, if_false]
  repeat (any_goals (first | assumption | wp_step))
  exact hv ▸ hq tk'
theorem ans_int_int (K : Frag) (i : Int) (t : Tok) : Answers (fun s => K.In s.heap) (.int i t) (.type "int") true := fun dep tk prog w A R s h => by
 unfold Builtin.«isinstance.nested»
 refine wpAny_bind (m := typeOf (.int i t)) (wpAny_pure ?_)
 rw [if_pos (by decide)]
 refine wpAny_bind (wpAny_rule (wpAny_bind (wpAny_pure (wpAny_pure ?_))))
 exact h.2 s.toks
theorem ans_int_fq (KK : KF K) (i : Int) (t : Tok) : Answers (fun s => K.In s.heap) (.int i t) (.ref (Cl.addr .fq)) false := fun dep tk prog w A R s h =>
 isn_nested (P := fun J => True) h.1 (Looks.of_pure rfl) KK.isN trivial int_cls (h.2 _)
theorem ans_inst_int (KK : KF K) (x dx : Addr) (c : Cl) (od : Obj) : Answers (fun s => K.In s.heap ∧ InstAt s.heap x (instObj c.addr dx) c.addr (some od)) (.ref x) (.type "int") false := fun dep tk prog w A R s h =>
 kin_nested (KK.kg c) (KK.hd c) (KK.ka c) KK.kn KK.kt (KK.km c) h.1.1 h.1.2 (Looks.of_pure ty_type) (Looks.of_pure rfl) (Bool.eq_false_iff.mpr fun q => by cases beq_iff_eq.mp q) (looks_subIn h.1.1 (beq_iff_eq.mp (KK.kinT c))) (h.2 _)
set_option tactic.hygienic true in
theorem ans_fp_fq (KK : KF K) (x dx : Addr) (od : Obj) : Answers (fun s => K.In s.heap ∧ InstAt s.heap x (instObj (Cl.addr .fp) dx) (Cl.addr .fp) (some od)) (.ref x) (.ref (Cl.addr .fq)) false := fun dep tk prog w A R s h => by
 haveI e := KK.kinFq
 unfold kin_not at e
 rw [Bool.and_eq_true, Bool.and_eq_true, Bool.and_eq_true] at e
 obtain ⟨⟨⟨e0, e1⟩, e2⟩, e3⟩ := (e)
 refine kin_nested (KK.kg .fp) (KK.hd .fp) (KK.ka .fp) KK.kn KK.kt (KK.km .fp) h.1.1 h.1.2 (looks_typeIn h.1.1 (beq_iff_eq.mp e2)) ?_ ?_ (looks_subIn h.1.1 (beq_iff_eq.mp e3)) (h.2 _)
 ·unfold clsIn at e1
  split at e1
  ·rename_i c' d' cd' sl' ho
   intro A' Q' E' s' k q
   unfold isType loadHead
   exact wpAny_bind (wpAny_loadPart (k _ _ (h.1.1 _ _ ho)) (wpAny_pure q))
  ·cases e1
 ·exact Bool.eq_false_iff.mpr fun q => of_decide_eq_true e0 (Value.ref.inj (beq_iff_eq.mp q))
theorem isi_outer {v : Value} {tp : Addr} {b : Bool} {P : Shared → Prop} {Q : Value → Shared → Prop} (hv : v ≠ .builtin "__main__.__loader__#opaque")
  (hn : ∀ {prog : Program} {w : World} {A : Around} {E : Value → Shared → Prop} {s : Shared} {tk : Tok} {Q : Fin → Shared → Prop}, P s → (∀ tk', Q (.done (.ret (.bool b))) { s with toks := tk' }) → wpAny (model prog w) A (Builtin.«isinstance.nested» ⟨[v, .ref tp, .int 0 tk], []⟩) Q E s)
  (hp : P s) (h : ∀ tk, Q (.bool b) { s with toks := tk }) : wpAny (model prog w) A (call (.builtin "isinstance") [v, .ref tp]) Q E s :=
 call_isinstance (S := fun J R s => P s ∧ ∀ tk, R (.ok (.ret (.bool b))) { s with toks := tk })
  (fun J J J J J hs => isinstance_outer (hn hs.1 fun tk => hs.2 tk) hv) ⟨hp, h⟩
set_option tactic.hygienic true in
theorem op_isi2 {v : Value} {a : V} {t u : Ty} {b : Bool} {tp : Addr} {Q : Value → Shared → Prop} {k : V → Prop} (KK : KF K) (G : Gd K mg mb s) (hz : ∀ b o, Z b = some o → s.heap.get? b = some o) (ra : Rep Z v a)
  (htp : s.heap.get? tp = some { cls := .type "tuple", data := .seq [t.val, u.val].toArray }) (h : isiR a [t, u] = some b) (hb : k (.bool b)) (hk : Bk Z s k Q) : wpAny (model prog w) A (call (.builtin "isinstance") [v, .ref tp]) Q E s := by
 have fin := fun tk => hk _ _ _ _ (Grow.toks hz tk) (.bool b) hb
 cases t <;> first | exact no_some h | (rename_i c; cases c <;> exact no_some h) | skip
 cases u <;> first | exact no_some h | skip
 rename_i c
 cases c <;> first | exact no_some h | skip
 cases a <;> first | exact no_some h | skip
 ·obtain ⟨t, rfl⟩ := ra.int_inv
  cases h
  rename_i i
  refine isi_outer (P := fun s => K.In s.heap ∧ s.heap.get? tp = some { cls := .type "tuple", data := .seq [Ty.val .int, Ty.val (.cls .fq)].toArray }) (by intro q; cases q) (fun hp hq => ?_) ⟨G.k, htp⟩ fin
  exact isinstance_nested_tuple (P := fun s => K.In s.heap) (vs := [true, false]) (fun J J h => h) (typeIs_int _ _ _) hp.2 ⟨ans_int_int K i t, ans_int_fq KK i t, trivial⟩ hp.1 hq
 ·obtain ⟨x, dx, es, l, fs, rfl, hfl, h1, h2, r2⟩ := (ra.inst_inv (c := .fp) rfl)
  cases h
  haveI hne : ∀ {h : Heap}, K.In h → h.get? tp = some { cls := .type "tuple", data := .seq [Ty.val .int, Ty.val (.cls .fq)].toArray } → Cl.addr .fp ≠ tp := by
   intro h X e q
   obtain ⟨cd, _, hcd, _⟩ := (ksp_first (KK.self .fp))
   unfold clsIn at hcd
   split at hcd
   ·rename_i ho
    rw [q] at ho
    rw [X _ _ ho] at e
    cases e
   ·cases hcd
  refine isi_outer (P := fun s => (K.In s.heap ∧ InstAt s.heap x (instObj (Cl.addr .fp) dx) (Cl.addr .fp) (some (dictOf es l))) ∧ s.heap.get? tp = some { cls := .type "tuple", data := .seq [Ty.val .int, Ty.val (.cls .fq)].toArray }) (by intro q; cases q) (fun hp hq => ?_) ⟨⟨G.k, inst_at hz h1 h2⟩, htp⟩ fin
  exact nested_tuple (P := fun s => K.In s.heap ∧ InstAt s.heap x (instObj (Cl.addr .fp) dx) (Cl.addr .fp) (some (dictOf es l))) (vs := [false, false]) (fun J J h => h) hp.1.2.type (hne hp.1.1 hp.2) hp.2 ⟨ans_inst_int KK x dx .fp _, ans_fp_fq KK x dx _, trivial⟩ hp.1 hq
end
end
section
theorem alln {P : Addr → Prop} : ∀ b ∈ ([] : List Addr), P b := fun _ h => (List.not_mem_nil h).elim
theorem allc {P : Addr → Prop} {a : Addr} {l : List Addr} (h : P a) (t : ∀ b ∈ l, P b) : ∀ b ∈ a :: l, P b := List.forall_mem_cons.mpr ⟨h, t⟩
section
variable {A : Around} {E : Value → Shared → Prop} {s : Shared}
theorem nextOf_tuple_item {it t : Addr} {i : Nat} {items} {x : Value} {Q : Value → Shared → Prop} (hit : s.heap.IsTupleIter it t i)
  (ht : s.heap.IsTuple t items) (hx : items[i]? = some x)
  (hQ : ∀ h', h'.IsTupleIter it t (i + 1) → Heap.SameBut it s.heap h' → Q x { s with heap := h' }) :
  wpAny (model prog w) A (Builtin.SmallTypes.nextOf (.ref it)) Q E s := by
 obtain ⟨o, ho, hc, hd⟩ := (id hit)
 obtain ⟨ol, hol, _, nl, hdl⟩ := (ht)
 unfold Builtin.SmallTypes.nextOf
 refine wpAny_bind (wpAny_callSpecial?_slot (name := Str.ofString "__next__") hit.typeIs F.slot_tuple_iterator_next
  (wpAny_call_entry F.slot_tuple_iterator_next hit.typeIs F.entry_tuple_iterator_next ?_ (F.args_tuple_iterator_next_1 _)))
 show wpAny _ _ (field (.ref it) 0 >>= _) _ _ s
 refine wpAny_bind (wpAny_field ho hd (x := .ref t) rfl ?_)
 show wpAny _ _ (if (Value.ref t == Value.none) = true then _ else _) _ _ s
 rw [if_neg (show ¬ ((Value.ref t == Value.none) = true) from Bool.false_ne_true)]
 show wpAny _ _ (field (.ref it) 1 >>= _) _ _ s
 refine wpAny_bind (wpAny_field ho hd (x := .int i 0) rfl ?_)
 show wpAny _ _ (seqItems? (.ref t) >>= _) _ _ s
 refine wpAny_bind (wpAny_seqItems hol hdl ?_)
 simp only [Int.toNat_natCast, hx]
 refine wpAny_bind (wpAny_setField ho hd (by simp) (wpAny_pure ⟨x, rfl, wpAny_pure (hQ _ ?_ (Heap.SameBut.update ..))⟩))
 exact ⟨_, Heap.get?_update_self _ ho (Obj.isFreed_of_fields (Obj.data_mapFields hd _)), (Obj.cls_mapFields ..).trans hc, by
  rw [Obj.data_mapFields hd]; simp [rawInt]⟩
theorem nextOf_tuple_end {it t : Addr} {i : Nat} {items} {Q : Value → Shared → Prop} (hh : A.handled = none)
  (hit : s.heap.IsTupleIter it t i) (ht : s.heap.IsTuple t items) (hx : items[i]? = none)
  (hE : ∀ h' e, Heap.ExtBut it s.heap h' → (∃ o, h'.get? e = some o ∧ o.cls = .type "StopIteration") → E (.ref e) { s with heap := h' }) :
  wpAny (model prog w) A (Builtin.SmallTypes.nextOf (.ref it)) Q E s := by
 obtain ⟨o, ho, hc, hd⟩ := (id hit)
 obtain ⟨ol, hol, _, nl, hdl⟩ := (ht)
 unfold Builtin.SmallTypes.nextOf
 refine wpAny_bind (wpAny_callSpecial?_slot (name := Str.ofString "__next__") hit.typeIs F.slot_tuple_iterator_next
  (wpAny_call_entry F.slot_tuple_iterator_next hit.typeIs F.entry_tuple_iterator_next ?_ (F.args_tuple_iterator_next_1 _)))
 show wpAny _ _ (field (.ref it) 0 >>= _) _ _ s
 refine wpAny_bind (wpAny_field ho hd (x := .ref t) rfl ?_)
 show wpAny _ _ (if (Value.ref t == Value.none) = true then _ else _) _ _ s
 rw [if_neg (show ¬ ((Value.ref t == Value.none) = true) from Bool.false_ne_true)]
 show wpAny _ _ (field (.ref it) 1 >>= _) _ _ s
 refine wpAny_bind (wpAny_field ho hd (x := .int i 0) rfl ?_)
 show wpAny _ _ (seqItems? (.ref t) >>= _) _ _ s
 refine wpAny_bind (wpAny_seqItems hol hdl ?_)
 simp only [Int.toNat_natCast, hx]
 refine wpAny_bind (wpAny_rule (wpAny_bind (wpAny_setField ho hd (by simp) ?_)))
 show wpAny _ _ (newExc (.type "StopIteration") [] >>= _) _ _ _
 refine wpAny_bind ?_
 show wpAny _ _ (newTuple [] >>= _) _ _ _
 refine wpAny_bind (wpAny_newObj_type ?_ (by size_fits))
 refine wpAny_bind (m := firstArgMember _ _) (wpAny_of_eq (a := Value.none) rfl ?_)
 refine wpAny_newObj_type ?_ (by size_fits)
 refine wpAny_raiseNew_none hh ?_
 exact hE _ _ (((Heap.SameBut.update ..).extBut.push _).push _) ⟨_, Heap.get?_push_size _ rfl, rfl⟩
end
theorem Draws.tuple {A : Around} (hh : A.handled = none) (it t : Addr) (hne : t ≠ it) (items : Array Value) :
  Draws prog w A it [it, t] items.size (fun i v => items[i]? = some v) (fun i h => h.IsTupleIter it t i ∧ h.IsTuple t items) where
 live := fun J J st => (st.1).elim fun o p => ⟨o, p.1⟩
 frame := fun J J J st hk => ⟨st.1.at fun o e => hk it (.head _) o e, st.2.at fun o e => hk t (.tail _ (.head _)) o e⟩
 item := fun i s Q E hi st hQ => by
  refine nextOf_tuple_item st.1 st.2 (x := items[i]) (by simp [hi]) fun h' hit' hs' => ?_
  exact hQ _ h' s.toks (by simp [hi]) ⟨hit', st.2.extBut hs'.extBut hne⟩ hs'
 done := fun s Q E st hE => nextOf_tuple_end hh st.1 st.2 (by simp) hE
set_option tactic.hygienic true in
theorem enumerate_newT (l : Addr) (items : Array Value) (n : Nat) (dct : Option Addr) (sl : Array (Option Value)) :
  Meets (Builtin.«enumerate.__new__» ⟨[.type "enumerate", .ref l], []⟩) (fun J R s => s.heap.get? l = some { cls := .type "tuple", dict := dct, data := .seq items n, slots := sl } ∧
   R (.ok (.ret (.ref (s.heap.push { cls := .type "tuple_iterator", data := .fields #[.ref l, .int 0 0] }).objs.size))) { s with heap := (s.heap.push { cls := .type "tuple_iterator", data := .fields #[.ref l, .int 0 0] }).push { cls := .type "enumerate", data := .fields #[.none, .bool false, .ref s.heap.objs.size, rawInt 0, .none, .none] } }) :=
 .of_wp fun prog w A R s h => by
  obtain ⟨hp, g, d, tk, os⟩ := s; obtain ⟨hl, h⟩ := (h)
  haveI hsub := sub_enumerate
  haveI hL : Heap.IsTuple (Shared.heap ⟨hp, g, d, tk, os⟩) l items := ⟨_, hl, rfl, _, rfl⟩
  wp_walk
  refine wpAny_stack_any fun st => wpAny_pure ?_
  split
  ·rename_i c _ _ _ _ _
   cases (c == Value.type "enumerate")
   ·wp_walk using wpAny_pyIter_tuple hL
    exact ⟨_, rfl, h⟩
   ·wp_walk using wpAny_pyIter_tuple hL
    exact ⟨_, rfl, h⟩
  ·wp_walk using wpAny_pyIter_tuple hL
   exact ⟨_, rfl, h⟩
section
variable {A : Around} {E : Value → Shared → Prop} {s : Shared}
theorem call_enumT {l : Addr} {items : Array Value} {Q : Value → Shared → Prop} (hL : s.heap.IsTuple l items)
  (h : ∀ h', IsEnum h' (s.heap.objs.size + 1) s.heap.objs.size 0 .none → h'.IsTupleIter s.heap.objs.size l 0 → h'.objs.size = s.heap.objs.size + 2 →
   (∀ b o, s.heap.get? b = some o → h'.get? b = some o) → Q (.ref (s.heap.objs.size + 1)) { s with heap := h' }) :
  wpAny (model prog w) A (call (.type "enumerate") [.ref l]) Q E s := by
 obtain ⟨⟨c, dct, dt, sl⟩, hl, hc, n, hd⟩ := (hL)
 replace hc : c = .type "tuple" := hc
 replace hd : dt = .seq items n := hd
 subst hc hd
 refine callType_new F.called_enumerate (by decide) (F.typeCall_enumerate_1 _) (F.newCall_enumerate_1 _) (fun obj => F.args_object_init_2 obj _) F.entry_enumerate_new
  (enumerate_newT l items n dct sl) ⟨hl, ?_⟩
 haveI hz : (s.heap.push { cls := .type "tuple_iterator", data := .fields #[.ref l, .int 0 0] }).objs.size = s.heap.objs.size + 1 := Heap.size_push ..
 show _ ∧ _
 rw [hz]
 haveI he : IsEnum ((s.heap.push { cls := .type "tuple_iterator", data := .fields #[.ref l, .int 0 0] }).push
   { cls := .type "enumerate", data := .fields #[.none, .bool false, .ref s.heap.objs.size, rawInt 0, .none, .none] }) (s.heap.objs.size + 1) s.heap.objs.size 0 .none := by
  haveI := Heap.get?_push_size (s.heap.push { cls := .type "tuple_iterator", data := .fields #[.ref l, .int 0 0] })
   (o := { cls := .type "enumerate", data := .fields #[.none, .bool false, .ref s.heap.objs.size, rawInt 0, .none, .none] }) rfl
  rw [hz] at this; exact this
 refine ⟨⟨_, he, rfl⟩, h _ he ⟨_, Heap.get?_push_of_some _ (Heap.get?_push_size _ rfl), rfl, rfl⟩ (by rw [Heap.size_push, hz]) fun b o x => Heap.get?_push_of_some _ (Heap.get?_push_of_some _ x)⟩
end
structure ZApart (z TI TO i1 i2 : Addr) (fp1 fp2 : List Addr) : Prop where
 TIz : TI ≠ z
 TOz : TO ≠ z
 i1z : i1 ≠ z
 i2z : i2 ≠ z
 TITO : TI ≠ TO
 TIi1 : TI ≠ i1
 TIi2 : TI ≠ i2
 TOi1 : TO ≠ i1
 TOi2 : TO ≠ i2
 i12 : i1 ≠ i2
 z1 : z ∉ fp1
 z2 : z ∉ fp2
 o1 : TO ∉ fp1
 o2 : TO ∉ fp2
 a12 : i1 ∉ fp2
 a21 : i2 ∉ fp1
 m1 : i1 ∈ fp1
 m2 : i2 ∈ fp2
section
variable {A : Around} {E : Value → Shared → Prop} {s : Shared} {z TI TO i1 i2 : Addr} {fp1 fp2 : List Addr} {n i : Nat} {P1 P2 : Nat → Value → Prop} {St1 St2 : Nat → Heap → Prop}
theorem stKeep {it : Addr} {fp : List Addr} {n : Nat} {P : Nat → Value → Prop} {St : Nat → Heap → Prop} (D : Draws prog w A it fp n P St) {i : Nat} {h h' : Heap} {b : Addr} (hs : Heap.SameBut b h h') (hb : b ∉ fp) (st : St i h) : St i h' :=
 D.frame _ _ _ st fun c hc o e => hs.extBut c o (fun q => hb (q ▸ hc)) e
theorem zipG_item {a b : Value} {Q : Value → Shared → Prop} (D1 : Draws prog w A i1 fp1 n P1 St1) (D2 : Draws prog w A i2 fp2 n P2 St2) (D : ZApart z TI TO i1 i2 fp1 fp2) (hlt : i < n)
  (hz : IsZip s.heap z TI TO .none) (hTI : IsPair s.heap TI (.ref i1) (.ref i2)) (hTO : IsPair s.heap TO a b) (h1 : St1 i s.heap) (h2 : St2 i s.heap)
  (hQ : ∀ (x y : Value) (T : Addr) (h' : Heap) (tk : Nat), P1 i x → P2 i y → IsZip h' z TI TO (rawInt T) → IsPair h' TO x y → St1 (i + 1) h' → St2 (i + 1) h' → IsPair h' T x y → s.heap.objs.size ≤ T →
   (∀ c o, c ≠ z → c ≠ TO → c ≠ i1 → c ≠ i2 → s.heap.get? c = some o → h'.get? c = some o) → Q (.ref T) { s with heap := h', toks := tk }) :
  wpAny (model prog w) A (Builtin.«zip.__next__» ⟨[.ref z], []⟩) (fun fin s' => ∃ v, fin = .done (.ret v) ∧ Q v s') E s := by
 show wpAny _ _ (field (.ref z) 2 >>= _) _ _ _
 refine wpAny_bind (wpAny_field hz rfl (x := .bool false) rfl ?_)
 show wpAny _ _ (field (.ref z) 3 >>= _) _ _ _
 refine wpAny_bind (wpAny_field hz rfl (x := .ref TI) rfl ?_)
 refine wpAny_bind (wpAny_seqItems hTI rfl ?_)
 show wpAny _ _ (Builtin.SmallTypes.ownedTupleIsFree (.ref z) >>= _) _ _ _
 refine wpAny_bind ?_
 unfold Builtin.SmallTypes.ownedTupleIsFree
 refine wpAny_bind (wpAny_field hz rfl (x := .none) rfl (wpAny_pure ?_))
 simp only [if_true]
 refine wpAny_bind (wpAny_rule ?_)
 refine wpAny_bind (wpAny_field hz rfl (x := .ref TO) rfl ?_)
 refine wpAny_bind (wpAny_setField_rec hz (by simp) fun h₁ hz₁ hs₁ => ?_)
 replace hz₁ : IsZip h₁ z TI TO .ellipsis := hz₁
 refine wpAny_bind ?_
 simp only [List.zipIdx_cons, List.zipIdx_nil, List.forIn_cons, List.forIn_nil]
 refine wpAny_bind (wpAny_bind (wpAny_onRaise ?_))
 show wpAny _ _ (Builtin.SmallTypes.nextOf (.ref i1) >>= _) _ _ _
 refine wpAny_bind (D1.item i _ _ _ hlt (stKeep D1 hs₁ D.z1 h1) fun x h₂ tk₂ hP1 h1₂ hs₂ => wpAny_pure ?_)
 replace hs₂ : Heap.SameBut i1 h₁ h₂ := hs₂
 have hTO₂ : IsPair h₂ TO a b := hs₂.extBut _ _ D.TOi1 (hs₁.extBut _ _ D.TOz hTO)
 refine wpAny_bind (wpAny_seqItems hTO₂ rfl ?_)
 refine wpAny_bind (wpAny_updateSeq_pair hTO₂ fun h₃ hTO₃ hs₃ => ?_)
 replace hTO₃ : IsPair h₃ TO x b := hTO₃
 replace hs₃ : Heap.SameBut TO h₂ h₃ := hs₃
 refine wpAny_bind (wpAny_letGo (wpAny_pure ?_))
 refine wpAny_bind (wpAny_bind (wpAny_onRaise ?_))
 show wpAny _ _ (Builtin.SmallTypes.nextOf (.ref i2) >>= _) _ _ _
 refine wpAny_bind (D2.item i _ _ _ hlt (stKeep D2 hs₃ D.o2 (stKeep D2 hs₂ D.a12 (stKeep D2 hs₁ D.z2 h2))) fun y h₄ tk₄ hP2 h2₄ hs₄ => wpAny_pure ?_)
 replace hs₄ : Heap.SameBut i2 h₃ h₄ := hs₄
 have hTO₄ : IsPair h₄ TO x b := hs₄.extBut _ _ D.TOi2 hTO₃
 refine wpAny_bind (wpAny_seqItems hTO₄ rfl ?_)
 refine wpAny_bind (wpAny_updateSeq_pair hTO₄ fun h₅ hTO₅ hs₅ => ?_)
 replace hTO₅ : IsPair h₅ TO x y := hTO₅
 replace hs₅ : Heap.SameBut TO h₄ h₅ := hs₅
 refine wpAny_bind (wpAny_letGo (wpAny_pure (wpAny_pure ?_)))
 refine wpAny_bind (wpAny_seqItems hTO₅ rfl ?_)
 refine wpAny_bind (wpAny_newTuple ?_)
 have hsz : h₅.objs.size = s.heap.objs.size := by rw [hs₅.1, hs₄.1, hs₃.1, hs₂.1, hs₁.1]
 have hz₅ : IsZip h₅ z TI TO .ellipsis := hs₅.extBut _ _ D.TOz.symm (hs₄.extBut _ _ D.i2z.symm (hs₃.extBut _ _ D.TOz.symm (hs₂.extBut _ _ D.i1z.symm hz₁)))
 have hk₅ : ∀ c o, c ≠ z → c ≠ TO → c ≠ i1 → c ≠ i2 → s.heap.get? c = some o → h₅.get? c = some o := fun c o c1 c2 c3 c4 e =>
  hs₅.extBut _ _ c2 (hs₄.extBut _ _ c4 (hs₃.extBut _ _ c2 (hs₂.extBut _ _ c3 (hs₁.extBut _ _ c1 e))))
 haveI h1₅ : St1 (i + 1) h₅ := stKeep D1 hs₅ D.o1 (stKeep D1 hs₄ D.a21 (stKeep D1 hs₃ D.o1 h1₂))
 haveI h2₅ : St2 (i + 1) h₅ := stKeep D2 hs₅ D.o2 h2₄
 have hzlt : z < h₅.objs.size := Heap.lt_size hz₅
 show wpAny _ _ (Builtin.SmallTypes.ownedTupleHandOut (.ref z) (.ref h₅.objs.size) >>= _) _ _ _
 refine wpAny_bind ?_
 unfold Builtin.SmallTypes.ownedTupleHandOut
 haveI hz₆ : IsZip (h₅.push { cls := .type "tuple", data := .seq #[x, y] }) z TI TO .ellipsis := Heap.get?_push_of_some _ hz₅
 refine wpAny_bind (wpAny_setField_rec hz₆ (by simp) fun h₇ hz₇ hs₇ => ?_)
 replace hz₇ : IsZip h₇ z TI TO (rawInt h₅.objs.size) := hz₇
 refine wpAny_setField_rec hz₇ (by simp) fun h₈ hz₈ hs₈ => ?_
 replace hz₈ : IsZip h₈ z TI TO (rawInt h₅.objs.size) := hz₈
 have up : ∀ c o, c ≠ z → h₅.get? c = some o → h₈.get? c = some o := fun c o c1 e => hs₈.extBut _ _ c1 (hs₇.extBut _ _ c1 (Heap.get?_push_of_some _ e))
 haveI hT₈ : IsPair h₈ h₅.objs.size x y := hs₈.extBut _ _ (Nat.ne_of_gt hzlt) (hs₇.extBut _ _ (Nat.ne_of_gt hzlt) (Heap.get?_push_size _ rfl))
 refine wpAny_pure ⟨_, rfl, ?_⟩
 show Q (.ref h₅.objs.size) _
 exact hQ x y _ h₈ _ hP1 hP2 hz₈ (up _ _ D.TOz hTO₅) (D1.frame _ _ _ h1₅ fun c hc o e => up _ o (fun q => D.z1 (q ▸ hc)) e) (D2.frame _ _ _ h2₅ fun c hc o e => up _ o (fun q => D.z2 (q ▸ hc)) e) hT₈ (by rw [hsz]; exact Nat.le_refl _)
  fun c o c1 c2 c3 c4 e => up c o c1 (hk₅ c o c1 c2 c3 c4 e)
theorem zipG_end {a b : Value} {Q : Fin → Shared → Prop} (D1 : Draws prog w A i1 fp1 n P1 St1) (D : ZApart z TI TO i1 i2 fp1 fp2)
  (hz : IsZip s.heap z TI TO .none) (hTI : IsPair s.heap TI (.ref i1) (.ref i2)) (hTO : IsPair s.heap TO a b) (h1 : St1 n s.heap)
  (hE : ∀ h' e, (∀ c o, c ≠ z → c ≠ TO → c ≠ i1 → c ≠ i2 → s.heap.get? c = some o → h'.get? c = some o) → (∃ o, h'.get? e = some o ∧ o.cls = .type "StopIteration") → E (.ref e) { s with heap := h' }) :
  wpAny (model prog w) A (Builtin.«zip.__next__» ⟨[.ref z], []⟩) Q E s := by
 show wpAny _ _ (field (.ref z) 2 >>= _) _ _ _
 refine wpAny_bind (wpAny_field hz rfl (x := .bool false) rfl ?_)
 show wpAny _ _ (field (.ref z) 3 >>= _) _ _ _
 refine wpAny_bind (wpAny_field hz rfl (x := .ref TI) rfl ?_)
 refine wpAny_bind (wpAny_seqItems hTI rfl ?_)
 show wpAny _ _ (Builtin.SmallTypes.ownedTupleIsFree (.ref z) >>= _) _ _ _
 refine wpAny_bind ?_
 unfold Builtin.SmallTypes.ownedTupleIsFree
 refine wpAny_bind (wpAny_field hz rfl (x := .none) rfl (wpAny_pure ?_))
 simp only [if_true]
 refine wpAny_bind (wpAny_rule ?_)
 refine wpAny_bind (wpAny_field hz rfl (x := .ref TO) rfl ?_)
 refine wpAny_bind (wpAny_setField_rec hz (by simp) fun h₁ hz₁ hs₁ => ?_)
 replace hz₁ : IsZip h₁ z TI TO .ellipsis := hz₁
 refine wpAny_bind ?_
 simp only [List.zipIdx_cons, List.zipIdx_nil, List.forIn_cons, List.forIn_nil]
 refine wpAny_bind (wpAny_bind (wpAny_onRaise ?_))
 show wpAny _ _ (Builtin.SmallTypes.nextOf (.ref i1) >>= _) _ _ _
 refine wpAny_bind (D1.done _ _ _ (stKeep D1 hs₁ D.z1 h1) fun h₂ e hs₂ he => ?_)
 obtain ⟨oe, hoe, hce⟩ := (he)
 have hz₂ : IsZip h₂ z TI TO .ellipsis := hs₂ _ _ D.i1z.symm hz₁
 haveI hez : e ≠ z := fun x => by subst x; rw [hz₂] at hoe; cases hoe; simp at hce
 refine wpAny_setField_rec hz₂ (by simp) fun h₃ J hs₃ => hE h₃ e (fun c o c1 J c3 J x => hs₃.extBut _ _ c1 (hs₂ _ _ c3 (hs₁.extBut _ _ c1 x))) ⟨oe, hs₃.extBut _ _ hez hoe, hce⟩
end
theorem not4 {x a b c d : Addr} {P : Prop} (h : ¬ x ∈ [a, b, c, d]) (k : x ≠ a → x ≠ b → x ≠ c → x ≠ d → P) : P := k (fun q => h (q ▸ .head _)) (fun q => h (q ▸ .tail _ (.head _))) (fun q => h (q ▸ .tail _ (.tail _ (.head _)))) fun q => h (q ▸ .tail _ (.tail _ (.tail _ (.head _))))
theorem zipW {A : Around} {z TI TO i1 i2 : Addr} {fp1 fp2 : List Addr} {n : Nat} {P1 P2 : Nat → Value → Prop} {St1 St2 : Nat → Heap → Prop} (D1 : Draws prog w A.in1 i1 fp1 n P1 St1) (D2 : Draws prog w A.in1 i2 fp2 n P2 St2) (D : ZApart z TI TO i1 i2 fp1 fp2) :
  WalksT prog w A z (z :: TI :: TO :: (fp1 ++ fp2)) [z, TO, i1, i2] n (fun i vals => ∃ x y, P1 i x ∧ P2 i y ∧ vals = #[x, y])
   (fun i h => IsZip h z TI TO .none ∧ IsPair h TI (.ref i1) (.ref i2) ∧ (∃ a b, IsPair h TO a b) ∧ St1 i h ∧ St2 i h)
   (fun i T h => IsZip h z TI TO (rawInt T) ∧ IsPair h TI (.ref i1) (.ref i2) ∧ (∃ a b, IsPair h TO a b) ∧ St1 (i + 1) h ∧ St2 (i + 1) h ∧ T ≠ z ∧ T ≠ TO ∧ T ≠ i1 ∧ T ≠ i2) where
 sub := allc (.head _) (allc (.tail _ (.tail _ (.head _))) (allc (.tail _ (.tail _ (.tail _ (List.mem_append_left _ D.m1)))) (allc (.tail _ (.tail _ (.tail _ (List.mem_append_right _ D.m2)))) alln)))
 frame := fun i h h' hst hk => by
  obtain ⟨hz, hTI, ⟨a, b, hTO⟩, h1, h2⟩ := (hst)
  exact ⟨hk z (.head _) _ hz, hk TI (.tail _ (.head _)) _ hTI, ⟨a, b, hk TO (.tail _ (.tail _ (.head _))) _ hTO⟩, D1.frame _ _ _ h1 fun c hc o e => hk c (.tail _ (.tail _ (.tail _ (List.mem_append_left _ hc)))) o e, D2.frame _ _ _ h2 fun c hc o e => hk c (.tail _ (.tail _ (.tail _ (List.mem_append_right _ hc)))) o e⟩
 item := fun i s Q E hi hst hQ => by
  obtain ⟨hz, hTI, ⟨a, b, hTO⟩, h1, h2⟩ := (hst)
  haveI hT : s.TypeIs (.ref z) "zip" := ⟨_, hz, rfl⟩
  unfold pyNext
  refine wpAny_bind (wpAny_attempt (wpAny_callSpecial?_slot (name := Str.ofString "__next__") hT F.slot_zip_next
   (wpAny_call_entry F.slot_zip_next hT F.entry_zip_next
    (zipG_item D1 D2 D hi hz hTI hTO h1 h2 fun x y T h' tk p1 p2 a1 a2 a3 a4 a5 hle hk => wpAny_pure ?_) (F.args_zip_next_1 _))))
  haveI lt : ∀ {c o}, s.heap.get? c = some o → T ≠ c := fun e => Nat.ne_of_gt (Nat.lt_of_lt_of_le (Heap.lt_size e) hle)
  obtain ⟨o1, e1⟩ := D1.live _ _ h1
  obtain ⟨o2, e2⟩ := D2.live _ _ h2
  exact hQ T #[x, y] h' tk ⟨x, y, p1, p2, rfl⟩ hle ⟨_, a5, rfl, _, rfl⟩
   ⟨a1, hk _ _ D.TIz D.TITO D.TIi1 D.TIi2 hTI, ⟨_, _, a2⟩, a3, a4, lt hz, lt hTO, lt e1, lt e2⟩
   fun c o hc e => not4 hc fun c1 c2 c3 c4 => hk c o c1 c2 c3 c4 e
 go := fun elts k pos i T s Q E hm hQ => by
  obtain ⟨hz, hTI, ⟨a, b, hTO⟩, h1, h2, _⟩ := (hm)
  refine wpAny_letOwnedTupleGo_zip hz fun h' hz' hs' => hQ h' ⟨hz', hs'.extBut _ _ D.TIz hTI, ⟨a, b, hs'.extBut _ _ D.TOz hTO⟩, stKeep D1 hs' D.z1 h1, stKeep D2 hs' D.z2 h2⟩ fun c o hc e => hs'.extBut _ _ (not4 hc fun c1 J J J => c1) e
 apart := fun i T h hm hT => by
  obtain ⟨_, _, _, _, _, t1, t2, t3, t4⟩ := (hm)
  exact allc (P := fun b => T ≠ b) t1 (allc t2 (allc t3 (allc t4 alln))) T hT rfl
 done := fun s Q E hst hQ => by
  obtain ⟨hz, hTI, ⟨a, b, hTO⟩, h1, h2⟩ := (hst)
  haveI hT : s.TypeIs (.ref z) "zip" := ⟨_, hz, rfl⟩
  unfold pyNext
  refine wpAny_bind (wpAny_attempt (wpAny_callSpecial?_slot (name := Str.ofString "__next__") hT F.slot_zip_next
   (wpAny_call_entry F.slot_zip_next hT F.entry_zip_next (zipG_end D1 D hz hTI hTO h1 fun h' e hk he => ?_) (F.args_zip_next_1 _))))
  obtain ⟨o, ho, hc⟩ := (he)
  refine wpAny_bind (wpAny_isInstance (T := "StopIteration") (b := true) ⟨o, ho, hc⟩ isSubtype_stop ?_)
  exact wpAny_pure (hQ h' s.toks fun c o hc e => not4 hc fun c1 c2 c3 c4 => hk c o c1 c2 c3 c4 e)
 self := fun i s Q E hst hQ => wpAny_pyIter_zip hst.1 hQ
noncomputable abbrev zT1 (h : Heap) (l1 : Addr) : Heap := h.push { cls := .type "tuple_iterator", data := .fields #[.ref l1, .int 0 0] }
noncomputable abbrev zT2 (h : Heap) (l1 l2 : Addr) : Heap := (zT1 h l1).push { cls := .type "tuple_iterator", data := .fields #[.ref l2, .int 0 0] }
noncomputable abbrev zT3 (h : Heap) (l1 l2 : Addr) : Heap := (zT2 h l1 l2).push { cls := .type "tuple", data := .seq #[.ref h.objs.size, .ref (zT1 h l1).objs.size] }
noncomputable abbrev zT4 (h : Heap) (l1 l2 : Addr) : Heap := (zT3 h l1 l2).push { cls := .type "tuple", data := .seq #[.none, .none] }
noncomputable abbrev zT5 (h : Heap) (l1 l2 : Addr) : Heap := (zT4 h l1 l2).push { cls := .type "zip", data := .fields #[.none, .bool false, .bool false, .ref (zT2 h l1 l2).objs.size, .ref (zT3 h l1 l2).objs.size] }
theorem zip_newT (l1 l2 : Addr) (xs ys : Array Value) :
  Meets (Builtin.«zip.__new__» ⟨[.type "zip", .ref l1, .ref l2], []⟩) (fun J R s => s.heap.IsTuple l1 xs ∧ s.heap.IsTuple l2 ys ∧
   R (.ok (.ret (.ref (zT4 s.heap l1 l2).objs.size))) { s with heap := zT5 s.heap l1 l2 }) :=
 .of_wp fun prog w A R s h => by
  obtain ⟨hp, g, d, tk, os⟩ := s; obtain ⟨hl1, hl2, h⟩ := (h)
  haveI hsub := sub_zip
  haveI hL1 : Heap.IsTuple (Shared.heap ⟨hp, g, d, tk, os⟩) l1 xs := hl1
  haveI hL2 : Heap.IsTuple (Shared.heap ⟨hp.push { cls := .type "tuple_iterator", data := .fields #[.ref l1, .int 0 0] }, g, d, tk, os⟩) l2 ys := Heap.IsTuple.push hl2 _
  wp_walk using wpAny_pyIter_tuple hL1, wpAny_pyIter_tuple hL2
  exact ⟨_, rfl, h⟩
section
variable {A : Around} {E : Value → Shared → Prop} {s : Shared}
theorem call_zipT {l1 l2 : Addr} {xs ys : Array Value} {Q : Value → Shared → Prop} (hl1 : s.heap.IsTuple l1 xs) (hl2 : s.heap.IsTuple l2 ys)
  (h : ∀ h', IsZip h' (s.heap.objs.size + 4) (s.heap.objs.size + 2) (s.heap.objs.size + 3) .none → IsPair h' (s.heap.objs.size + 2) (.ref s.heap.objs.size) (.ref (s.heap.objs.size + 1)) →
   IsPair h' (s.heap.objs.size + 3) .none .none → h'.IsTupleIter s.heap.objs.size l1 0 → h'.IsTupleIter (s.heap.objs.size + 1) l2 0 → h'.objs.size = s.heap.objs.size + 5 →
   (∀ c o, s.heap.get? c = some o → h'.get? c = some o) → Q (.ref (s.heap.objs.size + 4)) { s with heap := h' }) :
  wpAny (model prog w) A (call (.type "zip") [.ref l1, .ref l2]) Q E s := by
 refine callType_new F.called_zip (by decide) (F.typeCall_zip_2 _ _) (F.newCall_zip_2 _ _) (fun obj => F.args_object_init_3 obj _ _) F.entry_zip_new
  (zip_newT l1 l2 xs ys) ⟨hl1, hl2, ?_⟩
 haveI z1 : (zT1 s.heap l1).objs.size = s.heap.objs.size + 1 := Heap.size_push ..
 haveI z2 : (zT2 s.heap l1 l2).objs.size = s.heap.objs.size + 2 := by rw [Heap.size_push, z1]
 haveI z3 : (zT3 s.heap l1 l2).objs.size = s.heap.objs.size + 3 := by rw [Heap.size_push, z2]
 haveI z4 : (zT4 s.heap l1 l2).objs.size = s.heap.objs.size + 4 := by rw [Heap.size_push, z3]
 haveI z5 : (zT5 s.heap l1 l2).objs.size = s.heap.objs.size + 5 := by rw [Heap.size_push, z4]
 haveI g5 : (zT5 s.heap l1 l2).get? (zT4 s.heap l1 l2).objs.size = some _ := Heap.get?_push_size _ rfl
 haveI g4 : (zT5 s.heap l1 l2).get? (zT3 s.heap l1 l2).objs.size = some _ := Heap.get?_push_of_some _ (Heap.get?_push_size _ rfl)
 haveI g3 : (zT5 s.heap l1 l2).get? (zT2 s.heap l1 l2).objs.size = some _ := Heap.get?_push_of_some _ (Heap.get?_push_of_some _ (Heap.get?_push_size _ rfl))
 haveI g2 : (zT5 s.heap l1 l2).get? (zT1 s.heap l1).objs.size = some _ := Heap.get?_push_of_some _ (Heap.get?_push_of_some _ (Heap.get?_push_of_some _ (Heap.get?_push_size _ rfl)))
 haveI g1 : (zT5 s.heap l1 l2).get? s.heap.objs.size = some _ := Heap.get?_push_of_some _ (Heap.get?_push_of_some _ (Heap.get?_push_of_some _ (Heap.get?_push_of_some _ (Heap.get?_push_size _ rfl))))
 show _ ∧ _
 rw [z2, z3, z4] at g5
 rw [z1, z2] at g3
 rw [z3] at g4
 rw [z1] at g2
 rw [z4]
 exact ⟨⟨_, g5, rfl⟩, h _ g5 g3 g4 ⟨_, g1, rfl, rfl⟩ ⟨_, g2, rfl, rfl⟩ z5 fun c o x =>
  Heap.get?_push_of_some _ (Heap.get?_push_of_some _ (Heap.get?_push_of_some _ (Heap.get?_push_of_some _ (Heap.get?_push_of_some _ x))))⟩
end
end
theorem dite_e {p : Prop} [Decidable p] {f : p → Bool} (h : (if h : p then f h else false) = true) : ∃ q, f q = true := by
 by_cases q : p
 ·rw [dif_pos q] at h; exact ⟨q, h⟩
 ·rw [dif_neg q] at h; cases h
noncomputable def onNm (e : Expr) (k : Str → Bool) : Bool := if h : e.ctorIdx = 23 then Expr.Name.elim (motive_1 := fun J => Bool) e h (fun x J => k x) else false
@[elab_as_elim] theorem onNm_e {e : Expr} {k : Str → Bool} {P : Expr → Prop} (h : onNm e k = true) (f : ∀ x p, k x = true → P (.Name x p)) : P e :=
 (dite_e h).elim fun q h =>
 Expr.Name.elim (motive_1 := fun e => ∀ q, Expr.Name.elim (motive_1 := fun J => Bool) e q (fun x J => k x) = true → P e) e q (fun x p J h => f x p h) q h
noncomputable def onAttr (e : Expr) (k : Expr → Str → Pos → Bool) : Bool := if h : e.ctorIdx = 20 then Expr.Attribute.elim (motive_1 := fun J => Bool) e h (fun o x p => k o x p) else false
@[elab_as_elim] theorem onAttr_e {e : Expr} {k : Expr → Str → Pos → Bool} {P : Expr → Prop} (h : onAttr e k = true) (f : ∀ o x p, k o x p = true → P (.Attribute o x p)) : P e :=
 (dite_e h).elim fun q h =>
 Expr.Attribute.elim (motive_1 := fun e => ∀ q, Expr.Attribute.elim (motive_1 := fun J => Bool) e q (fun o x p => k o x p) = true → P e) e q (fun o x p J h => f o x p h) q h
noncomputable def onBin (e : Expr) (k : Expr → Operator → Expr → Bool) : Bool := if h : e.ctorIdx = 2 then Expr.BinOp.elim (motive_1 := fun J => Bool) e h (fun l o r J => k l o r) else false
@[elab_as_elim] theorem onBin_e {e : Expr} {k : Expr → Operator → Expr → Bool} {P : Expr → Prop} (h : onBin e k = true) (f : ∀ l o r p, k l o r = true → P (.BinOp l o r p)) : P e :=
 (dite_e h).elim fun q h =>
 Expr.BinOp.elim (motive_1 := fun e => ∀ q, Expr.BinOp.elim (motive_1 := fun J => Bool) e q (fun l o r J => k l o r) = true → P e) e q (fun l o r p J h => f l o r p h) q h
noncomputable def onUn (e : Expr) (k : UnaryOp → Expr → Bool) : Bool := if h : e.ctorIdx = 3 then Expr.UnaryOp.elim (motive_1 := fun J => Bool) e h (fun o a J => k o a) else false
@[elab_as_elim] theorem onUn_e {e : Expr} {k : UnaryOp → Expr → Bool} {P : Expr → Prop} (h : onUn e k = true) (f : ∀ o a p, k o a = true → P (.UnaryOp o a p)) : P e :=
 (dite_e h).elim fun q h =>
 Expr.UnaryOp.elim (motive_1 := fun e => ∀ q, Expr.UnaryOp.elim (motive_1 := fun J => Bool) e q (fun o a J => k o a) = true → P e) e q (fun o a p J h => f o a p h) q h
noncomputable def onBo (e : Expr) (k : BoolOp → List Expr → Bool) : Bool := if h : e.ctorIdx = 0 then Expr.BoolOp.elim (motive_1 := fun J => Bool) e h (fun o es J => k o es) else false
@[elab_as_elim] theorem onBo_e {e : Expr} {k : BoolOp → List Expr → Bool} {P : Expr → Prop} (h : onBo e k = true) (f : ∀ o es p, k o es = true → P (.BoolOp o es p)) : P e :=
 (dite_e h).elim fun q h =>
 Expr.BoolOp.elim (motive_1 := fun e => ∀ q, Expr.BoolOp.elim (motive_1 := fun J => Bool) e q (fun o es J => k o es) = true → P e) e q (fun o es p J h => f o es p h) q h
noncomputable def onCm (e : Expr) (k : Expr → List CmpOp → List Expr → Bool) : Bool := if h : e.ctorIdx = 15 then Expr.Compare.elim (motive_1 := fun J => Bool) e h (fun l os rs J => k l os rs) else false
@[elab_as_elim] theorem onCm_e {e : Expr} {k : Expr → List CmpOp → List Expr → Bool} {P : Expr → Prop} (h : onCm e k = true) (f : ∀ l os rs p, k l os rs = true → P (.Compare l os rs p)) : P e :=
 (dite_e h).elim fun q h =>
 Expr.Compare.elim (motive_1 := fun e => ∀ q, Expr.Compare.elim (motive_1 := fun J => Bool) e q (fun l os rs J => k l os rs) = true → P e) e q (fun l os rs p J h => f l os rs p h) q h
noncomputable def onIf (e : Expr) (k : Expr → Expr → Expr → Bool) : Bool := if h : e.ctorIdx = 5 then Expr.IfExp.elim (motive_1 := fun J => Bool) e h (fun c t f J => k c t f) else false
@[elab_as_elim] theorem onIf_e {e : Expr} {k : Expr → Expr → Expr → Bool} {P : Expr → Prop} (h : onIf e k = true) (f : ∀ c t g p, k c t g = true → P (.IfExp c t g p)) : P e :=
 (dite_e h).elim fun q h =>
 Expr.IfExp.elim (motive_1 := fun e => ∀ q, Expr.IfExp.elim (motive_1 := fun J => Bool) e q (fun c t f J => k c t f) = true → P e) e q (fun c t g p J h => f c t g p h) q h
noncomputable def onCal (e : Expr) (k : Expr → List Expr → List Keyword → Pos → Bool) : Bool := if h : e.ctorIdx = 16 then Expr.Call.elim (motive_1 := fun J => Bool) e h (fun f as ks p => k f as ks p) else false
@[elab_as_elim] theorem onCal_e {e : Expr} {k : Expr → List Expr → List Keyword → Pos → Bool} {P : Expr → Prop} (h : onCal e k = true) (f : ∀ g as ks p, k g as ks p = true → P (.Call g as ks p)) : P e :=
 (dite_e h).elim fun q h =>
 Expr.Call.elim (motive_1 := fun e => ∀ q, Expr.Call.elim (motive_1 := fun J => Bool) e q (fun f as ks p => k f as ks p) = true → P e) e q (fun g as ks p J h => f g as ks p h) q h
noncomputable def onSub (e : Expr) (k : Expr → Expr → Bool) : Bool := if h : e.ctorIdx = 21 then Expr.Subscript.elim (motive_1 := fun J => Bool) e h (fun o i J => k o i) else false
@[elab_as_elim] theorem onSub_e {e : Expr} {k : Expr → Expr → Bool} {P : Expr → Prop} (h : onSub e k = true) (f : ∀ o i p, k o i = true → P (.Subscript o i p)) : P e :=
 (dite_e h).elim fun q h =>
 Expr.Subscript.elim (motive_1 := fun e => ∀ q, Expr.Subscript.elim (motive_1 := fun J => Bool) e q (fun o i J => k o i) = true → P e) e q (fun o i p J h => f o i p h) q h
noncomputable def onTp (e : Expr) (k : List Expr → Bool) : Bool := if h : e.ctorIdx = 25 then Expr.Tuple.elim (motive_1 := fun J => Bool) e h (fun es J J => k es) else false
@[elab_as_elim] theorem onTp_e {e : Expr} {k : List Expr → Bool} {P : Expr → Prop} (h : onTp e k = true) (f : ∀ es n p, k es = true → P (.Tuple es n p)) : P e :=
 (dite_e h).elim fun q h =>
 Expr.Tuple.elim (motive_1 := fun e => ∀ q, Expr.Tuple.elim (motive_1 := fun J => Bool) e q (fun es J J => k es) = true → P e) e q (fun es n p J h => f es n p h) q h
noncomputable def onLst (e : Expr) (k : List Expr → Bool) : Bool := if h : e.ctorIdx = 24 then Expr.List.elim (motive_1 := fun J => Bool) e h (fun es J => k es) else false
@[elab_as_elim] theorem onLst_e {e : Expr} {k : List Expr → Bool} {P : Expr → Prop} (h : onLst e k = true) (f : ∀ es p, k es = true → P (.List es p)) : P e :=
 (dite_e h).elim fun q h =>
 Expr.List.elim (motive_1 := fun e => ∀ q, Expr.List.elim (motive_1 := fun J => Bool) e q (fun es J => k es) = true → P e) e q (fun es p J h => f es p h) q h
noncomputable def onCst (e : Expr) (k : Const → Bool) : Bool := if h : e.ctorIdx = 19 then Expr.Constant.elim (motive_1 := fun J => Bool) e h (fun c J J => k c) else false
@[elab_as_elim] theorem onCst_e {e : Expr} {k : Const → Bool} {P : Expr → Prop} (h : onCst e k = true) (f : ∀ c n p, k c = true → P (.Constant c n p)) : P e :=
 (dite_e h).elim fun q h =>
 Expr.Constant.elim (motive_1 := fun e => ∀ q, Expr.Constant.elim (motive_1 := fun J => Bool) e q (fun c J J => k c) = true → P e) e q (fun c n p J h => f c n p h) q h
noncomputable def onLC (e : Expr) (k : Expr → List Comprehension → Scope → Bool) : Bool := if h : e.ctorIdx = 8 then Expr.ListComp.elim (motive_1 := fun J => Bool) e h (fun a gs sc J => k a gs sc) else false
@[elab_as_elim] theorem onLC_e {e : Expr} {k : Expr → List Comprehension → Scope → Bool} {P : Expr → Prop} (h : onLC e k = true) (f : ∀ a gs sc p, k a gs sc = true → P (.ListComp a gs sc p)) : P e :=
 (dite_e h).elim fun q h =>
 Expr.ListComp.elim (motive_1 := fun e => ∀ q, Expr.ListComp.elim (motive_1 := fun J => Bool) e q (fun a gs sc J => k a gs sc) = true → P e) e q (fun a gs sc p J h => f a gs sc p h) q h
noncomputable def onGE (e : Expr) (k : Expr → List Comprehension → Scope → Bool) : Bool := if h : e.ctorIdx = 11 then Expr.GeneratorExp.elim (motive_1 := fun J => Bool) e h (fun a gs sc J => k a gs sc) else false
@[elab_as_elim] theorem onGE_e {e : Expr} {k : Expr → List Comprehension → Scope → Bool} {P : Expr → Prop} (h : onGE e k = true) (f : ∀ a gs sc p, k a gs sc = true → P (.GeneratorExp a gs sc p)) : P e :=
 (dite_e h).elim fun q h =>
 Expr.GeneratorExp.elim (motive_1 := fun e => ∀ q, Expr.GeneratorExp.elim (motive_1 := fun J => Bool) e q (fun a gs sc J => k a gs sc) = true → P e) e q (fun a gs sc p J h => f a gs sc p h) q h
noncomputable def onSl (e : Expr) (k : Option Expr → Option Expr → Option Expr → Bool) : Bool := if h : e.ctorIdx = 26 then Expr.Slice.elim (motive_1 := fun J => Bool) e h (fun a b c J => k a b c) else false
@[elab_as_elim] theorem onSl_e {e : Expr} {k : Option Expr → Option Expr → Option Expr → Bool} {P : Expr → Prop} (h : onSl e k = true) (f : ∀ a b c p, k a b c = true → P (.Slice a b c p)) : P e :=
 (dite_e h).elim fun q h =>
 Expr.Slice.elim (motive_1 := fun e => ∀ q, Expr.Slice.elim (motive_1 := fun J => Bool) e q (fun a b c J => k a b c) = true → P e) e q (fun a b c p J h => f a b c p h) q h
noncomputable def onAsg (e : Stmt) (k : List Expr → Expr → Bool) : Bool := if h : e.ctorIdx = 5 then Stmt.Assign.elim (motive_2 := fun J => Bool) e h (fun ts v J => k ts v) else false
@[elab_as_elim] theorem onAsg_e {e : Stmt} {k : List Expr → Expr → Bool} {P : Stmt → Prop} (h : onAsg e k = true) (f : ∀ ts v p, k ts v = true → P (.Assign ts v p)) : P e :=
 (dite_e h).elim fun q h =>
 Stmt.Assign.elim (motive_2 := fun e => ∀ q, Stmt.Assign.elim (motive_2 := fun J => Bool) e q (fun ts v J => k ts v) = true → P e) e q (fun ts v p J h => f ts v p h) q h
noncomputable def onAug (e : Stmt) (k : Expr → Operator → Expr → Bool) : Bool := if h : e.ctorIdx = 7 then Stmt.AugAssign.elim (motive_2 := fun J => Bool) e h (fun t o v J => k t o v) else false
@[elab_as_elim] theorem onAug_e {e : Stmt} {k : Expr → Operator → Expr → Bool} {P : Stmt → Prop} (h : onAug e k = true) (f : ∀ t o v p, k t o v = true → P (.AugAssign t o v p)) : P e :=
 (dite_e h).elim fun q h =>
 Stmt.AugAssign.elim (motive_2 := fun e => ∀ q, Stmt.AugAssign.elim (motive_2 := fun J => Bool) e q (fun t o v J => k t o v) = true → P e) e q (fun t o v p J h => f t o v p h) q h
noncomputable def onSIf (e : Stmt) (k : Expr → List Stmt → List Stmt → Bool) : Bool := if h : e.ctorIdx = 12 then Stmt.If.elim (motive_2 := fun J => Bool) e h (fun c t f J => k c t f) else false
@[elab_as_elim] theorem onSIf_e {e : Stmt} {k : Expr → List Stmt → List Stmt → Bool} {P : Stmt → Prop} (h : onSIf e k = true) (f : ∀ c t g p, k c t g = true → P (.If c t g p)) : P e :=
 (dite_e h).elim fun q h =>
 Stmt.If.elim (motive_2 := fun e => ∀ q, Stmt.If.elim (motive_2 := fun J => Bool) e q (fun c t f J => k c t f) = true → P e) e q (fun c t g p J h => f c t g p h) q h
noncomputable def onFor (e : Stmt) (k : Expr → Expr → List Stmt → List Stmt → Bool) : Bool := if h : e.ctorIdx = 9 then Stmt.For.elim (motive_2 := fun J => Bool) e h (fun t i b f J => k t i b f) else false
@[elab_as_elim] theorem onFor_e {e : Stmt} {k : Expr → Expr → List Stmt → List Stmt → Bool} {P : Stmt → Prop} (h : onFor e k = true) (f : ∀ t i b g p, k t i b g = true → P (.For t i b g p)) : P e :=
 (dite_e h).elim fun q h =>
 Stmt.For.elim (motive_2 := fun e => ∀ q, Stmt.For.elim (motive_2 := fun J => Bool) e q (fun t i b f J => k t i b f) = true → P e) e q (fun t i b g p J h => f t i b g p h) q h
noncomputable def onWh (e : Stmt) (k : Expr → List Stmt → List Stmt → Bool) : Bool := if h : e.ctorIdx = 11 then Stmt.While.elim (motive_2 := fun J => Bool) e h (fun c b f J => k c b f) else false
@[elab_as_elim] theorem onWh_e {e : Stmt} {k : Expr → List Stmt → List Stmt → Bool} {P : Stmt → Prop} (h : onWh e k = true) (f : ∀ c b g p, k c b g = true → P (.While c b g p)) : P e :=
 (dite_e h).elim fun q h =>
 Stmt.While.elim (motive_2 := fun e => ∀ q, Stmt.While.elim (motive_2 := fun J => Bool) e q (fun c b f J => k c b f) = true → P e) e q (fun c b g p J h => f c b g p h) q h
noncomputable def onRet (e : Stmt) (k : Option Expr → Bool) : Bool := if h : e.ctorIdx = 3 then Stmt.Return.elim (motive_2 := fun J => Bool) e h (fun v J => k v) else false
@[elab_as_elim] theorem onRet_e {e : Stmt} {k : Option Expr → Bool} {P : Stmt → Prop} (h : onRet e k = true) (f : ∀ v p, k v = true → P (.Return v p)) : P e :=
 (dite_e h).elim fun q h =>
 Stmt.Return.elim (motive_2 := fun e => ∀ q, Stmt.Return.elim (motive_2 := fun J => Bool) e q (fun v J => k v) = true → P e) e q (fun v p J h => f v p h) q h
noncomputable def onEx (e : Stmt) (k : Expr → Bool) : Bool := if h : e.ctorIdx = 24 then Stmt.Expr.elim (motive_2 := fun J => Bool) e h (fun v J => k v) else false
section
variable {α : Type} {P : List α → Prop}
noncomputable def un0 (l : List α) (b : Bool) : Bool := match l with | [] => b | _ => false
@[elab_as_elim] theorem un0_e {l : List α} {b : Bool} (h : un0 l b = true) (f : b = true → P []) : P l := by
 cases l <;> first | exact f h | exact (Bool.false_ne_true h).elim
noncomputable def onCo (l : List α) (k : α → List α → Bool) : Bool := match l with | a :: r => k a r | [] => false
@[elab_as_elim] theorem onCo_e {l : List α} {k : α → List α → Bool} (h : onCo l k = true) (f : ∀ a r, k a r = true → P (a :: r)) : P l := by
 cases l <;> first | exact f _ _ h | exact (Bool.false_ne_true h).elim
noncomputable def un1 (l : List α) (k : α → Bool) : Bool := onCo l fun a r => un0 r (k a)
@[elab_as_elim] theorem un1_e {l : List α} {k : α → Bool} (h : un1 l k = true) (f : ∀ a, k a = true → P [a]) : P l :=
 onCo_e h fun a r h => un0_e (P := fun r => P (a :: r)) h (f a)
noncomputable def un2 (l : List α) (k : α → α → Bool) : Bool := onCo l fun a r => un1 r (k a)
@[elab_as_elim] theorem un2_e {l : List α} {k : α → α → Bool} (h : un2 l k = true) (f : ∀ a b, k a b = true → P [a, b]) : P l :=
 onCo_e h fun a r h => un1_e (P := fun r => P (a :: r)) h (f a)
noncomputable def un3 (l : List α) (k : α → α → α → Bool) : Bool := onCo l fun a r => un2 r (k a)
@[elab_as_elim] theorem un3_e {l : List α} {k : α → α → α → Bool} (h : un3 l k = true) (f : ∀ a b c, k a b c = true → P [a, b, c]) : P l :=
 onCo_e h fun a r h => un2_e (P := fun r => P (a :: r)) h (f a)
end
section
variable {α : Type} {P : Option α → Prop}
noncomputable def onS (l : Option α) (k : α → Bool) : Bool := match l with | some a => k a | none => false
@[elab_as_elim] theorem onS_e {l : Option α} {k : α → Bool} (h : onS l k = true) (f : ∀ a, k a = true → P (some a)) : P l := by
 cases l <;> first | exact f _ h | exact (Bool.false_ne_true h).elim
noncomputable def onN (l : Option α) (b : Bool) : Bool := match l with | none => b | _ => false
@[elab_as_elim] theorem onN_e {l : Option α} {b : Bool} (h : onN l b = true) (f : b = true → P none) : P l := by
 cases l <;> first | exact f h | exact (Bool.false_ne_true h).elim
end
section
variable {a b c d e f g i : Bool} {P : Prop}
theorem an2 (h : (a && b) = true) (k : a = true → b = true → P) : P := by
 cases a
 ·exact (Bool.false_ne_true h).elim
 ·exact k rfl h
theorem an3 (h : (a && b && c) = true) (k : a = true → b = true → c = true → P) : P := an2 h fun h hc => an2 h fun ha hb => k ha hb hc
theorem an4 (h : (a && b && c && d) = true) (k : a = true → b = true → c = true → d = true → P) : P := an2 h fun h hd => an3 h fun ha hb hc => k ha hb hc hd
theorem an5 (h : (a && b && c && d && e) = true) (k : a = true → b = true → c = true → d = true → e = true → P) : P := an2 h fun h he => an4 h fun ha hb hc hd => k ha hb hc hd he
theorem an6 (h : (a && b && c && d && e && f) = true) (k : a = true → b = true → c = true → d = true → e = true → f = true → P) : P := an2 h fun h he => an5 h fun ha hb hc hd hf => k ha hb hc hd hf he
theorem an8 (h : (a && b && c && d && e && f && g && i) = true) (k : a = true → b = true → c = true → d = true → e = true → f = true → g = true → i = true → P) : P := an2 h fun h hi => an2 h fun h hg => an6 h fun ha hb hc hd he hf => k ha hb hc hd he hf hg hi
theorem not_e (h : (!a) = true) : a = false := by
 cases a
 ·rfl
 ·exact (Bool.false_ne_true h).elim
end
theorem eq_e {a b : Str} {P : Str → Prop} (h : (a == b) = true) (f : P b) : P a := eq_of_beq h ▸ f
noncomputable def onCall (e : Expr) (k : Str → List Expr → Bool) : Bool := onCal e fun f as ks J => onNm f fun x => un0 ks (k x as)
@[elab_as_elim] theorem onCall_e {e : Expr} {k : Str → List Expr → Bool} {P : Expr → Prop} (h : onCall e k = true) (f : ∀ x as p q, k x as = true → P (.Call (.Name x p) as [] q)) : P e :=
 onCal_e h fun g as ks q h => onNm_e (P := fun g => P (.Call g as ks q)) h fun x p h => un0_e (P := fun ks => P (.Call _ as ks q)) h (f x as p q)
noncomputable def onMet (e : Expr) (k : Expr → Str → Pos → List Expr → Pos → Bool) : Bool := onCal e fun f as ks q => onAttr f fun o x p => un0 ks (k o x p as q)
@[elab_as_elim] theorem onMet_e {e : Expr} {k : Expr → Str → Pos → List Expr → Pos → Bool} {P : Expr → Prop} (h : onMet e k = true) (f : ∀ o x p as q, k o x p as q = true → P (.Call (.Attribute o x p) as [] q)) : P e :=
 onCal_e h fun g as ks q h => onAttr_e (P := fun g => P (.Call g as ks q)) h fun o x p h => un0_e (P := fun ks => P (.Call _ as ks q)) h (f o x p as q)
noncomputable def onGen (l : List Comprehension) (k : Expr → Expr → List Expr → Bool) : Bool := un1 l fun g => decide (g.is_async = 0) && k g.target g.iter g.ifs
@[elab_as_elim] theorem onGen_e {l : List Comprehension} {k : Expr → Expr → List Expr → Bool} {P : List Comprehension → Prop} (h : onGen l k = true) (f : ∀ t i fs, k t i fs = true → P [⟨t, i, fs, 0⟩]) : P l :=
 un1_e h fun ⟨t, i, fs, z⟩ h => an2 h fun h0 h => (of_decide_eq_true h0 : z = 0) ▸ f t i fs h
noncomputable def isInt (i : Int) (c : Const) : Bool := match c with | .int j => decide (i = j) | _ => false
theorem isInt_e {i : Int} {c : Const} (h : isInt i c = true) : c = .int i := by
 cases c <;> first | (cases of_decide_eq_true h; rfl) | exact (Bool.false_ne_true h).elim
noncomputable def isBo (b : Bool) (c : Const) : Bool := match c with | .bool j => b == j | _ => false
theorem isBo_e {b : Bool} {c : Const} (h : isBo b c = true) : c = .bool b := by
 cases c <;> first | (cases eq_of_beq h; rfl) | exact (Bool.false_ne_true h).elim
noncomputable def isNn (c : Const) : Bool := match c with | .none => true | _ => false
theorem isNn_e {c : Const} (h : isNn c = true) : c = .none := by
 cases c <;> first | rfl | exact (Bool.false_ne_true h).elim
noncomputable def isUS (o : UnaryOp) : Bool := match o with | .USub => true | _ => false
theorem isUS_e {o : UnaryOp} (h : isUS o = true) : o = .USub := by
 cases o <;> first | rfl | exact (Bool.false_ne_true h).elim
noncomputable def isNt (o : UnaryOp) : Bool := match o with | .Not => true | _ => false
theorem isNt_e {o : UnaryOp} (h : isNt o = true) : o = .Not := by
 cases o <;> first | rfl | exact (Bool.false_ne_true h).elim
noncomputable def isAn (o : BoolOp) : Bool := match o with | .And => true | _ => false
theorem isAn_e {o : BoolOp} (h : isAn o = true) : o = .And := by
 cases o <;> first | rfl | exact (Bool.false_ne_true h).elim
noncomputable def isOr (o : BoolOp) : Bool := match o with | .Or => true | _ => false
theorem isOr_e {o : BoolOp} (h : isOr o = true) : o = .Or := by
 cases o <;> first | rfl | exact (Bool.false_ne_true h).elim
noncomputable def gname : Fn → Str
 | .isInf => "is_inf_optimized_curve" | .onC => "is_on_curve_optimized_curve" | .dbl => "double_optimized_curve" | .add => "add_optimized_curve" | .mul => "multiply_optimized_curve" | .eq => "eq_optimized_curve" | .norm => "normalize_optimized_curve" | .neg => "neg_optimized_curve" | .isInf2 => "is_inf_optimized_curve2" | .onC2 => "is_on_curve_optimized_curve2" | .dbl2 => "double_optimized_curve2" | .add2 => "add_optimized_curve2" | .mul2 => "multiply_optimized_curve2" | .eq2 => "eq_optimized_curve2" | .norm2 => "normalize_optimized_curve2" | .neg2 => "neg_optimized_curve2" | .pIsInf => "is_inf_bn128_curve" | .pOnC => "is_on_curve_bn128_curve" | .pDbl => "double_bn128_curve" | .pAdd => "add_bn128_curve" | .pMul => "multiply_bn128_curve" | .pEq => "eq_bn128_curve" | .pNeg => "neg_bn128_curve" | .pfi => "prime_field_inv" | .deg => "deg" | .prd => "poly_rounded_div" | .twist => "twist" | .cFQ => "FQ" | .cFP => "FQP_field_elements" | .cOPT => "FQP_optimized_field_elements" | .cFQ2 => "FQ2" | .lPrimes => "_law_primes" | .lTimes => "_law_times" | .lLess => "_law_less" | .lOver => "_law_over" | .lRoot => "_law_root" | .lAdd => "_law_add" | .lNeg => "_law_negative" | .lMult => "_law_multiple" | .lCube => "_law_cube" | .lPoint => "_law_point" | .lForm => "_law_form" | .lPair => "_law_pair" | .lRead => "_law_read" | .lPlain => "_law_plain" | .lPlainRead => "_law_plain_read" | .lTells => "_law_tells" | .lOpt => "_law_optimized" | .lPlainRight => "_law_is_plain_right" | .lTwisted => "_law_is_twisted" | .law => "law"
 | _ => ""
noncomputable def glob (sc : Scope) (x : Str) : Bool := (match sc.names.lookup x with | some .globalImplicit => true | _ => false)
noncomputable def plainE (e : Expr) : Bool := !(Nat.beq e.ctorIdx 22 || Nat.beq e.ctorIdx 7)
noncomputable def isNm (e : Expr) : Bool := Nat.beq e.ctorIdx 23
@[elab_as_elim] theorem isNm_e {e : Expr} {P : Expr → Prop} (h : isNm e = true) (f : ∀ x p, P (.Name x p)) : P e := Expr.Name.elim (motive_1 := P) e (Nat.eq_of_beq_eq_true h) f
noncomputable def isNmSub (e : Expr) : Bool := Nat.beq e.ctorIdx 23 || Nat.beq e.ctorIdx 21
noncomputable def isSl (e : Expr) : Bool := Nat.beq e.ctorIdx 26
noncomputable def nmAt : List Str → Nat → Str → Bool
 | [], _, _ => false
 | y :: _, 0, x => y == x
 | _ :: r, n + 1, x => nmAt r n x
theorem nmAt_eq : ∀ (l : List Str) (n : Nat) (x : Str), nmAt l n x = true → l[n]? = some x
 | [], _, _, h => by cases h
 | y :: _, 0, x, h => by rw [eq_of_beq (show (y == x) = true from h)]; rfl
 | _ :: r, n + 1, x, h => by simpa using nmAt_eq r n x h
noncomputable def tyName : Ty → Str | .int => "int" | .tuple => "tuple" | .cls .fq => "FQ" | .cls .fp => "FQP_field_elements" | .cls .opt => "FQP_optimized_field_elements" | .cls .fq2 => "FQ2"
noncomputable def chkTy (sc : Scope) (t : Ty) (e : Expr) : Bool := onNm e fun x => x == tyName t && glob sc x
noncomputable def chkTys (sc : Scope) : List Ty → Expr → Bool
 | [], _ => false
 | t :: ts, e => match ts with
  | [] => chkTy sc t e
  | u :: vs => un0 vs true && onTp e fun es => un2 es fun a b => plainE a && plainE b && chkTy sc t a && chkTy sc u b
noncomputable def biName : Bi → Str | .len => "len" | .int => "int" | .abs => "abs"
noncomputable def chkNm (nm : List Str) (i : Nat) (e : Expr) : Bool := onNm e fun x => nmAt nm i x && !(x == "__debug__")
noncomputable def chkNames (nm : List Str) : List Nat → List Expr → Bool
 | [], es => un0 es true
 | i :: is, es => onCo es fun e es => chkNm nm i e && chkNames nm is es
noncomputable def chkPat (nm : List Str) (pat : List Nat) (e : Expr) : Bool := match pat with
 | [] => onTp e (chkNames nm [])
 | i :: is => match is with
  | [] => chkNm nm i e
  | j :: r => onTp e (chkNames nm (i :: j :: r))
noncomputable def nameOf : List Str → Nat → Str
 | [], _ => ""
 | x :: _, 0 => x
 | _ :: r, n + 1 => nameOf r n
noncomputable def isCell (o : Option NameKind) : Bool := match o with | some .cell => true | _ => false
noncomputable def isFree (o : Option NameKind) : Bool := match o with | some .free => true | _ => false
noncomputable def isLoc (o : Option NameKind) : Bool := match o with | some .local => true | _ => false
noncomputable def inL : Str → List Str → Bool
 | _, [] => false
 | x, y :: r => x == y || inL x r
noncomputable def nodupL : List Str → Bool
 | [] => true
 | x :: r => !inL x r && nodupL r
noncomputable def chkScope (sc sc' : Scope) (nm : List Str) (caps : List Nat) (own : List Str) : Bool :=
 sc'.kind == .function && sc.kind == .function && nodupL own &&
 own.all (fun x => isLoc (sc'.names.lookup x)) &&
 caps.all (fun i => isCell (sc.names.lookup (nameOf nm i)) && isFree (sc'.names.lookup (nameOf nm i))) &&
 sc'.names.all (fun x => match x.2 with
  | .local => isLoc (sc'.names.lookup x.1)
  | .cell => false
  | .free => isCell (sc.names.lookup x.1)
  | _ => true)
noncomputable def ttOf : IE → Bool | .enum _ => true | .zip _ _ => true | _ => false
noncomputable def multi : List Nat → Bool | [_] => false | _ => true
noncomputable def bi1 (sc : Scope) (f : Str) (e : Expr) (k : Expr → Bool) : Bool := onCall e fun x as => un1 as fun a => x == f && glob sc x && plainE a && k a
noncomputable def bi2 (sc : Scope) (f : Str) (e : Expr) (k : Expr → Expr → Bool) : Bool := onCall e fun x as => un2 as fun a b => x == f && glob sc x && plainE a && plainE b && k a b
noncomputable def bi3 (sc : Scope) (f : Str) (e : Expr) (k : Expr → Expr → Expr → Bool) : Bool := onCall e fun x as => un3 as fun a b c => x == f && glob sc x && plainE a && plainE b && plainE c && k a b c
section
variable {sc : Scope} {f : Str} {e : Expr} {P : Expr → Prop}
@[elab_as_elim] theorem bi1_e {k : Expr → Bool} (h : bi1 sc f e k = true) (g : ∀ a p q, glob sc f = true → plainE a = true → k a = true → P (.Call (.Name f p) [a] [] q)) : P e :=
 onCall_e h fun x as p q h => un1_e (P := fun as => P (.Call (.Name x p) as [] q)) h fun a h => an4 h fun h0 h1 h2 h3 => by
  cases eq_of_beq h0; exact g _ _ _ h1 h2 h3
@[elab_as_elim] theorem bi2_e {k : Expr → Expr → Bool} (h : bi2 sc f e k = true) (g : ∀ a b p q, glob sc f = true → plainE a = true → plainE b = true → k a b = true → P (.Call (.Name f p) [a, b] [] q)) : P e :=
 onCall_e h fun x as p q h => un2_e (P := fun as => P (.Call (.Name x p) as [] q)) h fun a b h => an5 h fun h0 h1 h2 h3 h4 => by
  cases eq_of_beq h0; exact g _ _ _ _ h1 h2 h3 h4
@[elab_as_elim] theorem bi3_e {k : Expr → Expr → Expr → Bool} (h : bi3 sc f e k = true) (g : ∀ a b c p q, glob sc f = true → plainE a = true → plainE b = true → plainE c = true → k a b c = true → P (.Call (.Name f p) [a, b, c] [] q)) : P e :=
 onCall_e h fun x as p q h => un3_e (P := fun as => P (.Call (.Name x p) as [] q)) h fun a b c h => an6 h fun h0 h1 h2 h3 h4 h5 => by
  cases eq_of_beq h0; exact g _ _ _ _ _ h1 h2 h3 h4 h5
end
noncomputable def isM1 (e : Expr) : Bool := onUn e fun o a => isUS o && onCst a fun c => isInt 1 c
@[elab_as_elim] theorem isM1_e {e : Expr} {P : Expr → Prop} (h : isM1 e = true) (f : ∀ k p q, P (.UnaryOp .USub (.Constant (.int 1) k p) q)) : P e :=
 onUn_e h fun o a q h => an2 h fun h0 h => by
  cases isUS_e h0
  exact onCst_e (P := fun a => P (.UnaryOp .USub a q)) h fun c n p h => by cases isInt_e h; exact f _ _ _
mutual
noncomputable def chkE (sc : Scope) (nm : List Str) : IE → Expr → Bool
 | .int i, e => onCst e (isInt i)
 | .bool b, e => onCst e (isBo b)
 | .none, e => onCst e isNn
 | .va i, e => chkNm nm i e
 | .bin op l r, e => onBin e fun l' op' r' => op == op' && chkE sc nm l l' && chkE sc nm r r'
 | .neg a, e => onUn e fun o a' => isUS o && chkE sc nm a a'
 | .not a, e => onUn e fun o a' => isNt o && chkE sc nm a a'
 | .and l r, e => onBo e fun o es => isAn o && un2 es fun l' r' => chkE sc nm l l' && chkE sc nm r r'
 | .or l r, e => onBo e fun o es => isOr o && un2 es fun l' r' => chkE sc nm l l' && chkE sc nm r r'
 | .cmp op l r, e => onCm e fun l' os rs => un1 os fun op' => un1 rs fun r' => op == op' && plainE r' && chkE sc nm l l' && chkE sc nm r r'
 | .ite c t f, e => onIf e fun c' t' f' => chkE sc nm c c' && chkE sc nm t t' && chkE sc nm f f'
 | .call f as, e => onCall e fun x args => x == gname f && glob sc x && !(gname f == "") && !(x == "__debug__") && chkEs sc nm as args
 | .meth o m as, e => onMet e fun o' x apos args pos => x == m.str && isNmSub o' && decide (apos.endLine = pos.line) && decide (args.length < 30) && chkE sc nm o o' && chkEs sc nm as args
 | .attr o f, e => onAttr e fun o' x J => x == f.str && isNm o' && chkE sc nm o o'
 | .idx o i, e => onSub e fun o' i' => !isSl i' && chkE sc nm o o' && chkE sc nm i i'
 | .upto o u, e => onSub e fun o' i' => onSl i' fun a b c => onN a (onS b fun u' => onN c (isNm o' && chkE sc nm o o' && chkE sc nm u u'))
 | .tup es, e => onTp e fun es' => chkEs sc nm es es'
 | .lst es, e => onLst e fun es' => chkEs sc nm es es'
 | .comp caps own pat it cond elt, e => onLC e fun elt' gs sc' => onGen gs fun target iter ifs =>
   plainE iter && chkScope sc sc' nm caps own && (!ttOf it || multi pat) && pat.all (fun i => Nat.ble nm.length i) && chkPat (nm ++ own) pat target && chkE sc nm it iter && chkE sc' (nm ++ own) elt elt' &&
   (match ifs with | [] => isNo cond | [c] => !isNo cond && chkE sc' (nm ++ own) cond c | _ => false)
 | .bi b a, e => bi1 sc (biName b) e fun a' => chkE sc nm a a'
 | .pow3 a b c, e => bi3 sc "pow" e fun a' b' c' => chkE sc nm a a' && chkE sc nm b b' && chkE sc nm c c'
 | .tupOf a, e => bi1 sc "tuple" e fun a' => chkE sc nm a a'
 | .listOf a, e => bi1 sc "list" e fun a' => chkE sc nm a a'
 | .isi a ts, e => bi2 sc "isinstance" e fun a' t' => chkE sc nm a a' && chkTys sc ts t'
 | .rng1 a, e => bi1 sc "range" e fun a' => chkE sc nm a a'
 | .rng3 a b c, e => bi3 sc "range" e fun a' b' c' => chkE sc nm a a' && chkE sc nm b b' && isM1 c'
 | .enum a, e => bi1 sc "enumerate" e fun a' => chkE sc nm a a'
 | .zip a b, e => bi2 sc "zip" e fun a' b' => chkE sc nm a a' && chkE sc nm b b'
 | .listEnum a, e => bi1 sc "list" e fun b => bi1 sc "enumerate" b fun a' => chkE sc nm a a'
 | .an, _ => false
 | .ac _ _, _ => false
noncomputable def chkEs (sc : Scope) (nm : List Str) : IE → List Expr → Bool
 | .an, es => un0 es true
 | .ac a r, es => onCo es fun e es' => plainE e && chkE sc nm a e && chkEs sc nm r es'
 | _, _ => false
end
noncomputable def TgtOk (tt : Bool) (x : V) (tgt : Expr) : Prop := (tt = false ∧ ∃ y p, tgt = .Name y p) ∨ ((∃ vs, x = .tup vs) ∧ ∃ es k p, tgt = .Tuple es k p)
structure ItOk (prog : Program) (w : World) (A : Around) (tt : Bool) (I : Addr) (wr : List Addr) (items : List V) (Z : ZM) (St : Nat → Heap → Prop) : Prop where
 frame : ∀ i h h', St i h → (∀ b ∈ wr, ∀ o, h.get? b = some o → h'.get? b = some o) → (∀ b o, Z b = some o → h'.get? b = some o) → St i h'
 live : ∀ i h, St i h → ∀ b ∈ wr, ∃ o, h.get? b = some o
 turn : ∀ i x (s : Shared) (Z₁ : ZM) (Q : Value → Shared → Prop) (E : Value → Shared → Prop) (tgt : Expr), items[i]? = some x → TgtOk tt x tgt → St i s.heap → ZLe Z Z₁ → (∀ b o, Z₁ b = some o → s.heap.get? b = some o) → (∀ b ∈ wr, Z₁ b = none) →
  (∀ v Z₂ h' tk, ZLe Z₁ Z₂ → Rep Z₂ v x → (∀ b o, Z₂ b = some o → h'.get? b = some o) → (∀ b o, Z₂ b = some o → Z₁ b = some o ∨ s.heap.get? b = none) → St (i + 1) h' →
   (∀ b o, b ∉ wr → s.heap.get? b = some o → h'.get? b = some o) → Q v { s with heap := h', toks := tk }) →
  wpAny (model prog w) A (pyNext (.ref I)) (fun r s₁ => ∃ v, r = some v ∧ wpAny (model prog w) A (letOwnedTupleGo tgt (.ref I) v) (fun J s₂ => Q v s₂) E s₁) E s
 done : ∀ (s : Shared) (Q : Option Value → Shared → Prop) (E : Value → Shared → Prop), St items.length s.heap →
  (∀ h' tk, (∀ b o, b ∉ wr → s.heap.get? b = some o → h'.get? b = some o) → Q none { s with heap := h', toks := tk }) → wpAny (model prog w) A (pyNext (.ref I)) Q E s
 self : ∀ i (s : Shared) (Q : Value → Shared → Prop) (E : Value → Shared → Prop), St i s.heap → Q (.ref I) s → wpAny (model prog w) A (pyIter (.ref I)) Q E s
section
variable {A : Around} {E : Value → Shared → Prop} {s : Shared} {Z : ZM}
theorem letGo_plain {tgt : Expr} {I : Addr} {v : Value} {o : Obj} {T : String} {fs : Array Value} {Q : Unit → Shared → Prop} (ho : s.heap.get? I = some o) (hc : o.cls = .type T) (hd : o.data = .fields fs)
  (hT : (["enumerate", "zip", "dict_itemiterator", "dict_reverseitemiterator", "odict_iterator", "itertools.zip_longest", "itertools.pairwise"].contains T) = false) (hQ : Q () s) :
  wpAny (model prog w) A (letOwnedTupleGo tgt (.ref I) v) Q E s := by
 unfold letOwnedTupleGo
 cases tgt <;> first | exact wpAny_pure hQ | skip
 all_goals
  cases v <;> first | exact wpAny_pure hQ | skip
  refine wpAny_bind (wpAny_load ho ?_)
  rw [hc, hd]
  dsimp only
  rw [hT, Bool.false_and, if_neg Bool.false_ne_true]
  exact wpAny_pure hQ
theorem it_list {I l : Addr} {vs : List Value} {xs : List V} {o : Obj} (hh : A.handled = none) (hne : l ≠ I) (hz : Z l = some o) (hl : ∀ h : Heap, h.get? l = some o → h.IsList l vs.toArray) (r : RepL Z vs xs) :
  ItOk prog w A false I [I] xs Z (fun i h => h.IsListIter I l i ∧ h.IsList l vs.toArray) where
 frame := fun i h h' st hk hz' => ⟨st.1.at fun o e => hk I (List.mem_singleton.mpr rfl) o e, hl _ (hz' _ _ hz)⟩
 live := fun i h st => allc (st.1.elim fun o p => ⟨o, p.1⟩) alln
 turn := fun i x s Z₁ Q E tgt hx ht st le hz₁ hw hQ => by
  obtain ⟨v, hv, hr⟩ := (r.get hx)
  haveI W := Walks.list (prog := prog) (w := w) (A := A) hh I l hne vs.toArray
  haveI hi : i < vs.toArray.size := by simpa using (List.getElem?_eq_some_iff.mp hv).1
  refine W.item i s _ E hi st fun v' h' tk hP st' hk => ⟨v', rfl, ?_⟩
  haveI e : v' = v := by
   haveI hP' : vs[i]? = some v' := by simpa using hP
   rw [hv] at hP'; exact (Option.some.inj hP').symm
  subst e
  obtain ⟨oi, e1, e2, e3⟩ := (id st'.1)
  refine letGo_plain e1 e2 e3 (by decide) ?_
  refine hQ v' Z₁ h' tk (.refl _) (hr.mono le) (fun b o e => hk b o (fun hb => ?_) (hz₁ b o e)) (fun J J e => .inl e) st' hk
  rw [hw b hb] at e; cases e
 done := fun s Q E st hQ => by
  haveI W := Walks.list (prog := prog) (w := w) (A := A) hh I l hne vs.toArray
  haveI e : xs.length = vs.toArray.size := by rw [List.size_toArray, r.length]
  rw [e] at st
  exact W.done s Q E st hQ
 self := fun i s Q E st hQ => (Walks.list (prog := prog) (w := w) (A := A) hh I l hne vs.toArray).self i s Q E st hQ
theorem it_tuple {I l : Addr} {vs : List Value} {xs : List V} {o : Obj} (hh : A.handled = none) (hne : l ≠ I) (hz : Z l = some o) (hl : ∀ h : Heap, h.get? l = some o → h.IsTuple l vs.toArray) (r : RepL Z vs xs) :
  ItOk prog w A false I [I] xs Z (fun i h => h.IsTupleIter I l i ∧ h.IsTuple l vs.toArray) where
 frame := fun i h h' st hk hz' => ⟨st.1.at fun o e => hk I (List.mem_singleton.mpr rfl) o e, hl _ (hz' _ _ hz)⟩
 live := fun i h st => allc (st.1.elim fun o p => ⟨o, p.1⟩) alln
 turn := fun i x s Z₁ Q E tgt hx ht st le hz₁ hw hQ => by
  obtain ⟨v, hv, hr⟩ := (r.get hx)
  haveI W := Walks.tuple (prog := prog) (w := w) (A := A) hh I l hne vs.toArray
  haveI hi : i < vs.toArray.size := by simpa using (List.getElem?_eq_some_iff.mp hv).1
  refine W.item i s _ E hi st fun v' h' tk hP st' hk => ⟨v', rfl, ?_⟩
  haveI e : v' = v := by
   haveI hP' : vs[i]? = some v' := by simpa using hP
   rw [hv] at hP'; exact (Option.some.inj hP').symm
  subst e
  obtain ⟨oi, e1, e2, e3⟩ := (id st'.1)
  refine letGo_plain e1 e2 e3 (by decide) ?_
  refine hQ v' Z₁ h' tk (.refl _) (hr.mono le) (fun b o e => hk b o (fun hb => ?_) (hz₁ b o e)) (fun J J e => .inl e) st' hk
  rw [hw b hb] at e; cases e
 done := fun s Q E st hQ => by
  haveI W := Walks.tuple (prog := prog) (w := w) (A := A) hh I l hne vs.toArray
  haveI e : xs.length = vs.toArray.size := by rw [List.size_toArray, r.length]
  rw [e] at st
  exact W.done s Q E st hQ
 self := fun i s Q E st hQ => (Walks.tuple (prog := prog) (w := w) (A := A) hh I l hne vs.toArray).self i s Q E st hQ
theorem it_range {I : Addr} {a c : Int} {n : Nat} (hh : A.handled = none) : ItOk prog w A false I [I] ((List.range n).map fun (i : Nat) => V.int (a + (i : Int) * c)) Z (fun i h => IsRangeIter h I (a + (i : Nat) * c) ((n : Int) - (i : Nat)) c) where
 frame := fun i h h' st hk hz' => hk I (List.mem_singleton.mpr rfl) _ st
 live := fun i h st => allc ⟨_, st⟩ alln
 turn := fun i x s Z₁ Q E tgt hx ht st le hz₁ hw hQ => by
  haveI W := Walks.range (prog := prog) (w := w) (A := A) hh I a c n
  have hi : i < n ∧ x = .int (a + (i : Int) * c) := by
   rw [List.getElem?_map] at hx
   obtain ⟨j, hj, rfl⟩ := (Option.map_eq_some_iff.mp hx)
   obtain ⟨h1, h2⟩ := List.getElem?_eq_some_iff.mp hj
   rw [List.getElem_range] at h2
   subst h2
   exact ⟨by simpa using h1, rfl⟩
  obtain ⟨hi, rfl⟩ := (hi)
  refine W.item i s _ E hi st fun v' h' tk hP st' hk => ⟨v', rfl, ?_⟩
  obtain ⟨t, rfl⟩ := hP
  haveI e : wpAny (model prog w) A (letOwnedTupleGo tgt (.ref I) (.int (a + (i : Int) * c) t)) (fun J s₂ => Q (.int (a + (i : Int) * c) t) s₂) E { s with heap := h', toks := tk } := by
   refine letGo_plain st' rfl rfl (by decide) ?_
   refine hQ _ Z₁ h' tk (.refl _) (.int _ _) (fun b o e => hk b o (fun hb => ?_) (hz₁ b o e)) (fun J J e => .inl e) st' hk
   rw [hw b hb] at e; cases e
  exact e
 done := fun s Q E st hQ => by
  rw [List.length_map, List.length_range] at st
  exact (Walks.range (prog := prog) (w := w) (A := A) hh I a c n).done s Q E st hQ
 self := fun i s Q E st hQ => (Walks.range (prog := prog) (w := w) (A := A) hh I a c n).self i s Q E st hQ
theorem it_walksT {I : Addr} {fp wr : List Addr} {n : Nat} {Pt : Nat → Array Value → Prop} {St : Nat → Heap → Prop} {Mid : Nat → Addr → Heap → Prop} {items : List V} {fz wr' : List Addr} (W : WalksT prog w A I fp wr n Pt St Mid) (hn : items.length = n)
  (hw' : ∀ b ∈ wr, b ∈ wr') (hfp : ∀ b ∈ fp, b ∈ wr' ∨ b ∈ fz) (hfz : ∀ b ∈ fz, ∃ o, Z b = some o)
  (live : ∀ i h, St i h → ∀ b ∈ wr', ∃ o, h.get? b = some o)
  (hP : ∀ i x vals, items[i]? = some x → Pt i vals → ∃ vs xs, vals = (vs : List Value).toArray ∧ x = .tup xs ∧ RepL Z vs xs ∧ xs.length ≤ 64) :
  ItOk prog w A true I wr' items Z (fun i h => St i h ∧ ∀ b o, Z b = some o → h.get? b = some o) where
 frame := fun i h h' st hk hz' => ⟨W.frame i h h' st.1 fun b hb o e => by
  rcases hfp b hb with hb | hb
  ·exact hk b hb o e
  ·obtain ⟨o', e'⟩ := hfz b hb
   have := st.2 b o' e'
   rw [e] at this; cases this
   exact hz' b o e', hz'⟩
 live := fun i h st => live i h st.1
 turn := fun i x s Z₁ Q E tgt hx ht st le hz₁ hw hQ => by
  haveI hi : i < n := by rw [← hn]; exact (List.getElem?_eq_some_iff.mp hx).1
  refine W.item i s _ E hi st.1 fun T vals h' tk hPt hT hTup hMid hk => ⟨.ref T, rfl, ?_⟩
  obtain ⟨vs, xs, rfl, rfl, hr, hl⟩ := (hP i x vals hx hPt)
  rcases ht with ⟨h, _⟩ | ⟨_, es, k, p, rfl⟩
  ·cases h
  ·refine W.go es k p i T _ _ E hMid fun h'' st' hk' => ?_
   obtain ⟨o, ho, hc, m, hd⟩ := (hTup)
   haveI hTw := W.apart i T h' hMid
   haveI ho'' : h''.get? T = some o := hk' T o hTw ho
   have hTn : s.heap.get? T = none := by
    cases q : s.heap.get? T with
    | none => rfl
    | some o' => exact absurd (Heap.lt_size q) (Nat.not_lt.mpr hT)
   haveI hZT : Z₁ T = none := by
    cases q : Z₁ T with
    | none => rfl
    | some o' => rw [hz₁ T o' q] at hTn; cases hTn
   have keep : ∀ b o, b ∉ wr' → s.heap.get? b = some o → h''.get? b = some o := fun b o hb e => hk' b o (fun q => hb (hw' b q)) (hk b o (fun q => hb (hw' b q)) e)
   refine hQ (.ref T) (zAdd Z₁ T o) h'' tk (zAdd_le hZT) (.tup (zAdd_self ..) hc hd hl ((hr.mono le).mono (zAdd_le hZT))) (fun b x e => ?_) (fun b x e => ?_) ⟨st', fun b x e => keep b x (fun hb => by have q := le b x e; rw [hw b hb] at q; cases q) (hz₁ b x (le b x e))⟩ keep
   ·unfold zAdd at e
    split at e
    ·rename_i q; rw [q]; cases e; exact ho''
    ·refine keep b x (fun hb => ?_) (hz₁ b x e)
     rw [hw b hb] at e; cases e
   ·unfold zAdd at e
    split at e
    ·rename_i q; rw [q]; exact .inr hTn
    ·exact .inl e
 done := fun s Q E st hQ => W.done s Q E (hn ▸ st.1) fun h' tk k => hQ h' tk fun b o hb => k b o fun q => hb (hw' b q)
 self := fun i s Q E st hQ => W.self i s Q E st.1 hQ
end
noncomputable def Src (prog : Program) (w : World) (A : Around) (Z : ZM) (s : Shared) (kl : List V → Prop) (tt₀ : Bool) (it : Value) (s' : Shared) : Prop :=
 ∃ tt I wr items Z' St, it = .ref I ∧ (tt = true → tt₀ = true) ∧ Grow Z s Z' s' ∧ ItOk prog w A tt I wr items Z' St ∧ St 0 s'.heap ∧ (∀ b ∈ wr, Z' b = none ∧ s.heap.get? b = none) ∧ kl items
theorem Src.before {A : Around} {Z Z₁ : ZM} {s s₁ s' : Shared} {kl : List V → Prop} {tt : Bool} {it : Value} (g : Grow Z s Z₁ s₁) (h : Src prog w A Z₁ s₁ kl tt it s') : Src prog w A Z s kl tt it s' := by
 obtain ⟨t, I, wr, items, Z', St, e, ht, G, ok, st, hw, hk⟩ := (h)
 refine ⟨t, I, wr, items, Z', St, e, ht, g.trans G, ok, st, fun b hb => ⟨(hw b hb).1, ?_⟩, hk⟩
 exact g.keep.none (hw b hb).2
section
variable {A : Around} {E : Value → Shared → Prop} {s : Shared} {Z : ZM} {kl : List V → Prop}
theorem none_new {s : Shared} (hz : ∀ b o, Z b = some o → s.heap.get? b = some o) : Z s.heap.objs.size = none := by
 cases q : Z s.heap.objs.size with
 | none => rfl
 | some o => have := hz _ _ q; rw [new_none] at this; cases this
theorem none_at {s : Shared} (hz : ∀ b o, Z b = some o → s.heap.get? b = some o) {b : Addr} (h : s.heap.objs.size ≤ b) : Z b = none ∧ s.heap.get? b = none := by
 have e : s.heap.get? b = none := by
  cases q : s.heap.get? b with
  | none => rfl
  | some o => exact absurd (Heap.lt_size q) (Nat.not_lt.mpr h)
 refine ⟨?_, e⟩
 cases q : Z b with
 | none => rfl
 | some o => rw [hz _ _ q] at e; cases e
theorem src_seq {v : Value} {x : V} {tt : Bool} (hh : A.handled = none) (hz : ∀ b o, Z b = some o → s.heap.get? b = some o) (ra : Rep Z v x) (h : onItems x kl) : wpAny (model prog w) A (pyIter v) (Src prog w A Z s kl tt) E s := by
 haveI N := none_at (Z := Z) hz (b := s.heap.objs.size) (Nat.le_refl _)
 cases x <;> first | exact h.elim | skip
 ·obtain ⟨l, o, vs, n, rfl, ho, hc, hd, hl, r⟩ := (ra.tup_inv)
  haveI hL : ∀ h : Heap, h.get? l = some o → h.IsTuple l vs.toArray := fun h e => ⟨_, e, hc, _, hd⟩
  exact wpAny_pyIter_tuple (hL _ (hz _ _ ho)) ⟨false, _, [s.heap.objs.size], _, Z, _, rfl, nofun, Grow.still hz (push_keep _ _) id rfl, it_tuple hh (Nat.ne_of_lt (Heap.lt_size (hz _ _ ho))) ho hL r, ⟨⟨_, Heap.get?_push_size _ rfl, rfl, rfl⟩, hL _ (push_keep _ _ _ _ (hz _ _ ho))⟩, allc N alln, h⟩
 ·obtain ⟨l, vs, n, rfl, ho, hl, r⟩ := (ra.lst_inv)
  have hL : ∀ h : Heap, h.get? l = some (listOf vs.toArray n) → h.IsList l vs.toArray := fun h e => ⟨_, e, rfl, _, rfl⟩
  exact wpAny_pyIter_list (hL _ (hz _ _ ho)) ⟨false, _, [s.heap.objs.size], _, Z, _, rfl, nofun, Grow.still hz (push_keep _ _) id rfl, it_list hh (Nat.ne_of_lt (Heap.lt_size (hz _ _ ho))) ho hL r, ⟨⟨_, Heap.get?_push_size _ rfl, rfl, rfl⟩, hL _ (push_keep _ _ _ _ (hz _ _ ho))⟩, allc N alln, h⟩
theorem small_one {n : Int} (h0 : 0 ≤ n) (h : n ≤ 64) : Builtin.Range.small 0 n 1 = true ∧ Builtin.Range.rangeSize 0 n 1 = ((n.toNat : Nat) : Int) := by
 refine ⟨PySem.small_one (by omega) (by omega) (by omega) (by omega), ?_⟩
 rw [rangeSize_one]
 split <;> omega
theorem small_down {n : Int} (h0 : -1 ≤ n) (h : n ≤ 63) : Builtin.Range.small n (-1) (-1) = true ∧ Builtin.Range.rangeSize n (-1) (-1) = (((n + 1).toNat : Nat) : Int) := by
 haveI e : Builtin.Range.rangeSize n (-1) (-1) = (((n + 1).toNat : Nat) : Int) := by
  unfold Builtin.Range.rangeSize
  rw [if_neg (by decide), show (- -1 : Int) = 1 from rfl, Int.ediv_one]
  split <;> omega
 refine ⟨?_, e⟩
 unfold Builtin.Range.small
 rw [e]
 haveI fit : ∀ {m : Int}, -(100 : Int) ≤ m ∧ m ≤ 100 → Builtin.Range.rangeFitsLong m = true := fun {m} q => Bool.and_eq_true_iff.mpr ⟨decide_eq_true (by omega), decide_eq_true (by omega)⟩
 rw [fit (by omega), fit (by decide), fit (by omega), if_neg (by decide), fit (by omega)]
 exact Bool.or_true _
theorem src_rng1 {n : Int} {t : Tok} {tt : Bool} (hh : A.handled = none) (hz : ∀ b o, Z b = some o → s.heap.get? b = some o) (h0 : 0 ≤ n) (h1 : n ≤ 64) (h : kl ((List.range n.toNat).map fun (i : Nat) => V.int (i : Int))) :
  wpAny (model prog w) A (call (.type "range") [.int n t]) (fun x s₁ => wpAny (model prog w) A (pyIter x) (Src prog w A Z s kl tt) E s₁) E s := by
 obtain ⟨hs, hn⟩ := (small_one h0 h1)
 refine call_range_1 (wpAny_pyIter_range (IsRange.new _ _ _ _ _ _ _) hs ?_)
 rw [hn]
 haveI N := none_at (Z := Z) hz (b := s.heap.objs.size + 1) (Nat.le_succ _)
 haveI W := it_range (A := A) (Z := Z) (I := s.heap.objs.size + 1) (a := 0) (c := 1) (n := n.toNat) hh
 haveI e : ((List.range n.toNat).map fun (i : Nat) => V.int (0 + (i : Int) * 1)) = (List.range n.toNat).map fun (i : Nat) => V.int (i : Int) := by
  congr 1; funext i; rw [Int.zero_add, Int.mul_one]
 rw [e] at W
 haveI hsz : ∀ o, (s.heap.push o).objs.size = s.heap.objs.size + 1 := fun o => Heap.size_push ..
 refine ⟨false, _, [s.heap.objs.size + 1], _, Z, _, by rw [hsz], nofun, Grow.still hz (fun b o e => push_keep _ _ _ _ (push_keep _ _ _ _ e)) id rfl, W, ?_, ?_, h⟩
 ·show IsRangeIter _ _ _ _ _
  haveI := Heap.get?_push_size (s.heap.push { cls := .type "range", data := .fields #[.int 0 s.toks, .int n t, .int 1 (s.toks + 1)] }) (o := { cls := .type "range_iterator", data := .fields #[rawInt 0, rawInt ((n.toNat : Nat) : Int), rawInt 1] }) rfl
  rw [hsz] at this
  simpa using this
 ·exact allc N alln
theorem src_rng3 {n : Int} {t u v : Tok} {tt : Bool} (hh : A.handled = none) (hz : ∀ b o, Z b = some o → s.heap.get? b = some o) (h0 : -1 ≤ n) (h1 : n ≤ 63) (h : kl ((List.range (n + 1).toNat).map fun (i : Nat) => V.int (n - (i : Int)))) :
  wpAny (model prog w) A (call (.type "range") [.int n t, .int (-1) u, .int (-1) v]) (fun x s₁ => wpAny (model prog w) A (pyIter x) (Src prog w A Z s kl tt) E s₁) E s := by
 obtain ⟨hs, hn⟩ := (small_down h0 h1)
 refine call_range_3 (by decide) (wpAny_pyIter_range (IsRange.new _ _ _ _ _ _ _) hs ?_) (.inl (PyProof.noPylong_of_log2 (by decide +kernel)))
 rw [hn]
 haveI N := none_at (Z := Z) hz (b := s.heap.objs.size + 1) (Nat.le_succ _)
 haveI W := it_range (A := A) (Z := Z) (I := s.heap.objs.size + 1) (a := n) (c := -1) (n := (n + 1).toNat) hh
 haveI e : ((List.range (n + 1).toNat).map fun (i : Nat) => V.int (n + (i : Int) * (-1))) = (List.range (n + 1).toNat).map fun (i : Nat) => V.int (n - (i : Int)) := by
  congr 1; funext i; congr 1; omega
 rw [e] at W
 haveI hsz : ∀ o, (s.heap.push o).objs.size = s.heap.objs.size + 1 := fun o => Heap.size_push ..
 refine ⟨false, _, [s.heap.objs.size + 1], _, Z, _, by rw [hsz], nofun, Grow.still hz (fun b o e => push_keep _ _ _ _ (push_keep _ _ _ _ e)) id rfl, W, ?_, ?_, h⟩
 ·show IsRangeIter _ _ _ _ _
  haveI := Heap.get?_push_size (s.heap.push { cls := .type "range", data := .fields #[.int n t, .int (-1) u, .int (-1) v] }) (o := { cls := .type "range_iterator", data := .fields #[rawInt n, rawInt (((n + 1).toNat : Nat) : Int), rawInt (-1)] }) rfl
  rw [hsz] at this
  simpa using this
 ·exact allc N alln
theorem enumFrom_get (xs : List V) : ∀ (j i : Nat) (x : V), (enumFrom j xs)[i]? = some x → ∃ y, xs[i]? = some y ∧ x = .tup [.int ((j + i : Nat) : Int), y] := by
 induction xs with
 | nil => exact fun _ _ _ h => nsm h
 | cons y r ih =>
  intro j i x h
  cases i with
  | zero => exact ⟨y, rfl, (Option.some.inj h).symm⟩
  | succ i => exact Nat.add_right_comm j 1 i ▸ ih (j + 1) i x h
theorem enumFrom_len (xs : List V) : ∀ j : Nat, (enumFrom j xs).length = xs.length := by
 induction xs with
 | nil => exact fun _ => rfl
 | cons y r ih => exact fun j => congrArg (· + 1) (ih (j + 1))
theorem arr_get {vs : List Value} {i : Nat} {y v : Value} (h : vs.toArray[i]? = some y) (e : vs[i]? = some v) : y = v := Option.some.inj (h.symm.trans ((List.getElem?_toArray ..).trans e))
theorem ad {N : Nat} {a b : Nat} (h : a ≠ b) : N + a ≠ N + b := fun q => h (Nat.add_left_cancel q)
theorem not_in2 {a b c : Nat} (h1 : a ≠ b) (h2 : a ≠ c) : ¬ (@Membership.mem Addr (List Addr) _ [b, c] a) := fun h => by
 rcases List.mem_cons.mp h with h | h
 ·exact h1 h
 ·exact h2 (List.mem_singleton.mp h)
theorem src_enum {v : Value} {x : V} (hh : A.handled = none) (hz : ∀ b o, Z b = some o → s.heap.get? b = some o) (ra : Rep Z v x) (h : onTup x fun xs => kl (enumFrom 0 xs)) :
  wpAny (model prog w) A (call (.type "enumerate") [v]) (fun x s₁ => wpAny (model prog w) A (pyIter x) (Src prog w A Z s kl true) E s₁) E s := by
 cases x with
 | tup xs =>
  obtain ⟨l, o, vs, n, rfl, ho, hc, hd, hl, r⟩ := (ra.tup_inv)
  have hL : ∀ h : Heap, h.get? l = some o → h.IsTuple l vs.toArray := fun h e => ⟨_, e, hc, _, hd⟩
  haveI hlt : l < s.heap.objs.size := Heap.lt_size (hz _ _ ho)
  refine call_enumT (hL _ (hz _ _ ho)) fun h' he hit hsz keep => wpAny_pyIter_enum he ?_
  haveI hz' : ∀ b o, Z b = some o → h'.get? b = some o := fun b o e => keep b o (hz b o e)
  haveI W := WalksT.enumerateD (Draws.tuple (A := A.in1) hh s.heap.objs.size l (Nat.ne_of_lt hlt) vs.toArray) (s.heap.objs.size + 1) (Nat.ne_of_gt (Nat.lt_succ_self _))
   (not_in2 (Nat.ne_of_gt (Nat.lt_succ_self _)) (Nat.ne_of_gt (Nat.lt_succ_of_lt hlt))) (List.mem_cons_self ..)
  refine ⟨true, _, [s.heap.objs.size + 1, s.heap.objs.size], _, Z, _, rfl, (fun J => rfl), Grow.still (s' := { s with heap := h' }) hz keep id rfl,
   it_walksT (fz := [l]) W ((enumFrom_len xs 0).trans (by rw [List.size_toArray, r.length])) (fun b hb => hb) (allc (.inl (.head _)) (allc (.inl (.tail _ (.head _))) (allc (.inr (.head _)) alln))) (allc ⟨_, ho⟩ alln)
    (fun i h st => allc (st.1.elim fun _ he => ⟨_, he⟩) (allc (st.2.1.elim fun o p => ⟨o, p.1⟩) alln)) (fun i x vals hx hP => ?_), ⟨⟨⟨_, he⟩, hit, hL _ (hz' _ _ ho)⟩, hz'⟩, allc (none_at hz (Nat.le_succ _)) (allc (none_at hz (Nat.le_refl _)) alln), h⟩
  obtain ⟨t, y, hy, rfl⟩ := hP
  obtain ⟨z, h1, rfl⟩ := (enumFrom_get xs 0 i x hx)
  obtain ⟨v', hv, hr⟩ := (r.get h1)
  cases arr_get hy hv
  exact ⟨[.int i t, y], _, rfl, rfl, .cons (by rw [Nat.zero_add]; exact .int _ _) (.cons hr .nil), by show (2 : Nat) ≤ 64; decide⟩
 | _ => exact h.elim
theorem sameLen_iff {xs ys : List V} {P : Prop} (h : sameLen xs ys P) : xs.length = ys.length ∧ P := by
 have h : (match Nat.beq xs.length ys.length with | true => P | false => False) := h
 cases q : Nat.beq xs.length ys.length with
 | true => rw [q] at h; exact ⟨Nat.eq_of_beq_eq_true q, h⟩
 | false => rw [q] at h; exact h.elim
theorem zipV_get (xs : List V) : ∀ (ys : List V) (i : Nat) (x : V), (zipV xs ys)[i]? = some x → ∃ a b, xs[i]? = some a ∧ ys[i]? = some b ∧ x = .tup [a, b] := by
 induction xs with
 | nil => exact fun _ _ _ h => nsm h
 | cons a r ih =>
  intro ys i x h
  cases ys with
  | nil => exact nsm h
  | cons b q =>
   cases i with
   | zero => exact ⟨a, b, rfl, rfl, (Option.some.inj h).symm⟩
   | succ i => exact ih q i x h
theorem zipV_len (xs : List V) : ∀ ys : List V, xs.length = ys.length → (zipV xs ys).length = xs.length := by
 induction xs with
 | nil => exact fun _ _ => rfl
 | cons a r ih =>
  intro ys h
  cases ys with
  | nil => exact nomatch h
  | cons b q => exact congrArg (· + 1) (ih q (Nat.succ.inj h))
theorem zip_apart {N l1 l2 : Nat} (lt1 : l1 < N) (lt2 : l2 < N) : ZApart (N + 4) (N + 2) (N + 3) N (N + 1) [N, l1] [N + 1, l2] :=
 haveI k1 : ∀ k, N + k ≠ l1 := fun k => Nat.ne_of_gt (Nat.lt_of_lt_of_le lt1 (Nat.le_add_right N k))
 haveI k2 : ∀ k, N + k ≠ l2 := fun k => Nat.ne_of_gt (Nat.lt_of_lt_of_le lt2 (Nat.le_add_right N k))
 ⟨ad (by decide), ad (by decide), ad (a := 0) (by decide), ad (by decide), ad (by decide), ad (b := 0) (by decide), ad (by decide), ad (b := 0) (by decide), ad (by decide), ad (a := 0) (by decide),
  not_in2 (ad (b := 0) (by decide)) (k1 4), not_in2 (ad (by decide)) (k2 4), not_in2 (ad (b := 0) (by decide)) (k1 3), not_in2 (ad (by decide)) (k2 3), not_in2 (ad (a := 0) (by decide)) (k2 0), not_in2 (ad (b := 0) (by decide)) (k1 1), .head _, .head _⟩
theorem src_zip {v u : Value} {x y : V} (hh : A.handled = none) (hz : ∀ b o, Z b = some o → s.heap.get? b = some o) (ra : Rep Z v x) (rb : Rep Z u y) (h : onTup x fun xs => onTup y fun ys => sameLen xs ys (kl (zipV xs ys))) :
  wpAny (model prog w) A (call (.type "zip") [v, u]) (fun x s₁ => wpAny (model prog w) A (pyIter x) (Src prog w A Z s kl true) E s₁) E s := by
 cases x with
 | tup xs =>
  cases y with
  | tup ys =>
   obtain ⟨hlen, h⟩ := (sameLen_iff h)
   obtain ⟨l1, o1, vs, n1, rfl, ho1, hc1, hd1, hl1, r1⟩ := (ra.tup_inv)
   obtain ⟨l2, o2, us, n2, rfl, ho2, hc2, hd2, hl2, r2⟩ := (rb.tup_inv)
   have hL1 : ∀ h : Heap, h.get? l1 = some o1 → h.IsTuple l1 vs.toArray := fun h e => ⟨_, e, hc1, _, hd1⟩
   have hL2 : ∀ h : Heap, h.get? l2 = some o2 → h.IsTuple l2 us.toArray := fun h e => ⟨_, e, hc2, _, hd2⟩
   haveI lt1 : l1 < s.heap.objs.size := Heap.lt_size (hz _ _ ho1)
   haveI lt2 : l2 < s.heap.objs.size := Heap.lt_size (hz _ _ ho2)
   refine call_zipT (hL1 _ (hz _ _ ho1)) (hL2 _ (hz _ _ ho2)) fun h' hzp hTI hTO h1 h2 hsz keep => wpAny_pyIter_zip hzp ?_
   haveI hz' : ∀ b o, Z b = some o → h'.get? b = some o := fun b o e => keep b o (hz b o e)
   haveI sz : us.toArray.size = vs.toArray.size := by rw [List.size_toArray, List.size_toArray, r1.length, r2.length, hlen]
   haveI W := zipW (Draws.tuple (A := A.in1) hh s.heap.objs.size l1 (Nat.ne_of_lt lt1) vs.toArray) (sz ▸ Draws.tuple (A := A.in1) hh (s.heap.objs.size + 1) l2 (Nat.ne_of_lt (Nat.lt_succ_of_lt lt2)) us.toArray) (zip_apart lt1 lt2)
   refine ⟨true, _, [s.heap.objs.size + 4, s.heap.objs.size + 3, s.heap.objs.size, s.heap.objs.size + 1, s.heap.objs.size + 2], _, Z, _, rfl, (fun J => rfl), Grow.still (s' := { s with heap := h' }) hz keep id rfl,
    it_walksT (fz := [l1, l2]) W ((zipV_len _ _ hlen).trans (by rw [List.size_toArray, r1.length])) (allc (.head _) (allc (.tail _ (.head _)) (allc (.tail _ (.tail _ (.head _))) (allc (.tail _ (.tail _ (.tail _ (.head _)))) alln))))
     (allc (.inl (.head _)) (allc (.inl (.tail _ (.tail _ (.tail _ (.tail _ (.head _)))))) (allc (.inl (.tail _ (.head _))) (allc (.inl (.tail _ (.tail _ (.head _)))) (allc (.inr (.head _)) (allc (.inl (.tail _ (.tail _ (.tail _ (.head _))))) (allc (.inr (.tail _ (.head _))) alln)))))))
     (allc ⟨_, ho1⟩ (allc ⟨_, ho2⟩ alln)) (fun i h st => ?_) (fun i x vals hx hP => ?_),
    ⟨⟨hzp, hTI, ⟨_, _, hTO⟩, ⟨h1, hL1 _ (hz' _ _ ho1)⟩, h2, hL2 _ (hz' _ _ ho2)⟩, hz'⟩, allc (none_at hz (Nat.le_add_right _ 4)) (allc (none_at hz (Nat.le_add_right _ 3)) (allc (none_at hz (Nat.le_refl _)) (allc (none_at hz (Nat.le_add_right _ 1)) (allc (none_at hz (Nat.le_add_right _ 2)) alln)))), h⟩
   ·obtain ⟨a1, a2, ⟨_, _, a3⟩, ⟨⟨_, a4, _⟩, _⟩, ⟨_, a5, _⟩, _⟩ := (st)
    exact allc ⟨_, a1⟩ (allc ⟨_, a3⟩ (allc ⟨_, a4⟩ (allc ⟨_, a5⟩ (allc ⟨_, a2⟩ alln))))
   ·obtain ⟨p, q, hp, hq, rfl⟩ := hP
    obtain ⟨a, b, e1, e2, rfl⟩ := (zipV_get xs ys i x hx)
    obtain ⟨p', hp', ra⟩ := (r1.get e1)
    obtain ⟨q', hq', rb⟩ := (r2.get e2)
    cases arr_get hp hp'
    cases arr_get hq hq'
    exact ⟨[p, q], _, rfl, rfl, .cons ra (.cons rb .nil), by show (2 : Nat) ≤ 64; decide⟩
  | _ => exact h.elim
 | _ => exact h.elim
end
section
noncomputable def bnames : List Str := ["len", "int", "abs", "pow", "tuple", "list", "isinstance", "range", "enumerate", "zip"]
structure MgOk (mg : Str → Option Value) : Prop where
 fn : ∀ f : Fn, (gname f == "") = false → mg (gname f) = some (.ref f.addr)
 bi : ∀ x ∈ bnames, mg x = none
structure ScOk (sc : Scope) (env : Env) : Prop where
 glob : ∀ x, glob sc x = true → env.kindOf x = some .globalImplicit
 cell : ∀ x, isCell (sc.names.lookup x) = true → env.kindOf x = some .cell
theorem Bk.after {Z Z' : ZM} {s s' : Shared} {k : V → Prop} {Q : Value → Shared → Prop} (g : Grow Z s Z' s') (hk : Bk Z s k Q) : Bk Z' s' k Q := fun v x Z2 s2 g2 r h => hk v x Z2 s2 (g.trans g2) r h
theorem OkA.in2 {A : Around} {n : Nat} (a : OkA A (n + 1)) : OkA A n := a.less (Nat.le_succ n)
theorem starEach_plain {e : Expr} {rest : List Expr} {env : Env} (h : plainE e = true) : starEach (e :: rest) env = (false, eval e env) :: starEach rest env := by
 cases e <;> first | rfl | cases h
noncomputable def plainEs (es : List Expr) : Bool := es.all plainE
theorem any_plain {env : Env} {pos : Pos} : ∀ {es : List Expr}, plainEs es = true → (backTo pos (starEach es env)).any (·.1) = false
 | [], _ => rfl
 | e :: r, h => by
  obtain ⟨h1, h2⟩ := Bool.and_eq_true_iff.mp (show (plainE e && plainEs r) = true from h)
  rw [starEach_plain h1]
  show (false || (backTo pos (starEach r env)).any (·.1)) = false
  rw [any_plain h2]; rfl
section
variable {A : Around} {E : Value → Shared → Prop} {s : Shared} {env : Env}
theorem callWith_any {pos : Pos} {f : Value} {first : List Value} {es : List Expr} {Q : Value → Shared → Prop} (hp : plainEs es = true) (hk : keepIn K f = true)
  (h : wpAny (model prog w) A (spliced (backTo pos (starEach es env))) (fun vs s₁ => K.In s₁.heap ∧ wpAny (model prog w) A (call f (first ++ vs)) Q E s₁) E s) :
  wpAny (model prog w) A (callWith pos f first (backTo pos (starEach es env)) []) Q E s := by
 cases es with
 | nil =>
  refine callWith_of rfl (keeps_K hk) ?_
  unfold evalArgs
  show wpAny (model prog w) A (spliced (backTo pos (starEach [] env)) >>= _) _ _ _
  refine wpAny_bind (wpAny_mono h (fun vs s' h' => ?_) fun J J x => x)
  refine wpAny_holding ?_
  exact wpAny_bind (wpAny_pure (wpAny_bind (wpAny_pure (wpAny_pure h'))))
 | cons e r =>
  obtain ⟨h1, h2⟩ := (Bool.and_eq_true_iff.mp (show (plainE e && plainEs r) = true from hp))
  haveI he := starEach_plain (env := env) (rest := r) h1
  rw [he] at h ⊢
  exact callWith_of (by show ((false || (backTo pos (starEach r env)).any (·.1)) || false) = false; rw [any_plain h2]; rfl) (keeps_K hk) (evalArgs_plain h)
theorem call_bi {pos : Pos} {id : String} {e : Expr} {rest : List Expr} {Q : Value → Shared → Prop} (hp : plainEs (e :: rest) = true)
  (h : wpAny (model prog w) A (spliced (backTo pos (starEach (e :: rest) env))) (fun vs s₁ => wpAny (model prog w) A (call (.builtin id) vs) Q E s₁) E s) :
  wpAny (model prog w) A (callWith pos (.builtin id) [] (backTo pos (starEach (e :: rest) env)) []) Q E s := by
 obtain ⟨h1, h2⟩ := Bool.and_eq_true_iff.mp (show (plainE e && plainEs rest) = true from hp)
 exact PyProof.Rows.callWith_builtin1 h (starEach_plain h1) (any_plain h2)
theorem call_ty {pos : Pos} {id : String} {e : Expr} {rest : List Expr} {Q : Value → Shared → Prop} (hp : plainEs (e :: rest) = true)
  (h : wpAny (model prog w) A (spliced (backTo pos (starEach (e :: rest) env))) (fun vs s₁ => wpAny (model prog w) A (call (.type id) vs) Q E s₁) E s) :
  wpAny (model prog w) A (callWith pos (.type id) [] (backTo pos (starEach (e :: rest) env)) []) Q E s := by
 obtain ⟨h1, h2⟩ := Bool.and_eq_true_iff.mp (show (plainE e && plainEs rest) = true from hp)
 exact PyProof.Rows.callWith_type1 h (starEach_plain h1) (any_plain h2)
theorem spl1 {pos : Pos} {e : Expr} {Q : List Value → Shared → Prop} (hp : plainE e = true) (h : wpAny (model prog w) A (eval e env) (fun v s₁ => Q [v] s₁) E s) : wpAny (model prog w) A (spliced (backTo pos (starEach [e] env))) Q E s :=
 args_cons (wpAny_mono h (fun v s₁ h₁ => args_nil h₁) fun J J e => e) (starEach_plain hp)
theorem spl2 {pos : Pos} {e f : Expr} {Q : List Value → Shared → Prop} (h1 : plainE e = true) (h2 : plainE f = true) (h : wpAny (model prog w) A (eval e env) (fun v s₁ => wpAny (model prog w) A (eval f env) (fun u s₂ => Q [v, u] s₂) E s₁) E s) :
  wpAny (model prog w) A (spliced (backTo pos (starEach [e, f] env))) Q E s :=
 args_cons (wpAny_mono h (fun v s₁ h₁ => spl1 h2 h₁) fun J J e => e) (starEach_plain h1)
theorem spl3 {pos : Pos} {e f g : Expr} {Q : List Value → Shared → Prop} (h1 : plainE e = true) (h2 : plainE f = true) (h3 : plainE g = true)
  (h : wpAny (model prog w) A (eval e env) (fun v s₁ => wpAny (model prog w) A (eval f env) (fun u s₂ => wpAny (model prog w) A (eval g env) (fun x s₃ => Q [v, u, x] s₃) E s₂) E s₁) E s) :
  wpAny (model prog w) A (spliced (backTo pos (starEach [e, f, g] env))) Q E s :=
 args_cons (wpAny_mono h (fun v s₁ h₁ => spl2 h2 h3 h₁) fun J J e => e) (starEach_plain h1)
theorem methCall {o : Expr} {name : Str} {apos pos : Pos} {args : List Expr} {Q : Value → Shared → Prop} (ho : isNmSub o = true) (hl : apos.endLine = pos.line) (hn : args.length < 30) (hp : plainEs args = true)
  (h : wpAny (model prog w) A (eval o env) (fun ov s₁ => ∀ pl, wpAny (model prog w) A (getMethod ov name pl) (fun fx s₂ => wpAny (model prog w) A (callWith pos fx.1 fx.2 (backTo pos (starEach args env)) []) Q E s₂) E s₁) E s) :
  wpAny (model prog w) A (eval (.Call (.Attribute o name apos) args [] pos) env) Q E s := by
 haveI few : methodCallForm (args.length + 0) (backTo pos (starEach args env)) (backToKw pos (keywordEach [] env)) = true := by
  unfold methodCallForm
  haveI e1 : (backTo pos (starEach args env)).all (fun x => !x.1) = true := by
   haveI := any_plain (env := env) (pos := pos) hp
   rw [List.all_eq_not_any_not]
   simpa using this
  rw [e1]
  show (true && true && decide (args.length + 0 + 0 < 30)) = true
  simpa using hn
 haveI e : eval (.Call (.Attribute o name apos) args [] pos) env = (do
   let ov ← eval o env
   standAt apos.atName
   methodCall o name apos pos env ov (args.length + 0) (backTo pos (starEach args env)) (backToKw pos (keywordEach [] env))) := by
  cases o <;> first | rfl | cases ho
 rw [e]
 refine wpAny_bind (wpAny_mono h (fun ov s₁ h₁ => wpAny_bind (wpAny_standAt ?_)) fun J J e => e)
 unfold methodCall
 rw [few]
 unfold calleeOf
 rw [if_pos rfl]
 refine wpAny_bind (wpAny_holding (wpAny_mono (h₁ _) (fun fx s₂ h₂ => ?_) fun J J e => e))
 unfold methodCallPos
 haveI hb : (!true || apos.endLine == pos.line) = true := by rw [hl]; simp
 rw [hb]
 exact wpAny_bind (wpAny_pure h₂)
end
section
variable {A : Around} {E : Value → Shared → Prop} {s : Shared} {env : Env} {sc : Scope} {nm : List Str} {Z : ZM} {σ : List (Option V)} {n : Nat} {T : Tab}
structure Cx (K : Frag) (mg mb : Str → Option Value) (n : Nat) (A : Around) (env : Env) (sc : Scope) (nm : List Str) (Z : ZM) (σ : List (Option V)) (s : Shared) : Prop where
 a : OkA A (n + 1)
 e : EnvOk env
 so : ScOk sc env
 f : FmE K mg mb env nm Z σ s
theorem Cx.grow {Z' : ZM} {s' : Shared} (c : Cx K mg mb n A env sc nm Z σ s) (g : Grow Z s Z' s') : Cx K mg mb n A env sc nm Z' σ s' := ⟨c.a, c.e, c.so, c.f.grow g⟩
theorem Cx.hh (c : Cx K mg mb n A env sc nm Z σ s) : A.handled = none := c.a.h
set_option tactic.hygienic true in
theorem ld_var {i : Nat} {x : Str} {pos : Pos} {k : V → Prop} {Q : Value → Shared → Prop} (C : Cx K mg mb n A env sc nm Z σ s) (hc : (nmAt nm i x && !(x == "__debug__")) = true) (h : onSome (getO σ i) k) (hk : Bk Z s k Q) :
  wpAny (model prog w) A (eval (.Name x pos) env) Q E s := by
 obtain ⟨h1, h2⟩ := (Bool.and_eq_true_iff.mp hc)
 haveI hd : (x == ("__debug__" : Str)) = false := by simpa using h2
 unfold onSome at h
 split at h
 ·rename_i V hV
  obtain ⟨v, ha, hr⟩ := (C.f.vars i x V hV (nmAt_eq _ _ _ h1))
  refine wpAny_Name ?_ hd
  have fin := hk _ _ _ _ (Grow.refl C.f.zs) hr h
  rcases ha with ⟨a1, m, a2, a3⟩ | ⟨a1, c, a2, a3⟩
  ·exact wpAny_loadName_local C.e.kind a1 a2 a3 fin
  ·exact wpAny_loadName_cell C.e.kind a1 a2 a3 fin
 ·exact h.elim
theorem ld_fn {f : Fn} {x : Str} {pos : Pos} {Q : Value → Shared → Prop} (MM : MgOk mg) (C : Cx K mg mb n A env sc nm Z σ s) (hx : (x == gname f) = true) (hg : glob sc x = true) (hn : (gname f == "") = false) (hd : (x == ("__debug__" : Str)) = false) (h : Q (.ref f.addr) s) :
  wpAny (model prog w) A (eval (.Name x pos) env) Q E s := by
 have e := eq_of_beq hx
 subst e
 exact Name_function_global C.e.kind (C.so.glob _ hg) (loadGlobal_global (by rw [C.e.glob]; exact C.f.gd.g) (MM.fn f hn) h) hd
theorem ld_bi {x : Str} {v : Value} {pos : Pos} {Q : Value → Shared → Prop} (MM : MgOk mg) (C : Cx K mg mb n A env sc nm Z σ s) (hx : x ∈ bnames) (hg : glob sc x = true) (hn : x ≠ "__name__") (hb : bootBuiltins x = some v) (hd : (x == ("__debug__" : Str)) = false) (h : Q v s) :
  wpAny (model prog w) A (eval (.Name x pos) env) Q E s :=
 Name_function_global C.e.kind (C.so.glob _ hg) (loadGlobal_builtin (by rw [C.e.glob]; exact C.f.gd.g) (MM.bi x hx) (by rw [C.e.blt]; exact C.f.gd.b) ((C.f.gd.bi x hn).trans hb) h) hd
end
section
variable (prog : Program) (w : World) (K : Frag) (mg mb : Str → Option Value) (n : Nat) (T : Tab)
noncomputable def PE (ie : IE) : Prop := ∀ (A : Around) (env : Env) (sc : Scope) (nm : List Str) (Z : ZM) (σ : List (Option V)) (s : Shared) (k : V → Prop) (Q E : Value → Shared → Prop) (e : Expr),
 Cx K mg mb n A env sc nm Z σ s → chkE sc nm ie e = true → wE T ie σ k → Bk Z s k Q → wpAny (model prog w) A (eval e env) Q E s
noncomputable def PC (ie : IE) : Prop := ∀ (A : Around) (env : Env) (sc : Scope) (nm : List Str) (Z : ZM) (σ : List (Option V)) (s : Shared) (k : Bool → Prop) (Q : Bool → Shared → Prop) (E : Value → Shared → Prop) (e : Expr),
 Cx K mg mb n A env sc nm Z σ s → chkE sc nm ie e = true → wC T ie σ k → (∀ b Z' s', Grow Z s Z' s' → k b → Q b s') → wpAny (model prog w) A (isTrue e env (eval e env)) Q E s
noncomputable def PEs (ie : IE) : Prop := ∀ (A : Around) (env : Env) (sc : Scope) (nm : List Str) (Z : ZM) (σ : List (Option V)) (s : Shared) (k : List V → Prop) (Q : List Value → Shared → Prop) (E : Value → Shared → Prop) (es : List Expr) (pos : Pos),
 Cx K mg mb n A env sc nm Z σ s → chkEs sc nm ie es = true → wEs T ie σ k → (∀ vs xs Z' s', Grow Z s Z' s' → RepL Z' vs xs → k xs → Q vs s') → wpAny (model prog w) A (spliced (backTo pos (starEach es env))) Q E s
noncomputable def PI (ie : IE) : Prop := ∀ (A : Around) (env : Env) (sc : Scope) (nm : List Str) (Z : ZM) (σ : List (Option V)) (s : Shared) (k : List V → Prop) (E : Value → Shared → Prop) (e : Expr),
 Cx K mg mb n A env sc nm Z σ s → chkE sc nm ie e = true → wI T ie σ k →
 wpAny (model prog w) A (eval e env) (fun x s₁ => wpAny (model prog w) A (pyIter x) (Src prog w A Z s k (ttOf ie)) E s₁) E s
structure PA (ie : IE) : Prop where
 e : PE prog w K mg mb n T ie
 c : PC prog w K mg mb n T ie
 s : PEs prog w K mg mb n T ie
 i : PI prog w K mg mb n T ie
end
theorem chkEs_plain {sc : Scope} {nm : List Str} : ∀ (ie : IE) (es : List Expr), chkEs sc nm ie es = true → plainEs es = true := by
 intro ie
 induction ie with
 | ac a r _ ih =>
  intro es h
  refine onCo_e h fun e es' h => an3 h fun h1 J h2 => ?_
  show (plainE e && plainEs es') = true
  rw [h1, ih es' h2]; rfl
 | an => intro es h; exact un0_e h fun J => rfl
 | _ => intro es h; exact (Bool.false_ne_true h).elim
end
section
variable {n : Nat} {T : Tab}
theorem pe_int (i : Int) : PE prog w K mg mb n T (.int i) := by
 intro A env sc nm Z σ s k Q E e C hc h hk
 refine onCst_e hc fun c n p hc => ?_
 cases isInt_e hc
 exact wpAny_Constant_int (hk _ _ _ _ (Grow.toks C.f.zs _) (.int _ _) h)
theorem pe_bool (b : Bool) : PE prog w K mg mb n T (.bool b) := by
 intro A env sc nm Z σ s k Q E e C hc h hk
 refine onCst_e hc fun c n p hc => ?_
 cases isBo_e hc
 exact wpAny_pure (hk _ _ _ _ (Grow.refl C.f.zs) (.bool _) h)
theorem pe_none : PE prog w K mg mb n T .none := by
 intro A env sc nm Z σ s k Q E e C hc h hk
 refine onCst_e hc fun c n p hc => ?_
 cases isNn_e hc
 exact wpAny_pure (hk _ _ _ _ (Grow.refl C.f.zs) .none h)
theorem pe_var (i : Nat) : PE prog w K mg mb n T (.va i) := by
 intro A env sc nm Z σ s k Q E e C hc h hk
 refine onNm_e hc fun x p hc => ?_
 exact ld_var C hc h hk
theorem pe_bin (KK : KF K) (TT : TabOk prog w K mg mb n T) {op : Operator} {l r : IE} (hl : PE prog w K mg mb n T l) (hr : PE prog w K mg mb n T r) : PE prog w K mg mb n T (.bin op l r) := by
 intro A env sc nm Z σ s k Q E e C hc h hk
 refine onBin_e hc fun l' o' r' p hc => an3 hc fun h0 h1 h2 => ?_
 cases eq_of_beq h0
 refine wpAny_BinOp (hl _ _ _ _ _ _ _ _ _ _ _ C h1 h fun a x Z1 s1 g1 r1 h => ?_)
 have C1 := C.grow g1
 refine hr _ _ _ _ _ _ _ _ _ _ _ C1 h2 h fun b y Z2 s2 g2 r2 h => ?_
 have C2 := C1.grow g2
 exact op_bin KK TT C2.a.in2 C2.f.gd C2.f.fr C2.f.zs C2.f.zt (r1.mono g2.le) r2 h (hk.after (g1.trans g2))
theorem pe_neg (KK : KF K) (TT : TabOk prog w K mg mb n T) {a : IE} (ha : PE prog w K mg mb n T a) : PE prog w K mg mb n T (.neg a) := by
 intro A env sc nm Z σ s k Q E e C hc h hk
 refine onUn_e hc fun o a' p hc => an2 hc fun h0 hc => ?_
 cases isUS_e h0
 refine wpAny_UnaryOp (ha _ _ _ _ _ _ _ _ _ _ _ C hc h fun a x Z1 s1 g1 r1 h => ?_)
 have C1 := C.grow g1
 have el : (onCl (clOf x) fun c => T (cneg c) [x] k) → wpAny (model prog w) A (unaryOp .USub a) Q E s1 := fun h => by
  obtain ⟨c, hcl, h⟩ := (onCl_e h)
  exact op_cneg KK TT C1.a.in2 C1.f.gd C1.f.fr C1.f.zs C1.f.zt r1 hcl h (hk.after g1)
 cases x with
 | int i =>
  obtain ⟨t, rfl⟩ := r1.int_inv
  exact neg_int (hk _ _ _ _ (g1.trans (Grow.toks C1.f.zs _)) (.int _ _) h)
 | _ => exact el h
theorem not_truthy {A : Around} {E : Value → Shared → Prop} {s : Shared} {v : Value} {Q : Value → Shared → Prop} (h : wpAny (model prog w) A (PySem.truthy v) (fun b s' => Q (.bool (!b)) s') E s) : wpAny (model prog w) A (unaryOp .Not v) Q E s := by
 unfold unaryOp
 refine wpAny_holding ?_
 exact wpAny_bind (wpAny_mono h (fun b s' h' => wpAny_pure h') fun J J e => e)
theorem pe_not {a : IE} (ha : PE prog w K mg mb n T a) : PE prog w K mg mb n T (.not a) := by
 intro A env sc nm Z σ s k Q E e C hc h hk
 refine onUn_e hc fun o a' p hc => an2 hc fun h0 hc => ?_
 cases isNt_e h0
 refine wpAny_UnaryOp (ha _ _ _ _ _ _ _ _ _ _ _ C hc h fun a x Z1 s1 g1 r1 h => ?_)
 have C1 := C.grow g1
 exact not_truthy (op_truthy C1.f.zs r1 h fun b s2 g2 h => hk _ _ _ _ (g1.trans g2) (.bool _) h)
theorem pe_and {l r : IE} (hl : PE prog w K mg mb n T l) (hr : PE prog w K mg mb n T r) : PE prog w K mg mb n T (.and l r) := by
 intro A env sc nm Z σ s k Q E e C hc h hk
 refine onBo_e hc fun o es p hc => an2 hc fun h0 hc => ?_
 cases isAn_e h0
 refine un2_e hc fun l' r' hc => an2 hc fun h1 h2 => ?_
 refine BoolOp_and (hl _ _ _ _ _ _ _ _ _ _ _ C h1 h fun a x Z1 s1 g1 r1 h => ?_)
 have C1 := C.grow g1
 refine op_truthy C1.f.zs r1 h fun b s2 g2 h => ?_
 have C2 := C1.grow g2
 cases b with
 | true => exact BoolOp_one (hr _ _ _ _ _ _ _ _ _ _ _ C2 h2 h (hk.after (g1.trans g2)))
 | false => exact hk _ _ _ _ (g1.trans g2) r1 h
theorem pe_or {l r : IE} (hl : PE prog w K mg mb n T l) (hr : PE prog w K mg mb n T r) : PE prog w K mg mb n T (.or l r) := by
 intro A env sc nm Z σ s k Q E e C hc h hk
 refine onBo_e hc fun o es p hc => an2 hc fun h0 hc => ?_
 cases isOr_e h0
 refine un2_e hc fun l' r' hc => an2 hc fun h1 h2 => ?_
 refine BoolOp_or (hl _ _ _ _ _ _ _ _ _ _ _ C h1 h fun a x Z1 s1 g1 r1 h => ?_)
 have C1 := C.grow g1
 refine op_truthy C1.f.zs r1 h fun b s2 g2 h => ?_
 have C2 := C1.grow g2
 cases b with
 | false => exact BoolOp_one (hr _ _ _ _ _ _ _ _ _ _ _ C2 h2 h (hk.after (g1.trans g2)))
 | true => exact hk _ _ _ _ (g1.trans g2) r1 h
theorem behind {op : CmpOp} {r : Expr} (h : plainE r = true) : behindInMarks op r = false := by
 cases r <;> first | rfl | cases h
theorem pe_cmp (KK : KF K) (TT : TabOk prog w K mg mb n T) {op : CmpOp} {l r : IE} (hl : PE prog w K mg mb n T l) (hr : PE prog w K mg mb n T r) : PE prog w K mg mb n T (.cmp op l r) := by
 intro A env sc nm Z σ s k Q E e C hc h hk
 refine onCm_e hc fun l' os rs p hc => un1_e hc fun op' hc => un1_e hc fun r' hc => an4 hc fun h0 hp h1 h2 => ?_
 cases eq_of_beq h0
 refine wpAny_Compare1 (hl _ _ _ _ _ _ _ _ _ _ _ C h1 h fun a x Z1 s1 g1 r1 h => ?_) (behind hp)
 have C1 := C.grow g1
 refine hr _ _ _ _ _ _ _ _ _ _ _ C1 h2 h fun b y Z2 s2 g2 r2 h => ?_
 have C2 := C1.grow g2
 exact op_cmp KK TT C2.a C2.a.in2 C2.f.gd C2.f.fr C2.f.zs C2.f.zt (r1.mono g2.le) r2 h (hk.after (g1.trans g2))
theorem pc_cmp (KK : KF K) (TT : TabOk prog w K mg mb n T) {op : CmpOp} {l r : IE} (hl : PE prog w K mg mb n T l) (hr : PE prog w K mg mb n T r) : PC prog w K mg mb n T (.cmp op l r) := by
 intro A env sc nm Z σ s k Q E e C hc h hk
 refine onCm_e hc fun l' os rs p hc => un1_e hc fun op' hc => un1_e hc fun r' hc => an4 hc fun h0 hp h1 h2 => ?_
 cases eq_of_beq h0
 refine wpAny_isTrue_Compare1 (hl _ _ _ _ _ _ _ _ _ _ _ C h1 h fun a x Z1 s1 g1 r1 h => ?_) (behind hp)
 have C1 := C.grow g1
 refine hr _ _ _ _ _ _ _ _ _ _ _ C1 h2 h fun b y Z2 s2 g2 r2 h => ?_
 have C2 := C1.grow g2
 refine op_cmp KK TT C2.a C2.a.in2 C2.f.gd C2.f.fr C2.f.zs C2.f.zt (r1.mono g2.le) r2 h fun v x Z3 s3 g3 r3 h => ?_
 have C3 := C2.grow g3
 exact op_truthy C3.f.zs r3 h fun b s4 g4 hb => hk b _ _ (((g1.trans g2).trans g3).trans g4) hb
theorem pe_ite {c t f : IE} (hc' : PC prog w K mg mb n T c) (ht : PE prog w K mg mb n T t) (hf : PE prog w K mg mb n T f) : PE prog w K mg mb n T (.ite c t f) := by
 intro A env sc nm Z σ s k Q E e C hc h hk
 refine onIf_e hc fun c' t' f' p hc => an3 hc fun h0 h1 h2 => ?_
 refine IfExp_ (hc' _ _ _ _ _ _ _ _ _ _ _ C h0 h fun b Z1 s1 g1 h => ?_)
 have C1 := C.grow g1
 cases b with
 | true => exact ht _ _ _ _ _ _ _ _ _ _ _ C1 h1 h (hk.after g1)
 | false => exact hf _ _ _ _ _ _ _ _ _ _ _ C1 h2 h (hk.after g1)
theorem pes_nil : PEs prog w K mg mb n T .an := by
 intro A env sc nm Z σ s k Q E es pos C hc h hk
 exact un0_e hc fun J => args_nil (hk _ _ _ _ (Grow.refl C.f.zs) .nil h)
theorem pes_cons {a r : IE} (ha : PE prog w K mg mb n T a) (hr : PEs prog w K mg mb n T r) : PEs prog w K mg mb n T (.ac a r) := by
 intro A env sc nm Z σ s k Q E es pos C hc h hk
 refine onCo_e hc fun e es hc => an3 hc fun h0 h1 h2 => ?_
 refine args_cons (ha _ _ _ _ _ _ _ _ _ _ _ C h1 h fun v x Z1 s1 g1 r1 h => ?_) (starEach_plain h0)
 exact hr _ _ _ _ _ _ _ _ _ _ _ _ (C.grow g1) h2 h fun vs xs Z2 s2 g2 r2 h => hk _ _ _ _ (g1.trans g2) (.cons (r1.mono g2.le) r2) h
theorem pe_call (KK : KF K) (TT : TabOk prog w K mg mb n T) (MM : MgOk mg) {f : Fn} {as : IE} (ha : PEs prog w K mg mb n T as) : PE prog w K mg mb n T (.call f as) := by
 intro A env sc nm Z σ s k Q E e C hc h hk
 refine onCall_e hc fun x args p q hc => an5 hc fun h0 h1 h2 h3 h4 => ?_
 haveI h2 := not_e h2
 haveI h3 := not_e h3
 refine Call_ (ld_fn MM C h0 h1 h2 h3 ?_)
 refine callWith_any (chkEs_plain _ _ h4) (KK.keepFn f) (ha _ _ _ _ _ _ _ _ _ _ _ _ C h4 h fun vs xs Z1 s1 g1 r1 h => ?_)
 haveI C1 := C.grow g1
 exact ⟨C1.f.gd.k, op_call TT C1.a.in2 C1.f.gd C1.f.zs C1.f.zt r1 h (hk.after g1)⟩
theorem pe_meth (KK : KF K) (TT : TabOk prog w K mg mb n T) {o : IE} {m : Mt} {as : IE} (ho : PE prog w K mg mb n T o) (ha : PEs prog w K mg mb n T as) : PE prog w K mg mb n T (.meth o m as) := by
 intro A env sc nm Z σ s k Q E e C hc h hk
 refine onMet_e hc fun o' x apos args pos hc => an6 hc fun h0 h1 h2 h3 h4 h5 => ?_
 cases eq_of_beq h0
 haveI h2 := of_decide_eq_true h2
 haveI h3 := of_decide_eq_true h3
 refine methCall h1 h2 h3 (chkEs_plain _ _ h5) (ho _ _ _ _ _ _ _ _ _ _ _ C h4 h fun a x Z1 s1 g1 r1 h pl => ?_)
 have C1 := C.grow g1
 obtain ⟨c, f, hcl, hm, h⟩ := (onMeth_e h)
 refine op_getMethod KK C1.f.gd C1.f.zs r1 hcl hm ?_
 refine callWith_any (chkEs_plain _ _ h5) (KK.keepFn f) (ha _ _ _ _ _ _ _ _ _ _ _ _ C1 h5 h fun vs xs Z2 s2 g2 r2 h => ?_)
 haveI C2 := C1.grow g2
 exact ⟨C2.f.gd.k, op_call TT C2.a.in2 C2.f.gd C2.f.zs C2.f.zt (.cons (r1.mono g2.le) r2) h (hk.after (g1.trans g2))⟩
theorem pe_attr (KK : KF K) {o : IE} {f : Fld} (ho : PE prog w K mg mb n T o) : PE prog w K mg mb n T (.attr o f) := by
 intro A env sc nm Z σ s k Q E e C hc h hk
 refine onAttr_e hc fun o' x pos hc => an3 hc fun h0 h1 h2 => ?_
 cases eq_of_beq h0
 revert h2
 refine isNm_e h1 fun J J h2 => ?_
 refine Attribute_any_ (ho _ _ _ _ _ _ _ _ _ _ _ C h2 h fun a x Z1 s1 g1 r1 h => ?_)
 haveI C1 := C.grow g1
 obtain ⟨_, hf, h⟩ := (onSome_e h)
 exact op_attr KK C1.f.gd C1.f.zs r1 hf h (hk.after g1)
theorem pe_idx {o i : IE} (ho : PE prog w K mg mb n T o) (hi : PE prog w K mg mb n T i) : PE prog w K mg mb n T (.idx o i) := by
 intro A env sc nm Z σ s k Q E e C hc h hk
 refine onSub_e hc fun o' i' pos hc => an3 hc fun h0 h1 h2 => ?_
 have h0 := not_e h0
 refine Subscript_ (ho _ _ _ _ _ _ _ _ _ _ _ C h1 h fun a x Z1 s1 g1 r1 h => ?_)
 have C1 := C.grow g1
 refine hi _ _ _ _ _ _ _ _ _ _ _ C1 h2 h fun b y Z2 s2 g2 r2 h => ?_
 haveI C2 := C1.grow g2
 cases y <;> first | exact h.elim | skip
 obtain ⟨t, rfl⟩ := r2.int_inv
 obtain ⟨v, hx, h⟩ := (onSome_e h)
 exact op_idx C2.f.zs (r1.mono g2.le) hx h (hk.after (g1.trans g2)) (by intro _ _; cases i' <;> first | rfl | cases h0)
theorem slice_upto {A : Around} {E : Value → Shared → Prop} {s : Shared} {env : Env} {u : Expr} {p : Pos} {Q : Value → Shared → Prop}
  (h : wpAny (model prog w) A (eval u env) (fun v s₁ => wpAny (model prog w) A (newFields "slice" [.none, v, .none]) Q E s₁) E s) : wpAny (model prog w) A (eval (.Slice none (some u) none p) env) Q E s := by
 show wpAny (model prog w) A (do
  let l ← valueOrNone none
  let u ← holding [l] (valueOrNone (some (eval u env)))
  let s ← holding [l, u] (valueOrNone none)
  newFields "slice" [l, u, s]) Q E s
 refine wpAny_bind (m := valueOrNone none) (wpAny_pure (wpAny_bind (wpAny_holding ?_)))
 refine wpAny_mono h (fun v s₁ h₁ => ?_) fun J J e => e
 exact wpAny_bind (wpAny_holding (wpAny_pure h₁))
theorem pe_upto {o u : IE} (ho : PE prog w K mg mb n T o) (hu : PE prog w K mg mb n T u) : PE prog w K mg mb n T (.upto o u) := by
 intro A env sc nm Z σ s k Q E e C hc h hk
 refine onSub_e hc fun o' i' p1 hc => onSl_e hc fun a b c p2 hc => onN_e hc fun hc => onS_e hc fun u' hc => onN_e hc fun hc => an3 hc fun h0 h1 h2 => ?_
 revert h1
 refine isNm_e h0 fun J J h1 => ?_
 refine Subscript_ (ho _ _ _ _ _ _ _ _ _ _ _ C h1 h fun a x Z1 s1 g1 r1 h => ?_)
 haveI C1 := C.grow g1
 refine slice_upto (hu _ _ _ _ _ _ _ _ _ _ _ C1 h2 h fun b y Z2 s2 g2 r2 h => ?_)
 haveI C2 := C1.grow g2
 cases x <;> first | exact h.elim | skip
 cases y <;> first | exact h.elim | skip
 obtain ⟨t, rfl⟩ := r2.int_inv
 obtain ⟨h0, h⟩ := (h)
 exact op_slice C2.f.zs (r1.mono g2.le) h0 (evL_o h) (hk.after (g1.trans g2)) (fun J J => rfl) (fun J J => rfl)
theorem pe_tup {es : IE} (ha : PEs prog w K mg mb n T es) : PE prog w K mg mb n T (.tup es) := by
 intro A env sc nm Z σ s k Q E e C hc h hk
 refine onTp_e hc fun es' n' p hc => ?_
 refine Tuple_ (ha _ _ _ _ _ _ _ _ _ _ _ _ C hc h fun vs xs Z1 s1 g1 r1 h => ?_)
 obtain ⟨hl, h⟩ := (okL_iff h)
 exact new_tup (C.grow g1).f.zs r1 hl h (hk.after g1)
theorem pe_lst {es : IE} (ha : PEs prog w K mg mb n T es) : PE prog w K mg mb n T (.lst es) := by
 intro A env sc nm Z σ s k Q E e C hc h hk
 refine onLst_e hc fun es' p hc => ?_
 refine List_ (ha _ _ _ _ _ _ _ _ _ _ _ _ C hc h fun vs xs Z1 s1 g1 r1 h => ?_)
 obtain ⟨hl, h⟩ := (okL_iff h)
 exact new_lst (C.grow g1).f.zs r1 hl h (hk.after g1)
theorem inL_mem : ∀ {x : Str} {l : List Str}, inL x l = true → x ∈ l
 | _, [], h => by cases h
 | x, y :: r, h => by
  rcases Bool.or_eq_true_iff.mp (show (x == y || inL x r) = true from h) with h | h
  ·rw [eq_of_beq h]; exact List.mem_cons_self ..
  ·exact List.mem_cons_of_mem _ (inL_mem h)
noncomputable def nbOk (x : Str) : Bool := inL x bnames && !(x == "__name__") && !(x == "__debug__")
theorem nb {x : Str} (h : nbOk x = true) : x ∈ bnames ∧ x ≠ "__name__" ∧ (x == ("__debug__" : Str)) = false := by
 simp only [nbOk, Bool.and_eq_true, Bool.not_eq_true'] at h
 exact ⟨inL_mem h.1.1, fun q => by rw [q] at h; simp at h, h.2⟩
theorem plain1 {e : Expr} (h : plainE e = true) : plainEs [e] = true := by show (plainE e && true) = true; rw [h]; rfl
theorem plain2 {e f : Expr} (h : plainE e = true) (h2 : plainE f = true) : plainEs [e, f] = true := by show (plainE e && (plainE f && true)) = true; rw [h, h2]; rfl
theorem plain3 {e f g : Expr} (h : plainE e = true) (h2 : plainE f = true) (h3 : plainE g = true) : plainEs [e, f, g] = true := by show (plainE e && (plainE f && (plainE g && true))) = true; rw [h, h2, h3]; rfl
theorem nbLen : nbOk "len" = true := by decide +kernel
theorem nbInt : nbOk "int" = true := by decide +kernel
theorem nbAbs : nbOk "abs" = true := by decide +kernel
theorem nbPow : nbOk "pow" = true := by decide +kernel
theorem nbTuple : nbOk "tuple" = true := by decide +kernel
theorem nbList : nbOk "list" = true := by decide +kernel
theorem nbIsi : nbOk "isinstance" = true := by decide +kernel
theorem nbRange : nbOk "range" = true := by decide +kernel
theorem nbEnum : nbOk "enumerate" = true := by decide +kernel
theorem nbZip : nbOk "zip" = true := by decide +kernel
theorem toInt_h {a : V} {T : Tab} {k : V → Prop} (h : match a with | .int x => k (.int x) | .fq n p => T .qInt [.fq n p] (fun r => onInt r fun i => k (.int i)) | _ => False) : toIntP T a k := h
theorem ld_b {A : Around} {env : Env} {sc : Scope} {nm : List Str} {Z : ZM} {σ : List (Option V)} {s : Shared} {E : Value → Shared → Prop} {x : Str} {v : Value} {pos : Pos} {Q : Value → Shared → Prop} (MM : MgOk mg) (C : Cx K mg mb n A env sc nm Z σ s) (hx : nbOk x = true) (hg : glob sc x = true) (hb : bootBuiltins x = some v) (h : Q v s) :
  wpAny (model prog w) A (eval (.Name x pos) env) Q E s := ld_bi MM C (nb hx).1 hg (nb hx).2.1 hb (nb hx).2.2 h
theorem pe_bi (KK : KF K) (TT : TabOk prog w K mg mb n T) (MM : MgOk mg) {b : Bi} {a : IE} (ha : PE prog w K mg mb n T a) : PE prog w K mg mb n T (.bi b a) := by
 intro A env sc nm Z σ s k Q E e C hc h hk
 refine bi1_e hc fun a' p q h1 h2 h3 => ?_
 cases b with
 | len => exact Call_ (ld_b MM C nbLen h1 Boot.«len» (call_bi (plain1 h2) (spl1 h2 (ha _ _ _ _ _ _ _ _ _ _ _ C h3 h fun v x Z1 s1 g1 r1 h => op_len (C.grow g1).f.zs r1 h (fun xs h => h) (hk.after g1)))))
 | int => exact Call_ (ld_b MM C nbInt h1 Boot.«int» (call_ty (plain1 h2) (spl1 h2 (ha _ _ _ _ _ _ _ _ _ _ _ C h3 h fun v x Z1 s1 g1 r1 h => op_toInt KK TT C.a (C.grow g1).f.gd (C.grow g1).f.zs (C.grow g1).f.zt r1 (toInt_h h) (hk.after g1)))))
 | abs => exact Call_ (ld_b MM C nbAbs h1 Boot.«abs» (call_bi (plain1 h2) (spl1 h2 (ha _ _ _ _ _ _ _ _ _ _ _ C h3 h fun v x Z1 s1 g1 r1 h => op_abs (C.grow g1).f.zs r1 h (hk.after g1)))))
theorem pe_pow3 (MM : MgOk mg) {a b c : IE} (ha : PE prog w K mg mb n T a) (hb : PE prog w K mg mb n T b) (hc' : PE prog w K mg mb n T c) : PE prog w K mg mb n T (.pow3 a b c) := by
 intro A env sc nm Z σ s k Q E e C hc h hk
 refine bi3_e hc fun a' b' c' p q h1 p1 p2 p3 hc => an3 hc fun q1 q2 q3 => ?_
 refine Call_ (ld_b MM C nbPow h1 Boot.«pow» (call_bi (plain3 p1 p2 p3) (spl3 p1 p2 p3 (ha _ _ _ _ _ _ _ _ _ _ _ C q1 h fun u x Z1 s1 g1 r1 h => ?_))))
 have C1 := C.grow g1
 refine hb _ _ _ _ _ _ _ _ _ _ _ C1 q2 h fun v y Z2 s2 g2 r2 h => ?_
 have C2 := C1.grow g2
 refine hc' _ _ _ _ _ _ _ _ _ _ _ C2 q3 h fun z t Z3 s3 g3 r3 h => ?_
 exact op_pow3 (C2.grow g3).f.zs ((r1.mono g2.le).mono g3.le) (r2.mono g3.le) r3 h (hk.after ((g1.trans g2).trans g3))
theorem pe_tupOf (MM : MgOk mg) {a : IE} (ha : PE prog w K mg mb n T a) : PE prog w K mg mb n T (.tupOf a) := by
 intro A env sc nm Z σ s k Q E e C hc h hk
 refine bi1_e hc fun a' p q h1 h2 h3 => ?_
 exact Call_ (ld_b MM C nbTuple h1 Boot.«tuple» (call_ty (plain1 h2) (spl1 h2 (ha _ _ _ _ _ _ _ _ _ _ _ C h3 h fun v x Z1 s1 g1 r1 h => op_tupOf (C.grow g1).f.zs r1 h (fun xs h => h) (hk.after g1)))))
theorem pe_listOf (MM : MgOk mg) {a : IE} (ha : PE prog w K mg mb n T a) : PE prog w K mg mb n T (.listOf a) := by
 intro A env sc nm Z σ s k Q E e C hc h hk
 refine bi1_e hc fun a' p q h1 h2 h3 => ?_
 exact Call_ (ld_b MM C nbList h1 Boot.«list» (call_ty (plain1 h2) (spl1 h2 (ha _ _ _ _ _ _ _ _ _ _ _ C h3 h fun v x Z1 s1 g1 r1 h => op_listOf (C.grow g1).f.zs r1 h (fun xs h => h) (hk.after g1)))))
end
section
variable {n : Nat} {T : Tab}
theorem onB_e {o : Option Bool} {k : Bool → Prop} (h : onB o k) : ∃ b, o = some b ∧ k b := by
 unfold onB at h
 split at h
 ·exact ⟨_, rfl, h⟩
 ·exact h.elim
theorem gn_fq : (("FQ" : Str) == gname .cFQ) = true := by decide +kernel
theorem gn_fp : (("FQP_field_elements" : Str) == gname .cFP) = true := by decide +kernel
theorem gn_opt : (("FQP_optimized_field_elements" : Str) == gname .cOPT) = true := by decide +kernel
theorem gn_fq2 : (("FQ2" : Str) == gname .cFQ2) = true := by decide +kernel
theorem gn_ne : (gname .cFQ == "") = false ∧ (gname .cFP == "") = false ∧ (gname .cOPT == "") = false ∧ (gname .cFQ2 == "") = false := by decide +kernel
theorem gn_dbg : (("FQ" : Str) == "__debug__") = false ∧ (("FQP_field_elements" : Str) == "__debug__") = false ∧ (("FQP_optimized_field_elements" : Str) == "__debug__") = false ∧ (("FQ2" : Str) == "__debug__") = false := by decide +kernel
theorem ld_ty {A : Around} {env : Env} {sc : Scope} {nm : List Str} {Z : ZM} {σ : List (Option V)} {s : Shared} {E : Value → Shared → Prop} {t : Ty} {e : Expr} {Q : Value → Shared → Prop} (MM : MgOk mg) (C : Cx K mg mb n A env sc nm Z σ s) (hc : chkTy sc t e = true) (h : Q t.val s) :
  wpAny (model prog w) A (eval e env) Q E s := by
 refine onNm_e hc fun x p hc => an2 hc fun h0 h1 => ?_
 cases eq_of_beq h0
 cases t with
 | int => exact ld_b MM C nbInt h1 Boot.«int» h
 | tuple => exact ld_b MM C nbTuple h1 Boot.«tuple» h
 | cls c =>
  cases c with
  | fq => exact ld_fn MM C gn_fq h1 gn_ne.1 gn_dbg.1 h
  | fp => exact ld_fn MM C gn_fp h1 gn_ne.2.1 gn_dbg.2.1 h
  | opt => exact ld_fn MM C gn_opt h1 gn_ne.2.2.1 gn_dbg.2.2.1 h
  | fq2 => exact ld_fn MM C gn_fq2 h1 gn_ne.2.2.2 gn_dbg.2.2.2 h
theorem e_isi (KK : KF K) (MM : MgOk mg) {a : IE} {ts : List Ty} (ha : PE prog w K mg mb n T a) (A : Around) (env : Env) (sc : Scope) (nm : List Str) (Z : ZM) (σ : List (Option V)) (s : Shared) (k : Bool → Prop) (Q E : Value → Shared → Prop) (e : Expr)
  (C : Cx K mg mb n A env sc nm Z σ s) (hc : chkE sc nm (.isi a ts) e = true) (h : wE T a σ fun x => onB (isiR x ts) k) (hk : ∀ b Z' s', Grow Z s Z' s' → k b → Q (.bool b) s') : wpAny (model prog w) A (eval e env) Q E s := by
 have bk : ∀ {Z1 : ZM} {s1 : Shared} {b : Bool}, Grow Z s Z1 s1 → k b → Bk Z1 s1 (Eq (.bool b)) Q := by
  intro Z1 s1 b g1 hb v x Z' s' g r hx
  subst hx
  rw [r.bool_inv]
  exact hk b _ _ (g1.trans g) hb
 refine bi2_e hc fun a' t' p q h1 p1 p2 hc => an2 hc fun q1 q2 => ?_
 refine Call_ (ld_b MM C nbIsi h1 Boot.«isinstance» (call_bi (plain2 p1 p2) (spl2 p1 p2 (ha _ _ _ _ _ _ _ _ _ _ _ C q1 h fun u x Z1 s1 g1 r1 h => ?_))))
 have C1 := C.grow g1
 obtain ⟨b, hb, hkb⟩ := (onB_e h)
 match ts, hb, q2 with
 | [], _, q2 => exact (Bool.false_ne_true q2).elim
 | [t], hb, q2 => exact ld_ty MM C1 q2 (op_isi1 KK C1.f.gd C1.f.zs r1 hb rfl (bk g1 hkb))
 | t :: v :: ws, hb, q2 =>
  refine an2 q2 fun q0 q2 => ?_
  revert p2 hb
  refine un0_e q0 fun J p2 hb => ?_
  revert p2
  refine onTp_e q2 fun es n p q2 p2 => un2_e q2 fun a b q2 => an4 q2 fun p3 p4 q3 q4 => ?_
  refine Tuple_ (spl2 p3 p4 (ld_ty MM C1 q3 (ld_ty MM C1 q4 ?_)))
  refine wpAny_newObj_type ?_ (by show (2 : Nat) ≤ sizeLine; decide)
  have g2 : ∀ o : Obj, Grow Z1 s1 Z1 { s1 with heap := s1.heap.push o } := fun o => Grow.still C1.f.zs (push_keep _ _) id rfl
  exact op_isi2 KK (C1.grow (g2 _)).f.gd (C1.grow (g2 _)).f.zs r1 (Heap.get?_push_size _ rfl) hb rfl (bk (g1.trans (g2 _)) hkb)
theorem pe_isi (KK : KF K) (MM : MgOk mg) {a : IE} {ts : List Ty} (ha : PE prog w K mg mb n T a) : PE prog w K mg mb n T (.isi a ts) := fun A env sc nm Z σ s k Q E e C hc h hk =>
 e_isi KK MM ha A env sc nm Z σ s (fun b => k (.bool b)) Q E e C hc h fun b Z' s' g h => hk _ _ _ _ g (.bool b) h
noncomputable def isPl (e : Expr) : Bool := Nat.beq e.ctorIdx 23 || Nat.beq e.ctorIdx 16 || Nat.beq e.ctorIdx 2
theorem isTrue_plain {A : Around} {E : Value → Shared → Prop} {s : Shared} {env : Env} {e : Expr} {Q : Bool → Shared → Prop}
  (he : isPl e = true) (h : wpAny (model prog w) A (eval e env) (fun v s₁ => wpAny (model prog w) A (PySem.truthy v) Q E s₁) E s) : wpAny (model prog w) A (isTrue e env (eval e env)) Q E s := by
 haveI e' : isTrue e env (eval e env) = (do let v ← eval e env; standAt e.pos; holding [v] (PySem.truthy v)) := by
  cases e <;> first | rfl | cases he
 rw [e']
 exact wpAny_bind (wpAny_mono h (fun v s₁ h₁ => wpAny_bind (wpAny_standAt (wpAny_holding h₁))) fun J J e => e)
theorem pc_of {ie : IE} (hp : PE prog w K mg mb n T ie) (hw : ∀ σ k, wC T ie σ k → wE T ie σ fun v => Mine.truthy v k) (hs : ∀ sc nm e, chkE sc nm ie e = true → isPl e = true) : PC prog w K mg mb n T ie := by
 intro A env sc nm Z σ s k Q E e C hc h hk
 refine isTrue_plain (hs _ _ _ hc) (hp _ _ _ _ _ _ _ _ _ _ _ C hc (hw _ _ h) fun v x Z1 s1 g1 r1 h => ?_)
 have C1 := C.grow g1
 exact op_truthy C1.f.zs r1 h fun b s2 g2 hb => hk b _ _ (g1.trans g2) hb
theorem pc_var {i : Nat} : PC prog w K mg mb n T (.va i) := pc_of (pe_var i) (fun σ k h => h) (fun sc nm e h => onNm_e h fun J J J => rfl)
theorem pc_call {f : Fn} {as : IE} (hp : PE prog w K mg mb n T (.call f as)) : PC prog w K mg mb n T (.call f as) := pc_of hp (fun σ k h => h) (fun sc nm e h => onCall_e h fun J J J J J => rfl)
theorem pc_bin {op : Operator} {l r : IE} (hp : PE prog w K mg mb n T (.bin op l r)) : PC prog w K mg mb n T (.bin op l r) := pc_of hp (fun σ k h => h) (fun sc nm e h => onBin_e h fun J J J J J => rfl)
theorem pc_isi (KK : KF K) (MM : MgOk mg) {a : IE} {ts : List Ty} (ha : PE prog w K mg mb n T a) : PC prog w K mg mb n T (.isi a ts) := by
 intro A env sc nm Z σ s k Q E e C hc h hk
 have hs : isPl e = true := bi2_e hc fun J J J J J J J J => rfl
 refine isTrue_plain hs (e_isi KK MM ha A env sc nm Z σ s k _ _ e C hc h fun b Z' s' g h => ?_)
 exact wpAny_truthy_bool (hk b _ _ g h)
theorem pc_not {a : IE} (ha : PC prog w K mg mb n T a) : PC prog w K mg mb n T (.not a) := by
 intro A env sc nm Z σ s k Q E e C hc h hk
 refine onUn_e hc fun o a' p hc => an2 hc fun h0 hc => ?_
 cases isNt_e h0
 exact wpAny_bind (ha _ _ _ _ _ _ _ _ _ _ _ C hc h fun b Z' s' g hb => wpAny_pure (hk _ _ _ g hb))
theorem pc_and {l r : IE} (hl : PC prog w K mg mb n T l) (hr : PC prog w K mg mb n T r) : PC prog w K mg mb n T (.and l r) := by
 intro A env sc nm Z σ s k Q E e C hc h hk
 refine onBo_e hc fun o es p hc => an2 hc fun h0 hc => ?_
 cases isAn_e h0
 refine un2_e hc fun l' r' hc => an2 hc fun h1 h2 => ?_
 refine wpAny_bind (hl _ _ _ _ _ _ _ _ _ _ _ C h1 h fun b Z1 s1 g1 hb => ?_)
 cases b with
 | false => exact wpAny_pure (hk _ _ _ g1 hb)
 | true =>
  refine wpAny_bind (hr _ _ _ _ _ _ _ _ _ _ _ (C.grow g1) h2 hb fun c Z2 s2 g2 hc => ?_)
  cases c with
  | false => exact wpAny_pure (hk _ _ _ (g1.trans g2) hc)
  | true => exact wpAny_pure (hk _ _ _ (g1.trans g2) hc)
theorem pc_or {l r : IE} (hl : PC prog w K mg mb n T l) (hr : PC prog w K mg mb n T r) : PC prog w K mg mb n T (.or l r) := by
 intro A env sc nm Z σ s k Q E e C hc h hk
 refine onBo_e hc fun o es p hc => an2 hc fun h0 hc => ?_
 cases isOr_e h0
 refine un2_e hc fun l' r' hc => an2 hc fun h1 h2 => ?_
 refine wpAny_bind (hl _ _ _ _ _ _ _ _ _ _ _ C h1 h fun b Z1 s1 g1 hb => ?_)
 cases b with
 | true => exact wpAny_pure (hk _ _ _ g1 hb)
 | false =>
  refine wpAny_bind (hr _ _ _ _ _ _ _ _ _ _ _ (C.grow g1) h2 hb fun c Z2 s2 g2 hc => ?_)
  cases c with
  | false => exact wpAny_pure (hk _ _ _ (g1.trans g2) hc)
  | true => exact wpAny_pure (hk _ _ _ (g1.trans g2) hc)
theorem pi_of {ie : IE} (hp : PE prog w K mg mb n T ie) (hw : ∀ σ k, wI T ie σ k → wE T ie σ fun v => onItems v k) : PI prog w K mg mb n T ie := by
 intro A env sc nm Z σ s k E e C hc h
 refine hp _ _ _ _ _ _ _ _ _ _ _ C hc (hw _ _ h) fun v x Z1 s1 g1 r1 h => ?_
 have C1 := C.grow g1
 exact wpAny_mono (src_seq C1.hh C1.f.zs r1 h) (fun it s' h => h.before g1) fun J J e => e
theorem pi_rng1 (MM : MgOk mg) {a : IE} (ha : PE prog w K mg mb n T a) : PI prog w K mg mb n T (.rng1 a) := by
 intro A env sc nm Z σ s k E e C hc h
 refine bi1_e hc fun a' p q h1 h2 h3 => ?_
 refine Call_ (ld_b MM C nbRange h1 Boot.«range» (call_ty (plain1 h2) (spl1 h2 (ha _ _ _ _ _ _ _ _ _ _ _ C h3 h fun v x Z1 s1 g1 r1 h => ?_))))
 haveI C1 := C.grow g1
 cases x <;> first | exact h.elim | skip
 obtain ⟨t, rfl⟩ := r1.int_inv
 obtain ⟨b0, b1, h⟩ := (h)
 exact wpAny_mono (src_rng1 C1.hh C1.f.zs b0 b1 (evL_o h)) (fun x s₁ h₁ => wpAny_mono h₁ (fun it s' h => h.before g1) fun J J e => e) fun J J e => e
theorem eval_neg1 {A : Around} {E : Value → Shared → Prop} {s : Shared} {env : Env} {k : Nat} {p q : Pos} {Q : Value → Shared → Prop} (h : ∀ t tk, Q (.int (-1) t) { s with toks := tk }) : wpAny (model prog w) A (eval (.UnaryOp .USub (.Constant (.int 1) k p) q) env) Q E s :=
 wpAny_UnaryOp (wpAny_Constant_int (neg_int (h _ _)))
theorem pi_rng3 (MM : MgOk mg) {a b c : IE} (ha : PE prog w K mg mb n T a) (hb : PE prog w K mg mb n T b) : PI prog w K mg mb n T (.rng3 a b c) := by
 intro A env sc nm Z σ s k E e C hc h
 refine bi3_e hc fun a' b' c' p q h1 p1 p2 p3 hc => an3 hc fun q1 q2 q3 => ?_
 refine Call_ (ld_b MM C nbRange h1 Boot.«range» (call_ty (plain3 p1 p2 p3) (spl3 p1 p2 p3 (ha _ _ _ _ _ _ _ _ _ _ _ C q1 h fun v x Z1 s1 g1 r1 h => ?_))))
 haveI C1 := C.grow g1
 refine hb _ _ _ _ _ _ _ _ _ _ _ C1 q2 h fun u y Z2 s2 g2 r2 h => ?_
 have C2 := C1.grow g2
 cases x <;> first | exact h.elim | skip
 cases y <;> first | exact h.elim | skip
 obtain ⟨t, rfl⟩ := r1.int_inv
 obtain ⟨t2, rfl⟩ := r2.int_inv
 obtain ⟨b0, b1, rfl, h⟩ := (h)
 refine isM1_e q3 fun J J J => eval_neg1 fun t3 tk => ?_
 haveI g3 := Grow.toks C2.f.zs tk
 haveI C3 := C2.grow g3
 exact wpAny_mono (src_rng3 C3.hh C3.f.zs b0 b1 (evL_o h)) (fun x s₁ h₁ => wpAny_mono h₁ (fun it s' h => h.before ((g1.trans g2).trans g3)) fun J J e => e) fun J J e => e
theorem pi_enum (MM : MgOk mg) {a : IE} (ha : PE prog w K mg mb n T a) : PI prog w K mg mb n T (.enum a) := by
 intro A env sc nm Z σ s k E e C hc h
 refine bi1_e hc fun a' p q h1 h2 h3 => ?_
 refine Call_ (ld_b MM C nbEnum h1 Boot.«enumerate» (call_ty (plain1 h2) (spl1 h2 (ha _ _ _ _ _ _ _ _ _ _ _ C h3 h fun v x Z1 s1 g1 r1 h => ?_))))
 haveI C1 := C.grow g1
 haveI h' : onTup x fun xs => k (enumFrom 0 xs) := by
  cases x <;> first | exact h.elim | skip
  exact evL_o (k := k) h
 exact wpAny_mono (src_enum C1.hh C1.f.zs r1 h') (fun x s₁ h₁ => wpAny_mono h₁ (fun it s' h => h.before g1) fun J J e => e) fun J J e => e
theorem pi_zip (MM : MgOk mg) {a b : IE} (ha : PE prog w K mg mb n T a) (hb : PE prog w K mg mb n T b) : PI prog w K mg mb n T (.zip a b) := by
 intro A env sc nm Z σ s k E e C hc h
 refine bi2_e hc fun a' b' p q h1 p1 p2 hc => an2 hc fun q1 q2 => ?_
 refine Call_ (ld_b MM C nbZip h1 Boot.«zip» (call_ty (plain2 p1 p2) (spl2 p1 p2 (ha _ _ _ _ _ _ _ _ _ _ _ C q1 h fun v x Z1 s1 g1 r1 h => ?_))))
 haveI C1 := C.grow g1
 refine hb _ _ _ _ _ _ _ _ _ _ _ C1 q2 h fun u y Z2 s2 g2 r2 h => ?_
 haveI C2 := C1.grow g2
 haveI h' : onTup x fun xs => onTup y fun ys => sameLen xs ys (k (zipV xs ys)) := by
  cases x <;> first | exact h.elim | skip
  cases y <;> first | exact h.elim | skip
  show sameLen _ _ (k (zipV _ _))
  rw [← evL_eq _ k]
  exact h
 exact wpAny_mono (src_zip C2.hh C2.f.zs (r1.mono g2.le) r2 h') (fun x s₁ h₁ => wpAny_mono h₁ (fun it s' h => h.before (g1.trans g2)) fun J J e => e) fun J J e => e
end
theorem Ns.det {h : Heap} {a : Addr} {m m' : Str → Option Value} (x : h.Ns a m) (y : h.Ns a m') (n : Str) : m n = m' n := by
 obtain ⟨o, es, ep, ho, hd, _, hf⟩ := x
 obtain ⟨o', es', ep', ho', hd', _, hf'⟩ := (y)
 rw [ho] at ho'; cases ho'
 rw [hd] at hd'; cases hd'
 rw [← hf, ← hf']
theorem ns_not_cell {h : Heap} {a : Addr} {m : Str → Option Value} {v : Option Value} (x : h.Ns a m) (y : h.IsCell a v) : False := by
 obtain ⟨o, es, ep, ho, hd, _, hf⟩ := x
 obtain ⟨o', ho', hd'⟩ := y
 rw [ho] at ho'; cases ho'
 rw [hd] at hd'; cases hd'
theorem ns_not_list {h : Heap} {a : Addr} {m : Str → Option Value} {xs : Array Value} {n : Nat} (x : h.Ns a m) (y : h.get? a = some (listOf xs n)) : False := by
 obtain ⟨o, es, ep, ho, hd, _, hf⟩ := (x)
 rw [ho] at y; cases y; cases hd
theorem cell_not_list {h : Heap} {a : Addr} {v : Option Value} {xs : Array Value} {n : Nat} (x : h.IsCell a v) (y : h.get? a = some (listOf xs n)) : False := by
 obtain ⟨o, ho, hd⟩ := x
 rw [ho] at y; cases y; cases hd
theorem getS_setS (ρ : List Slot) : ∀ (i j : Nat) (v : Slot), getS (setS ρ i v) j = if j = i ∧ i < ρ.length then v else getS ρ j := by
 induction ρ with
 | nil => exact fun i j v => (if_neg fun q => absurd q.2 (Nat.not_lt_zero _)).symm
 | cons x r ih =>
  intro i j v
  cases i with
  | zero => cases j with
   | zero => exact (if_pos ⟨rfl, Nat.succ_pos _⟩).symm
   | succ j => exact (if_neg fun q => nomatch q.1).symm
  | succ i => cases j with
   | zero => exact (if_neg fun q => nomatch q.1).symm
   | succ j =>
    refine (ih i j v).trans ?_
    by_cases q : j = i ∧ i < r.length
    ·rw [if_pos q, if_pos ⟨congrArg (· + 1) q.1, Nat.succ_lt_succ q.2⟩]
    ·rw [if_neg q]; exact (if_neg fun z => q ⟨Nat.succ.inj z.1, Nat.lt_of_succ_lt_succ z.2⟩).symm
theorem len_setS (ρ : List Slot) (i : Nat) (v : Slot) : (setS ρ i v).length = ρ.length := List.length_set ..
theorem getS_len (ρ : List Slot) : ∀ i : Nat, getS ρ i ≠ .u → i < ρ.length := by
 induction ρ with
 | nil => exact fun _ h => (h rfl).elim
 | cons x r ih =>
  intro i h
  cases i with
  | zero => exact Nat.succ_pos _
  | succ i => exact Nat.succ_lt_succ (ih i h)
structure FS (env : Env) (nm : List Str) (st : Nat → Bool) : Prop where
 e : EnvOk env
 kind : ∀ i x, st i = true → nm[i]? = some x → env.kindOf x = some .local ∨ env.kindOf x = some .cell
 nd : ∀ i j x, st i = true → st j = true → nm[i]? = some x → nm[j]? = some x → i = j
 cls : (env.scope.kind == .class || (env.scope.kind == .module && env.locals != env.globals)) = false
structure OwnAt (s₀ : Shared) (R : List Addr) (Z : ZM) (s : Shared) (l : Addr) (xs : List V) : Prop where
 at_ : ∃ vs c, s.heap.get? l = some (listOf (vs : List Value).toArray c) ∧ RepL Z vs xs
 z : Z l = none
 z0 : s₀.heap.get? l = none
 r : l ∉ R
 l : xs.length ≤ 64
structure Fm (K : Frag) (mg mb : Str → Option Value) (s₀ : Shared) (Z₀ : ZM) (env : Env) (nm : List Str) (st : Nat → Bool) (R : List Addr) (Z : ZM) (ρ : List Slot) (ow : Nat → Addr) (s : Shared) : Prop where
 gd0 : Gd K mg mb s₀
 hf0 : (HasFr K s₀ ∨ s₀.heap.objs.size ≤ env.locals) ∧ ∀ b, isT b → Z₀ b = none
 gr : Grow Z₀ s₀ Z s
 loc : ∃ m, s.heap.Ns env.locals m
 loc0 : s₀.heap.get? env.locals = none ∧ Z env.locals = none ∧ env.locals ∉ R
 cel : ∀ i x, st i = true → nm[i]? = some x → env.kindOf x = some .cell → ∃ c, env.cells.lookup x = some c ∧ (∃ v₀, s.heap.IsCell c v₀) ∧ s₀.heap.get? c = none ∧ Z c = none ∧ c ∉ R
 cr : ∀ x c, env.cells.lookup x = some c → c ∉ R ∧ ∃ v, s.heap.IsCell c v
 ne : ∀ i j x, nm[i]? = some x → nm[j]? = some x → st j = true → i ≠ j → getS ρ i = .u
 res : ∀ b ∈ R, Z b = none ∧ s₀.heap.get? b = none ∧ ∃ o, s.heap.get? b = some o
 len : ρ.length = nm.length
 va : ∀ i x V, nm[i]? = some x → getS ρ i = .v V → ∃ v, At env s.heap x v ∧ Rep Z v V
 own : ∀ i x xs, nm[i]? = some x → getS ρ i = .o xs → At env s.heap x (.ref (ow i)) ∧ OwnAt s₀ R Z s (ow i) xs
 oinj : ∀ i j xs ys, getS ρ i = .o xs → getS ρ j = .o ys → ow i = ow j → i = j
section
variable {n : Nat} {T : Tab} {A : Around} {E : Value → Shared → Prop} {s₀ s s' : Shared} {Z₀ Z Z' : ZM} {env : Env} {nm : List Str} {st : Nat → Bool} {R : List Addr} {ρ : List Slot} {ow : Nat → Addr} {sc : Scope}
theorem Fm.step (F : Fm K mg mb s₀ Z₀ env nm st R Z ρ ow s) (keep : ∀ b o, b ∉ R → s.heap.get? b = some o → ∃ o', s'.heap.get? b = some o' ∧ Evo b o o') (hR : ∀ b ∈ R, ∃ o, s'.heap.get? b = some o) (le : ZLe Z Z') (sub : ∀ b o, Z' b = some o → s'.heap.get? b = some o)
  (fresh : ∀ b o, Z' b = some o → Z b = some o ∨ s.heap.get? b = none) (hb : AllBare s.gens → AllBare s'.gens) (ho : s'.os = s.os) : Fm K mg mb s₀ Z₀ env nm st R Z' ρ ow s' := by
 have zn : ∀ b o, s.heap.get? b = some o → Z b = none → Z' b = none := fun b o e z => by
  cases q : Z' b with
  | none => rfl
  | some o' =>
   rcases fresh b o' q with h | h
   ·rw [z] at h; cases h
   ·rw [e] at h; cases h
 obtain ⟨m, hm⟩ := F.loc
 have kF : ∀ b o, b ∉ R → isF o.data = false → s.heap.get? b = some o → s'.heap.get? b = some o := fun b o hb hd e => by
  obtain ⟨o', e', v⟩ := (keep b o hb e)
  rw [v.eq hd] at e'; exact e'
 have hm' : s'.heap.Ns env.locals m := by
  obtain ⟨o, es, ep, e, hd, r⟩ := (hm)
  exact ⟨o, es, ep, kF _ o F.loc0.2.2 (by rw [hd]; rfl) e, hd, r⟩
 have at' : ∀ x v, At env s.heap x v → At env s'.heap x v := by
  intro x v a
  rcases a with ⟨a1, m', a2, a3⟩ | ⟨a1, c, a2, o, a3, a4⟩
  ·exact .inl ⟨a1, m, hm', (Ns.det hm a2 x).trans a3⟩
  ·exact .inr ⟨a1, c, a2, o, kF c o (F.cr x c a2).1 (by rw [a4]; rfl) a3, a4⟩
 refine ⟨F.gd0, F.hf0, ⟨fun b o e => by
   obtain ⟨o', e', v⟩ := (F.gr.keep b o e)
   obtain ⟨o'', e'', v'⟩ := keep b o' (fun hb => by rw [(F.res b hb).2.1] at e; cases e) e'
   exact ⟨o'', e'', v.trans v'⟩, F.gr.le.trans le, sub, fun b o e => ?_, fun q => hb (F.gr.bare q), ho.trans F.gr.os⟩, ⟨m, hm'⟩, ⟨F.loc0.1, ?_, F.loc0.2.2⟩, ?_, ?_, F.ne, ?_, F.len, ?_, ?_, F.oinj⟩
 ·rcases fresh b o e with h | h
  ·exact F.gr.fresh b o h
  ·right
   exact F.gr.keep.none h
 ·obtain ⟨o, _, _, e, _⟩ := (hm)
  exact zn _ _ e F.loc0.2.1
 ·intro i x hs hn hk
  obtain ⟨c, h1, ⟨v₀, o, e, hd⟩, h3, h4, h5⟩ := (F.cel i x hs hn hk)
  exact ⟨c, h1, ⟨v₀, o, kF c o h5 (by rw [hd]; rfl) e, hd⟩, h3, zn _ _ e h4, h5⟩
 ·intro x c h
  obtain ⟨h1, v, o, e, hd⟩ := (F.cr x c h)
  exact ⟨h1, v, o, kF c o h1 (by rw [hd]; rfl) e, hd⟩
 ·intro b hb'
  obtain ⟨h1, h2, o, e⟩ := (F.res b hb')
  exact ⟨zn _ _ e h1, h2, hR b hb'⟩
 ·intro i x V hn hv
  obtain ⟨v, a, r⟩ := (F.va i x V hn hv)
  exact ⟨v, at' _ _ a, r.mono le⟩
 ·intro i x xs hn hv
  obtain ⟨a, ⟨vs, c, e, r⟩, h1, h2, h3, h4⟩ := (F.own i x xs hn hv)
  exact ⟨at' _ _ a, ⟨vs, c, kF _ _ h3 rfl e, r.mono le⟩, zn _ _ e h1, h2, h3, h4⟩
theorem Fm.grow (F : Fm K mg mb s₀ Z₀ env nm st R Z ρ ow s) (g : Grow Z s Z' s') : Fm K mg mb s₀ Z₀ env nm st R Z' ρ ow s' :=
 F.step (fun b o J e => g.keep b o e) (fun b hb => (F.res b hb).2.2.elim fun o e => (g.keep b o e).elim fun o' p => ⟨o', p.1⟩) g.le g.sub g.fresh g.bare g.os
theorem notT_mem {b : Addr} (h : ¬ isT b) : ¬ @Membership.mem Addr (List Addr) _ [308, 422] b := fun q => by
 rcases List.mem_cons.mp q with q | q
 ·exact h (.inl q)
 ·exact h (.inr (List.mem_singleton.mp q))
theorem hid_notT {h : Heap} {b : Addr} {o : Obj} (e : (hideAll h [308, 422]).get? b = some o) : ¬ isT b := fun q => by
 have : @Membership.mem Addr (List Addr) _ [308, 422] b := by
  rcases q with q | q
  ·rw [q]; exact .head _
  ·rw [q]; exact .tail _ (.head _)
 rw [hideAll_none _ this] at e; cases e
theorem Fm.gd (F : Fm K mg mb s₀ Z₀ env nm st R Z ρ ow s) : Gd K mg mb s := F.gd0.keep F.gr.keep F.gr.bare
theorem Fm.zt (F : Fm K mg mb s₀ Z₀ env nm st R Z ρ ow s) : ∀ b, isT b → Z b = none := zt_grow F.gd0 F.hf0.2 F.gr
theorem Fm.resT (F : Fm K mg mb s₀ Z₀ env nm st R Z ρ ow s) : ∀ b ∈ R, ¬ isT b := fun b hb => F.gd0.notT (F.res b hb).2.1
theorem Fm.hf (F : Fm K mg mb s₀ Z₀ env nm st R Z ρ ow s) : HasFr K s := F.hf0.1.elim (fun h => h.keep F.gr.keep) fun h => (F.loc).elim fun m hm => ⟨hideAll s₀.heap [308, 422], env.locals, m, ⟨hm, fun b o e => F.gr.keep.atT (of_hideAll _ e) (hid_notT e), Nat.le_trans (Nat.le_of_eq (hideAll_size _ _)) h⟩, fun b o e => hideAll_get _ (F.gd0.k b o e) (notT_mem (F.gd0.kt b o e)), fun x o e => hid_notT e⟩
theorem getO_map (f : Slot → Option V) (hf : f .u = none) (ρ : List Slot) : ∀ i : Nat, getO (ρ.map f) i = f (getS ρ i) := by
 induction ρ with
 | nil => exact fun _ => hf.symm
 | cons x r ih =>
  intro i
  cases i with
  | zero => rfl
  | succ i => exact ih i
theorem Fm.cx0 (F : Fm K mg mb s₀ Z₀ env nm st R Z ρ ow s) (S : FS env nm st) (hA : OkA A (n + 1)) (so : ScOk sc env) : Cx K mg mb n A env sc nm Z (ρ.map (ob1 false)) s := by
 refine ⟨hA, S.e, so, F.gd, F.hf, F.gr.sub, F.zt, fun i x V hv hn => ?_, by rw [List.length_map]; exact F.len, fun y c h => (F.cr y c h).2⟩
 rw [getO_map _ rfl] at hv
 cases q : getS ρ i with
 | u => rw [q] at hv; cases hv
 | v V' => rw [q] at hv; cases hv; exact F.va i x V hn q
 | o xs => rw [q] at hv; cases hv
noncomputable def zOwn (Z : ZM) (nm : List Str) (ρ : List Slot) (ow : Nat → Addr) (s : Shared) : ZM := fun b =>
 open Classical in if (∃ i xs, i < nm.length ∧ getS ρ i = .o xs ∧ ow i = b) then s.heap.get? b else Z b
theorem zOwn_le (F : Fm K mg mb s₀ Z₀ env nm st R Z ρ ow s) : ZLe Z (zOwn Z nm ρ ow s) := fun b o e => by
 unfold zOwn
 split
 ·exact F.gr.sub b o e
 ·exact e
theorem nm_get {nm : List Str} {i : Nat} (h : i < nm.length) : ∃ x, nm[i]? = some x := ⟨_, List.getElem?_eq_getElem h⟩
theorem zOwn_sub (F : Fm K mg mb s₀ Z₀ env nm st R Z ρ ow s) : ∀ b o, zOwn Z nm ρ ow s b = some o → s.heap.get? b = some o := fun b o e => by
 unfold zOwn at e
 split at e
 ·exact e
 ·exact F.gr.sub b o e
theorem zOwn_t (F : Fm K mg mb s₀ Z₀ env nm st R Z ρ ow s) : ∀ b, isT b → zOwn Z nm ρ ow s b = none := fun b hb => by
 unfold zOwn
 rw [if_neg]
 ·exact F.zt b hb
 ·intro zz; obtain ⟨i, xs, hi, h, rfl⟩ := (zz)
  obtain ⟨x, hx⟩ := (nm_get hi)
  obtain ⟨_, _, _, h0, _⟩ := (F.own i x xs hx h)
  exact F.gd0.notT h0 hb
theorem Fm.cx1 (F : Fm K mg mb s₀ Z₀ env nm st R Z ρ ow s) (S : FS env nm st) (hA : OkA A (n + 1)) (so : ScOk sc env) : Cx K mg mb n A env sc nm (zOwn Z nm ρ ow s) (ρ.map (ob1 true)) s := by
 refine ⟨hA, S.e, so, F.gd, F.hf, zOwn_sub F, zOwn_t F, fun i x V hv hn => ?_, by rw [List.length_map]; exact F.len, fun y c h => (F.cr y c h).2⟩
 rw [getO_map _ rfl] at hv
 cases q : getS ρ i with
 | u => rw [q] at hv; cases hv
 | v V' =>
  rw [q] at hv; cases hv
  obtain ⟨v, a, r⟩ := (F.va i x V hn q)
  exact ⟨v, a, r.mono (zOwn_le F)⟩
 | o xs =>
  rw [q] at hv; cases hv
  obtain ⟨a, ⟨vs, c, e, r⟩, h1, h2, h3, h4⟩ := (F.own i x xs hn q)
  refine ⟨_, a, .lst (n := c) ?_ h4 (r.mono (zOwn_le F))⟩
  unfold zOwn
  rw [if_pos ⟨i, xs, (List.getElem?_eq_some_iff.mp hn).1, q, rfl⟩]
  exact e
end
section
variable {n : Nat} {T : Tab} {A : Around} {E : Value → Shared → Prop} {s₀ s s' : Shared} {Z₀ Z Z' : ZM} {env : Env} {nm : List Str} {st : Nat → Bool} {R : List Addr} {ρ : List Slot} {ow : Nat → Addr} {sc : Scope}
noncomputable def SlotOk (s₀ : Shared) (R : List Addr) (Z : ZM) (s : Shared) (v : Value) (sl : Slot) (ow : Nat → Addr) (j : Nat) : Prop := match sl with
 | .u => False
 | .v V => Rep Z v V
 | .o xs => v = .ref (ow j) ∧ OwnAt s₀ R Z s (ow j) xs
theorem Fm.upd {a : Addr} {x : Str} {v : Value} {j : Nat} {sl : Slot} {ow' : Nat → Addr} (F : Fm K mg mb s₀ Z₀ env nm st R Z ρ ow s) (S : FS env nm st) (hj : st j = true) (hx : nm[j]? = some x)
  (ha0 : s₀.heap.get? a = none) (haZ : Z a = none) (haR : a ∉ R) (hna : ∀ xs c, s.heap.get? a ≠ some (listOf xs c))
  (hb : ∀ b, b ≠ a → s'.heap.get? b = s.heap.get? b) (hg : s'.gens = s.gens) (ho : s'.os = s.os) (hloc : ∃ m, s'.heap.Ns env.locals m)
  (hcell : ∀ y c, env.cells.lookup y = some c → ∃ v', s'.heap.IsCell c v') (hat : ∀ y v', y ≠ x → At env s.heap y v' → At env s'.heap y v') (hatx : At env s'.heap x v)
  (hs : SlotOk s₀ R Z s v sl ow' j) (how : ∀ i xs, getS ρ i = .o xs → i ≠ j → ow' i = ow i) (hoi : ∀ xs, sl = .o xs → ∀ i ys, getS ρ i = .o ys → i ≠ j → ow i ≠ ow' j) :
  Fm K mg mb s₀ Z₀ env nm st R Z (setS ρ j sl) ow' s' := by
 have hlen : j < ρ.length := by rw [F.len]; exact (List.getElem?_eq_some_iff.mp hx).1
 have hget : ∀ i, getS (setS ρ j sl) i = if i = j then sl else getS ρ i := fun i => by
  rw [getS_setS]
  by_cases h : i = j <;> simp [h, hlen]
 have kp : ∀ b o, b ≠ a → s.heap.get? b = some o → s'.heap.get? b = some o := fun b o h e => (hb b h).trans e
 haveI zk : ∀ b o, Z b = some o → s'.heap.get? b = some o := fun b o e => kp b o (off haZ e) (F.gr.sub b o e)
 have ownK : ∀ {l xs}, OwnAt s₀ R Z s l xs → OwnAt s₀ R Z s' l xs := fun {l xs} h => by
  obtain ⟨⟨vs, c, e, r⟩, h1, h2, h3, h4⟩ := (h)
  exact ⟨⟨vs, c, kp _ _ (fun q => hna _ _ (q ▸ e)) e, r⟩, h1, h2, h3, h4⟩
 have nameNe : ∀ {i y}, nm[i]? = some y → i ≠ j → getS ρ i ≠ .u → y ≠ x := fun {i y} h1 h2 h3 q => h3 (F.ne i j x (q ▸ h1) hx hj h2)
 refine ⟨F.gd0, F.hf0, ⟨fun b o e => (F.gr.keep b o e).elim fun o' p => ⟨o', kp b o' (off ha0 e) p.1, p.2⟩, F.gr.le, zk, F.gr.fresh, fun q => hg ▸ F.gr.bare q, ho.trans F.gr.os⟩, hloc, F.loc0, ?_, ?_, ?_, ?_, by rw [len_setS]; exact F.len, ?_, ?_, ?_⟩
 ·intro i y h1 h2 h3
  obtain ⟨c, e1, _, e3, e4, e5⟩ := (F.cel i y h1 h2 h3)
  exact ⟨c, e1, hcell y c e1, e3, e4, e5⟩
 ·intro y c h
  exact ⟨(F.cr y c h).1, hcell y c h⟩
 ·intro i k y h1 h2 h3 h4
  rw [hget]
  by_cases q : i = j
  ·subst q
   exact absurd (S.nd i k y hj h3 h1 h2) h4
  ·rw [if_neg q]; exact F.ne i k y h1 h2 h3 h4
 ·intro b hb'
  obtain ⟨h1, h2, o, e⟩ := (F.res b hb')
  exact ⟨h1, h2, o, kp b o (fun q => haR (q ▸ hb')) e⟩
 ·intro i y V h1 h2
  rw [hget] at h2
  by_cases q : i = j
  ·subst q
   rw [if_pos rfl] at h2
   rw [hx] at h1; cases h1
   subst h2
   exact ⟨v, hatx, hs⟩
  ·rw [if_neg q] at h2
   obtain ⟨u, a1, r⟩ := (F.va i y V h1 h2)
   exact ⟨u, hat y u (nameNe h1 q (by rw [h2]; intro z; cases z)) a1, r⟩
 ·intro i y xs h1 h2
  rw [hget] at h2
  by_cases q : i = j
  ·subst q
   rw [if_pos rfl] at h2
   rw [hx] at h1; cases h1
   subst h2
   obtain ⟨rfl, h⟩ := (hs)
   exact ⟨hatx, ownK h⟩
  ·rw [if_neg q] at h2
   obtain ⟨a1, h⟩ := (F.own i y xs h1 h2)
   rw [how i xs h2 q]
   exact ⟨hat y _ (nameNe h1 q (by rw [h2]; intro z; cases z)) a1, ownK h⟩
 ·intro i k xs ys h1 h2 h3
  rw [hget] at h1 h2
  by_cases q : i = j <;> by_cases q' : k = j
  ·rw [q, q']
  ·subst q
   rw [if_pos rfl] at h1
   rw [if_neg q'] at h2
   rw [how k ys h2 q'] at h3
   exact absurd h3.symm (hoi xs h1 k ys h2 q')
  ·subst q'
   rw [if_pos rfl] at h2
   rw [if_neg q] at h1
   rw [how i xs h1 q] at h3
   exact absurd h3 (hoi ys h2 i xs h1 q)
  ·rw [if_neg q] at h1
   rw [if_neg q'] at h2
   rw [how i xs h1 q, how k ys h2 q'] at h3
   exact F.oinj i k xs ys h1 h2 h3
noncomputable def KeepR (R : List Addr) (s s' : Shared) : Prop := ∀ b ∈ R, ∀ o, s.heap.get? b = some o → s'.heap.get? b = some o
theorem Fm.store {x : Str} {v : Value} {j : Nat} {sl : Slot} {ow' : Nat → Addr} {Q : Unit → Shared → Prop} (F : Fm K mg mb s₀ Z₀ env nm st R Z ρ ow s) (S : FS env nm st) (hj : st j = true) (hx : nm[j]? = some x)
  (hs : SlotOk s₀ R Z s v sl ow' j) (how : ∀ i xs, getS ρ i = .o xs → i ≠ j → ow' i = ow i) (hoi : ∀ xs, sl = .o xs → ∀ i ys, getS ρ i = .o ys → i ≠ j → ow i ≠ ow' j)
  (h : ∀ s', Fm K mg mb s₀ Z₀ env nm st R Z (setS ρ j sl) ow' s' → KeepR R s s' → Q () s') : wpAny (model prog w) A (storeName env x v) Q E s := by
 rcases S.kind j x hj hx with hk | hk
 ·obtain ⟨m, hm⟩ := (F.loc)
  refine wpAny_storeName_local hk hm (fun h' hn' hsb => h _ ?_ fun b hb o e => hsb.extBut b o (fun q => F.loc0.2.2 (q ▸ hb)) e) S.cls
  refine F.upd (a := env.locals) (v := v) S hj hx F.loc0.1 F.loc0.2.1 F.loc0.2.2 (fun xs c e => ns_not_list hm e) (fun b hb => hsb.2 b hb) rfl rfl ⟨_, hn'⟩ (fun y c hc => ?_) (fun y v' hy a => ?_) ?_ hs how hoi
  ·obtain ⟨_, v', hv'⟩ := (F.cr y c hc)
   exact ⟨v', hv'.sameBut hsb fun q => ns_not_cell hm (q ▸ hv')⟩
  ·rcases a with ⟨a1, m', a2, a3⟩ | ⟨a1, c, a2, a3⟩
   ·refine .inl ⟨a1, _, hn', ?_⟩
    show (if y = x then some v else m y) = some v'
    rw [if_neg hy]
    exact (Ns.det hm a2 y).trans a3
   ·exact .inr ⟨a1, c, a2, a3.sameBut hsb fun q => ns_not_cell hm (q ▸ a3)⟩
  ·exact .inl ⟨hk, _, hn', if_pos rfl⟩
 ·obtain ⟨c, h1, ⟨v₀, h2⟩, h3, h4, h5⟩ := (F.cel j x hj hx hk)
  obtain ⟨m, hm⟩ := (F.loc)
  refine wpAny_storeName_cell S.e.kind hk h1 h2 fun h' hc' hsb => h _ ?_ fun b hb o e => hsb.extBut b o (fun q => h5 (q ▸ hb)) e
  have hloc : h'.Ns env.locals m := hm.sameBut hsb fun q => ns_not_cell hm (q ▸ h2)
  refine F.upd (a := c) (v := v) S hj hx h3 h4 h5 (fun xs c e => cell_not_list h2 e) (fun b hb => hsb.2 b hb) rfl rfl ⟨_, hloc⟩ (fun y d hd => ?_) (fun y v' hy a => ?_) ?_ hs how hoi
  ·by_cases q : d = c
   ·exact ⟨_, q ▸ hc'⟩
   ·obtain ⟨_, v', hv'⟩ := (F.cr y d hd)
    exact ⟨v', hv'.sameBut hsb q⟩
  ·rcases a with ⟨a1, m', a2, a3⟩ | ⟨a1, d, a2, a3⟩
   ·exact .inl ⟨a1, m, hloc, (Ns.det hm a2 y).trans a3⟩
   ·exact .inr ⟨a1, d, a2, a3.sameBut hsb fun q => hy (S.e.apart y x c (q ▸ a2) h1)⟩
  ·exact .inr ⟨hk, c, h1, hc'⟩
theorem Fm.storeV {x : Str} {v : Value} {V : V} {j : Nat} {Q : Unit → Shared → Prop} (F : Fm K mg mb s₀ Z₀ env nm st R Z ρ ow s) (S : FS env nm st) (hj : st j = true) (hx : nm[j]? = some x) (r : Rep Z v V)
  (h : ∀ s', Fm K mg mb s₀ Z₀ env nm st R Z (setS ρ j (.v V)) ow s' → KeepR R s s' → Q () s') : wpAny (model prog w) A (storeName env x v) Q E s :=
 F.store (sl := .v V) S hj hx r (fun J J J J => rfl) (fun xs q => by cases q) h
end
theorem noLst_flds {x : V} {n : Nat} {c : Cl} {fs : List (Fld × V)} (h : noLst n x = true) (hf : flds x = some (c, fs)) : ∀ p ∈ fs, ∃ m, noLst m p.2 = true := by
 cases n with
 | zero => cases h
 | succ n =>
  cases x <;> first | (cases hf; done) | (cases h; done) | skip
  all_goals
   cases hf
   intro p hp
   exact ⟨4, List.all_eq_true.mp (show List.all _ (fun p : Fld × V => noLst 4 p.2) = true from rfl) p hp⟩
theorem Rep.strip {Z Z' : ZM} (hz : ∀ b o, Z b = some o → o.cls ≠ .type "list" → Z' b = some o) {v : Value} {x : V} {n : Nat} (h : noLst n x = true) (r : Rep Z v x) : Rep Z' v x := by
 refine Rep.rec (motive_1 := fun v x J => ∀ n, noLst n x = true → Rep Z' v x) (motive_2 := fun vs xs J => (∀ x ∈ xs, ∃ n, noLst n x = true) → RepL Z' vs xs) (motive_3 := fun es fs J => (∀ p ∈ fs, ∃ n, noLst n p.2 = true) → RepF Z' es fs) (fun J J => .none) (fun b J J => .bool b) (fun i t J J => .int i t)
  (fun h1 hc hd hb J ih n h => ?_) (fun h1 hb J J n h => ?_) (fun hf h1 hd J ih n h => .inst hf (hz _ _ h1 (fun q => by cases q)) (hz _ _ hd (fun q => absurd (Value.type.inj q) (by decide))) (ih (noLst_flds h hf))) (fun J => .nil)
  (fun J J a r h => (h _ (.head _)).elim fun m e => .cons (a m e) (r fun x hx => h x (.tail _ hx))) (fun J => .nil) (fun J J a r h => (h _ (.head _)).elim fun m e => .cons (a m e) (r fun x hx => h x (.tail _ hx))) r n h
 ·cases n with
  | zero => cases h
  | succ n => exact .tup (hz _ _ h1 (by rw [hc]; intro q; exact absurd (Value.type.inj q) (by decide))) hc hd hb (ih fun x hx => ⟨n, List.all_eq_true.mp (show List.all _ (noLst n) = true from h) x hx⟩)
 ·cases n <;> cases h
theorem RepL.strip {Z Z' : ZM} (hz : ∀ b o, Z b = some o → o.cls ≠ .type "list" → Z' b = some o) {vs : List Value} {xs : List V} {n : Nat} (h : ∀ x ∈ xs, noLst n x = true) (r : RepL Z vs xs) : RepL Z' vs xs :=
 RepL.ind (P := fun vs xs => (∀ x ∈ xs, noLst n x = true) → RepL Z' vs xs) (fun J => .nil) (fun a J ih h => .cons (Rep.strip hz (h _ (List.mem_cons_self ..)) a) (ih fun x hx => h x (.tail _ hx))) r h
section
variable {n : Nat} {T : Tab} {A : Around} {E : Value → Shared → Prop} {s₀ s s' : Shared} {Z₀ Z Z' Zb : ZM} {env : Env} {nm : List Str} {st : Nat → Bool} {R wr : List Addr} {ρ : List Slot} {ow : Nat → Addr} {sc : Scope}
noncomputable def zBack (Zb : ZM) (nm : List Str) (ρ : List Slot) (ow : Nat → Addr) : ZM := fun b =>
 open Classical in if (∃ i xs, i < nm.length ∧ getS ρ i = .o xs ∧ ow i = b) then none else Zb b
theorem Fm.back (F : Fm K mg mb s₀ Z₀ env nm st R Z ρ ow s) (g : Grow (zOwn Z nm ρ ow s) s Zb s') :
  Fm K mg mb s₀ Z₀ env nm st R (zBack Zb nm ρ ow) ρ ow s' ∧ ∀ v x n, noLst n x = true → Rep Zb v x → Rep (zBack Zb nm ρ ow) v x := by
 refine ⟨F.step (fun b o J e => g.keep b o e) (fun b hb => (F.res b hb).2.2.elim fun o e => (g.keep b o e).elim fun o' p => ⟨o', p.1⟩) (fun b o e => ?_) (fun b o e => ?_) (fun b o e => ?_) g.bare g.os, fun v x n hn r => Rep.strip (fun b o e hc => ?_) hn r⟩
 ·unfold zBack
  rw [if_neg]
  ·exact g.le b o (zOwn_le F b o e)
  ·intro zz; obtain ⟨i, xs, hi, h, rfl⟩ := (zz)
   obtain ⟨x, hx⟩ := nm_get hi
   have := (F.own i x xs hx h).2.z
   rw [e] at this; cases this
 ·unfold zBack at e
  split at e
  ·cases e
  ·exact g.sub b o e
 ·unfold zBack at e
  split at e
  ·cases e
  ·rename_i hn
   rcases g.fresh b o e with h | h
   ·left
    unfold zOwn at h
    rw [if_neg hn] at h
    exact h
   ·exact .inr h
 ·unfold zBack
  rw [if_neg]
  ·exact e
  ·intro zz; obtain ⟨i, xs, hi, h, rfl⟩ := (zz)
   obtain ⟨x, hx⟩ := nm_get hi
   obtain ⟨vs, c, e', _⟩ := (F.own i x xs hx h).2.at_
   have := g.sub _ _ e
   rw [g.keep.lst e'] at this
   cases this
   exact hc rfl
theorem Fm.list {j : Nat} {x : Str} {xs ys : List V} {us : List Value} {c : Nat} (F : Fm K mg mb s₀ Z₀ env nm st R Z ρ ow s) (hx : nm[j]? = some x) (h : getS ρ j = .o xs) (hb : ∀ b o, b ≠ ow j → s.heap.get? b = some o → s'.heap.get? b = some o)
  (hl : s'.heap.get? (ow j) = some (listOf us.toArray c)) (r : RepL Z us ys) (hyl : ys.length ≤ 64) (hg : AllBare s.gens → AllBare s'.gens) (ho : s'.os = s.os) : Fm K mg mb s₀ Z₀ env nm st R Z (setS ρ j (.o ys)) ow s' := by
 obtain ⟨a, ⟨vs, c', e, r'⟩, hz, hz0, hr, _⟩ := F.own j x xs hx h
 have hlen : j < ρ.length := by rw [F.len]; exact (List.getElem?_eq_some_iff.mp hx).1
 have hget : ∀ i, getS (setS ρ j (.o ys)) i = if i = j then .o ys else getS ρ i := fun i => by
  rw [getS_setS]
  by_cases h : i = j <;> simp [h, hlen]
 have ne : ∀ b, s₀.heap.get? b ≠ none ∨ Z b ≠ none ∨ b ∈ R → b ≠ ow j := fun b h q => by
  subst q
  rcases h with h | h | h
  ·exact h hz0
  ·exact h hz
  ·exact hr h
 obtain ⟨m, hm⟩ := F.loc
 have hm' : s'.heap.Ns env.locals m := hm.at' fun o q => hb _ o (fun z => ns_not_list hm (z ▸ e)) q
 have cell' : ∀ (y : Str) (d : Addr) (v : Option Value), s.heap.IsCell d v → s'.heap.IsCell d v := fun y d v hv => by
  obtain ⟨o, q, hd⟩ := (id hv)
  exact ⟨o, hb d o (fun z => cell_not_list hv (z ▸ e)) q, hd⟩
 have at' : ∀ y v, At env s.heap y v → At env s'.heap y v := by
  intro y v a
  rcases a with ⟨a1, m', a2, a3⟩ | ⟨a1, d, a2, a3⟩
  ·exact .inl ⟨a1, m, hm', (Ns.det hm a2 y).trans a3⟩
  ·exact .inr ⟨a1, d, a2, cell' y d _ a3⟩
 refine ⟨F.gd0, F.hf0, ⟨fun b o q => (F.gr.keep b o q).elim fun o' p => ⟨o', hb b o' (ne b (.inl (by rw [q]; intro z; cases z))) p.1, p.2⟩, F.gr.le, fun b o q => hb b o (ne b (.inr (.inl (by rw [q]; intro z; cases z)))) (F.gr.sub b o q), F.gr.fresh, fun q => hg (F.gr.bare q), ho.trans F.gr.os⟩,
  ⟨m, hm'⟩, F.loc0, ?_, ?_, ?_, ?_, by rw [len_setS]; exact F.len, ?_, ?_, ?_⟩
 ·intro i y h1 h2 h3
  obtain ⟨d, e1, ⟨v₀, e2⟩, e3, e4, e5⟩ := (F.cel i y h1 h2 h3)
  exact ⟨d, e1, ⟨v₀, cell' y d _ e2⟩, e3, e4, e5⟩
 ·intro y d h
  obtain ⟨h1, v, h2⟩ := (F.cr y d h)
  exact ⟨h1, v, cell' y d _ h2⟩
 ·intro i k y h1 h2 h3 h4
  rw [hget]
  by_cases q : i = j
  ·subst q
   have := F.ne i k y h1 h2 h3 h4
   rw [h] at this; cases this
  ·rw [if_neg q]; exact F.ne i k y h1 h2 h3 h4
 ·intro b hb'
  obtain ⟨h1, h2, o, q⟩ := (F.res b hb')
  exact ⟨h1, h2, o, hb b o (ne b (.inr (.inr hb'))) q⟩
 ·intro i y V h1 h2
  rw [hget] at h2
  by_cases q : i = j
  ·rw [if_pos q] at h2; cases h2
  ·rw [if_neg q] at h2
   obtain ⟨u, a1, r⟩ := (F.va i y V h1 h2)
   exact ⟨u, at' y u a1, r⟩
 ·intro i y zs h1 h2
  rw [hget] at h2
  by_cases q : i = j
  ·subst q
   rw [if_pos rfl] at h2; cases h2
   rw [hx] at h1; cases h1
   exact ⟨at' _ _ a, ⟨us, c, hl, r⟩, hz, hz0, hr, hyl⟩
  ·rw [if_neg q] at h2
   obtain ⟨a1, ⟨vs', c'', e', r''⟩, z1, z2, z3, z4⟩ := F.own i y zs h1 h2
   exact ⟨at' y _ a1, ⟨vs', c'', hb _ _ (fun z => q (F.oinj i j zs xs h2 h z)) e', r''⟩, z1, z2, z3, z4⟩
 ·intro i k zs zs' h1 h2 h3
  rw [hget] at h1 h2
  by_cases q : i = j <;> by_cases q' : k = j
  ·rw [q, q']
  ·subst q
   rw [if_neg q'] at h2
   exact F.oinj i k xs zs' h h2 h3
  ·subst q'
   rw [if_neg q] at h1
   exact F.oinj i k zs xs h1 h h3
  ·rw [if_neg q] at h1
   rw [if_neg q'] at h2
   exact F.oinj i k zs zs' h1 h2 h3
end
section
variable {n : Nat} {T : Tab} {A : Around} {E : Value → Shared → Prop} {s₀ s s' : Shared} {Z₀ Z Z' Zb : ZM} {env : Env} {nm : List Str} {st : Nat → Bool} {R wr : List Addr} {ρ : List Slot} {ow : Nat → Addr} {sc : Scope}
theorem Fm.names (S : FS env nm st) (is : List Nat) : ∀ (es : List Expr) (vs : List Value) (xs : List V) (ρ ρ' : List Slot) (s : Shared) (Q : Unit → Shared → Prop), chkNames nm is es = true → (∀ i ∈ is, st i = true) → RepL Z vs xs → setAllS ρ is xs = some ρ' →
  Fm K mg mb s₀ Z₀ env nm st R Z ρ ow s → (∀ s', Fm K mg mb s₀ Z₀ env nm st R Z ρ' ow s' → KeepR R s s' → Q () s') → wpAny (model prog w) A (assignInOrder ((assignEach es env).map (·.2)) vs) Q E s := by
 induction is with
 | nil =>
  intro es vs xs ρ ρ' s Q hc _ r hs F h
  refine un0_e hc fun J => ?_
  cases xs with
  | nil => cases hs; cases r; exact assignInOrder_nil (h s F fun J J J e => e)
  | cons x xs => cases hs
 | cons i is ih =>
  intro es vs xs ρ ρ' s Q hc hi r hs F h
  refine onCo_e hc fun e es hc => an2 hc fun h1 h3 => ?_
  cases xs with
  | nil => cases hs
  | cons x xs =>
   obtain ⟨v, us, rfl, hr, r⟩ := (r.cons_inv)
   refine onNm_e h1 fun y p h1 => an2 h1 fun h1 J => ?_
   refine assignInOrder_cons (wpAny_assign_Name (F.storeV S (hi i (.head _)) (nmAt_eq _ _ _ h1) hr fun s' F' k' => ?_))
   exact ih es _ xs _ ρ' s' Q h3 (fun j hj => hi j (.tail _ hj)) r hs F' fun s'' F'' k'' => h s'' F'' fun b hb o e => k'' b hb o (k' b hb o e)
theorem each_len {env : Env} {nm : List Str} {is : List Nat} : ∀ {es : List Expr}, chkNames nm is es = true → (assignEach es env).length = is.length ∧ (assignEach es env).findIdx? (·.1) = none := by
 induction is with
 | nil => exact fun h => un0_e h fun J => ⟨rfl, rfl⟩
 | cons i is ih =>
  intro es h
  refine onCo_e h fun e es h => an2 h fun h0 h => ?_
  obtain ⟨h1, h2⟩ := (ih h)
  refine onNm_e h0 fun y p J => ⟨congrArg (· + 1) h1, ?_⟩
  show List.findIdx? _ ((false, _) :: assignEach es env) = none
  rw [List.findIdx?_cons, h2]; rfl
theorem setAllS_len {is : List Nat} : ∀ {xs : List V} {ρ ρ' : List Slot}, setAllS ρ is xs = some ρ' → is.length = xs.length := by
 induction is with
 | nil => intro xs ρ ρ' h; cases xs <;> first | rfl | cases h
 | cons i is ih =>
  intro xs ρ ρ' h
  cases xs with
  | nil => cases h
  | cons x xs => exact congrArg (· + 1) (ih (ρ := setS ρ i (.v x)) h)
theorem Fm.tuple (S : FS env nm st) (hh : A.handled = none) {is : List Nat} {es : List Expr} {k : Nat} {pos : Pos} {v : Value} {xs : List V} {ρ' : List Slot} {Q : Unit → Shared → Prop} (hc : chkNames nm is es = true) (hi : ∀ i ∈ is, st i = true) (r : Rep Z v (.tup xs)) (hs : setAllS ρ is xs = some ρ')
  (F : Fm K mg mb s₀ Z₀ env nm st R Z ρ ow s) (h : ∀ s', Fm K mg mb s₀ Z₀ env nm st R Z ρ' ow s' → KeepR R s s' → Q () s') : wpAny (model prog w) A (assign (.Tuple es k pos) env v) Q E s := by
 obtain ⟨a, o, vs, m, rfl, ho, hcl, hd, hl, rl⟩ := (r.tup_inv)
 obtain ⟨e1, e2⟩ := (each_len (env := env) hc)
 refine assign_Tuple_tuple (items := vs.toArray) hh ⟨_, F.gr.sub _ _ ho, hcl, _, hd⟩ (by rw [e1, setAllS_len hs, List.size_toArray, rl.length]) e2 fun h' he => ?_
 haveI g : Grow Z s Z { s with heap := h' } := Grow.still F.gr.sub (fun b o e => he b o (Nat.ne_of_lt (Heap.lt_size e)) e) id rfl
 exact Fm.names S is es vs xs ρ ρ' _ Q hc hi rl hs (F.grow g) fun s'' F'' k'' => h s'' F'' fun b hb o e => k'' b hb o (he b o (Nat.ne_of_lt (Heap.lt_size e)) e)
theorem Fm.pat (S : FS env nm st) (hh : A.handled = none) {pat : List Nat} {tgt : Expr} {v : Value} {V : V} {ρ' : List Slot} {Q : Unit → Shared → Prop} (hc : chkPat nm pat tgt = true) (hi : ∀ i ∈ pat, st i = true) (r : Rep Z v V) (hs : bindS ρ pat V = some ρ')
  (F : Fm K mg mb s₀ Z₀ env nm st R Z ρ ow s) (h : ∀ s', Fm K mg mb s₀ Z₀ env nm st R Z ρ' ow s' → KeepR R s s' → Q () s') : wpAny (model prog w) A (assign tgt env v) Q E s := by
 have many : ∀ is, onTp tgt (chkNames nm is) = true → (∀ i ∈ is, st i = true) → tupV V (setAllS ρ is) = some ρ' → wpAny (model prog w) A (assign tgt env v) Q E s := fun is hc hi hs => by
  obtain ⟨xs, rfl, hs⟩ := (tupV_e hs)
  exact onTp_e hc fun es n p hc => Fm.tuple S hh hc hi r hs F h
 rcases pat with _ | ⟨i, _ | ⟨j, l⟩⟩
 ·exact many _ hc hi hs
 ·cases hs
  exact onNm_e hc fun x p hc => an2 hc fun h1 J => wpAny_assign_Name (F.storeV S (hi _ (List.mem_cons_self ..)) (nmAt_eq _ _ _ h1) r h)
 ·exact many _ hc hi hs
theorem pat_tgt {pat : List Nat} {tgt : Expr} {ρ ρ' : List Slot} {V : V} {tt : Bool} (hc : chkPat nm pat tgt = true) (hs : bindS ρ pat V = some ρ') (ht : tt = true → multi pat = true) : TgtOk tt V tgt := by
 have many : ∀ is, onTp tgt (chkNames nm is) = true → tupV V (setAllS ρ is) = some ρ' → TgtOk tt V tgt := fun is hc hs => by
  obtain ⟨xs, rfl, hs⟩ := (tupV_e hs)
  exact onTp_e hc fun es n p hc => .inr ⟨⟨_, rfl⟩, _, _, _, rfl⟩
 rcases pat with _ | ⟨i, _ | ⟨j, l⟩⟩
 ·exact many _ hc hs
 ·cases tt with
  | true => exact absurd (ht rfl) (by intro q; cases q)
  | false => exact onNm_e hc fun J J J => .inl ⟨rfl, _, _, rfl⟩
 ·exact many _ hc hs
noncomputable def CompBody (prog : Program) (w : World) (A : Around) (target elt : Expr) (ifs : List Expr) (env : Env) (acc : Value) (E : Value → Shared → Prop) (P : Shared → Prop) (v : Value) (s : Shared) : Prop :=
 wpAny (model prog w) A (assign target env v) (fun J s₂ =>
  wpAny (model prog w) A (forIn ifs true fun c r => if r = true then do let ok ← isTrue c env (eval c env); pure (ForInStep.yield ok) else pure (ForInStep.yield r)) (fun ok s₃ =>
   if ok = true then wpAny (model prog w) A (eval elt env) (fun x s₄ => wpAny (model prog w) A (call (.builtin "list.append") [acc, x]) (fun J s₅ => P s₅) E s₄) E s₃ else P s₃) E s₂) E s
theorem compLoop_any {elt target iter : Expr} {ifs : List Expr} {scope : Scope} {pos : Pos} {it acc : Value} {R : Result → Shared → Prop} (I : Nat → Shared → Prop)
  (turn : ∀ E n s, I n s → wpAny (model prog w) A (pyNext it) (fun r s₁ => r = none ∧ R (.ok .next) s₁) E s ∨
   wpAny (model prog w) A (pyNext it) (fun r s₁ => ∃ v, r = some v ∧ wpAny (model prog w) A (letOwnedTupleGo target it v) (fun J s₂ => CompBody prog w A target elt ifs env acc E (fun s => ∃ m, m < n ∧ I m s) v s₂) E s₁) E s)
  (n : Nat) (h : I n s) : codeAny (model prog w) A (.compLoop (.ListComp elt [⟨target, iter, ifs, 0⟩] scope pos) 0 it acc env) R s := by
 refine codeAny_loop rfl I (fun n s hI => ?_) n h
 show wpAny _ A ((compTurn (.ListComp elt [⟨target, iter, ifs, 0⟩] scope pos) 0 it acc env).onRaise (fun x => do noteFrame x env; theTreesLotGoes x)) _ _ s
 refine wpAny_noted ?_
 rw [compTurn_list]
 refine wpAny_bind (wpAny_standAt (wpAny_bind ?_))
 rcases turn (notedBy (model prog w) A env fun e s' => R (.error e) s') n s hI with h | h
 ·refine wpAny_mono h (fun r s₁ h₁ => ?_) fun J J e => e
  obtain ⟨rfl, h₁⟩ := h₁
  exact wpAny_pure h₁
 ·refine wpAny_mono h (fun r s₁ h₁ => ?_) fun J J e => e
  obtain ⟨v, rfl, h₁⟩ := (h₁)
  refine wpAny_bind (wpAny_mono h₁ (fun J s₁' h₁' => ?_) fun J J h' => h')
  refine wpAny_bind (wpAny_mono h₁' (fun J s₂ h₂ => wpAny_bind (wpAny_mono h₂ (fun ok s₃ h₃ => ?_) fun J J h' => h')) fun J J h' => h')
  cases ok with
  | false => exact wpAny_pure ⟨rfl, h₃⟩
  | true => exact wpAny_bind (wpAny_bind (wpAny_mono h₃ (fun x s₄ h₄ => wpAny_bind (wpAny_mono h₄ (fun J s₅ h₅ => wpAny_pure (wpAny_pure ⟨rfl, h₅⟩)) fun J J h' => h')) fun J J h' => h'))
theorem look_c {α : Type} {x y : Str} {c d : α} {cs : List (Str × α)} (h : List.lookup y ((x, c) :: cs) = some d) : (y = x ∧ c = d) ∨ cs.lookup y = some d := by
 have h : (match y == x with | true => some c | false => cs.lookup y) = some d := h
 cases q : y == x with
 | true => rw [q] at h; exact .inl ⟨eq_of_beq q, Option.some.inj h⟩
 | false => rw [q] at h; exact .inr h
theorem look_s {α : Type} {x y : Str} {c d : α} {cs : List (Str × α)} (h : cs.lookup y = some d) : ∃ e, List.lookup y ((x, c) :: cs) = some e := by
 show ∃ e, (match y == x with | true => some c | false => cs.lookup y) = some e
 cases y == x with
 | true => exact ⟨_, rfl⟩
 | false => exact ⟨_, h⟩
theorem closure_aux (names : List (Str × NameKind)) : ∀ cs : List (Str × Addr), (∀ x ∈ names, (x.2 == NameKind.free) = true → ∃ c, env.cells.lookup x.1 = some c) → (∀ y c, cs.lookup y = some c → env.cells.lookup y = some c) →
  ∃ cl, (forIn names cs fun x __s => (if (x.2 == NameKind.free) = true then do let __do_lift ← cellOf env x.1; pure (ForInStep.yield ((x.1, __do_lift) :: __s)) else pure (ForInStep.yield __s) : Sem (ForInStep (List (Str × Addr))))) = pure cl ∧
   (∀ y c, cl.lookup y = some c → env.cells.lookup y = some c) ∧ (∀ y c, cs.lookup y = some c → ∃ c, cl.lookup y = some c) ∧ ∀ x ∈ names, (x.2 == NameKind.free) = true → ∃ c, cl.lookup x.1 = some c := by
 induction names with
 | nil => exact fun cs _ hcs => ⟨cs, rfl, hcs, fun y c h => ⟨c, h⟩, nofun⟩
 | cons p r ih =>
  intro cs hf hcs
  haveI hf' : ∀ z ∈ r, (z.2 == NameKind.free) = true → ∃ c, env.cells.lookup z.1 = some c := fun z hz => hf z (.tail _ hz)
  by_cases hk : (p.2 == NameKind.free) = true
  ·obtain ⟨c, hc⟩ := (hf p (.head _) hk)
   obtain ⟨cl, h1, h2, h3, h4⟩ := (ih ((p.1, c) :: cs) hf' fun y d h => (look_c h).elim (fun q => q.1 ▸ q.2 ▸ hc) (hcs y d))
   refine ⟨cl, ?_, h2, fun y d h => (look_s h).elim fun e q => h3 y e q, List.forall_mem_cons.mpr ⟨fun _ => h3 p.1 c (show (match p.1 == p.1 with | true => some c | false => cs.lookup p.1) = some c by rw [beq_self_eq_true]), h4⟩⟩
   rw [List.forIn_cons, if_pos hk]
   haveI e : cellOf env p.1 = pure c := by unfold cellOf; rw [hc]
   show ((cellOf env p.1 >>= _) >>= _) = _
   rw [e]
   exact h1
  ·obtain ⟨cl, h1, h2, h3, h4⟩ := (ih cs hf' hcs)
   refine ⟨cl, ?_, h2, h3, List.forall_mem_cons.mpr ⟨fun q => absurd q hk, h4⟩⟩
   rw [List.forIn_cons, if_neg hk]
   exact h1
theorem closure_of {scope : Scope} (hf : ∀ x ∈ scope.names, (x.2 == NameKind.free) = true → ∃ c, env.cells.lookup x.1 = some c) :
  ∃ cl, closureFor scope env = pure cl ∧ (∀ y c, cl.lookup y = some c → env.cells.lookup y = some c) ∧ ∀ x ∈ scope.names, (x.2 == NameKind.free) = true → ∃ c, cl.lookup x.1 = some c := by
 obtain ⟨cl, h1, h2, _, h4⟩ := (closure_aux scope.names [] hf (fun y c h => nsm h))
 refine ⟨cl, ?_, h2, h4⟩
 unfold closureFor
 show (forIn scope.names [] _ >>= _) = _
 haveI e : (forIn scope.names ([] : List (Str × Addr)) fun x __s => (match x with
    | (name, kind) =>
     if (kind == NameKind.free) = true then do
      let __do_lift ← cellOf env name
      pure (ForInStep.yield ((name, __do_lift) :: __s))
     else pure (ForInStep.yield __s) : Sem (ForInStep (List (Str × Addr))))) = pure cl := h1
 rw [e]
 rfl
end
noncomputable def slO : Option V → Slot | some v => .v v | none => .u
theorem getS_slO (σ : List (Option V)) : ∀ i : Nat, getS (σ.map slO) i = slO (getO σ i) := by
 induction σ with
 | nil => exact fun _ => rfl
 | cons x r ih =>
  intro i
  cases i with
  | zero => rfl
  | succ i => exact ih i
theorem setS_slO (σ : List (Option V)) : ∀ (i : Nat) (v : V), setS (σ.map slO) i (.v v) = (setO σ i v).map slO := by
 induction σ with
 | nil => exact fun _ _ => rfl
 | cons x r ih =>
  intro i v
  cases i with
  | zero => rfl
  | succ i => exact congrArg (List.cons (slO x)) (ih i v)
theorem setAllS_slO (is : List Nat) : ∀ (vs : List V) (σ : List (Option V)), setAllS (σ.map slO) is vs = (setAllO σ is vs).map (·.map slO) := by
 induction is with
 | nil => intro vs σ; cases vs <;> rfl
 | cons i is ih =>
  intro vs σ
  cases vs with
  | nil => rfl
  | cons v vs => exact (congrArg (fun ρ => setAllS ρ is vs) (setS_slO σ i v)).trans (ih vs _)
theorem bindS_slO (pat : List Nat) (V : V) (σ : List (Option Mine.V)) : bindS (σ.map slO) pat V = (bindO σ pat V).map (·.map slO) := by
 have t : ∀ is, tupV V (setAllS (σ.map slO) is) = (tupV V (setAllO σ is)).map (·.map slO) := fun is => by
  cases V <;> first | exact setAllS_slO .. | rfl
 rcases pat with _ | ⟨i, _ | ⟨j, r⟩⟩
 ·exact t _
 ·exact congrArg some (setS_slO ..)
 ·exact t _
theorem ob_slO (σ : List (Option V)) : (σ.map slO).map (ob1 false) = σ := by
 induction σ with
 | nil => rfl
 | cons x r ih => cases x with
  | none => exact congrArg (List.cons none) ih
  | some v => exact congrArg (List.cons (some v)) ih
theorem getO_rep (own : Nat) : ∀ i, getO (List.replicate own none) i = none := by
 induction own with
 | zero => exact fun _ => rfl
 | succ n ih =>
  intro i
  cases i with
  | zero => rfl
  | succ i => exact ih i
noncomputable def mskB (b : Bool) (x : Option V) : Option V := match b with | true => x | false => none
theorem maskO_c (caps : List Nat) (own b : Nat) (x : Option V) (r : List (Option V)) : maskO caps own b (x :: r) = mskB (hasN caps b) x :: maskO caps own (b + 1) r := by
 show (match hasN caps b with | true => x :: maskO caps own (b + 1) r | false => none :: maskO caps own (b + 1) r) = _
 cases hasN caps b <;> rfl
theorem maskO_get (caps : List Nat) (own : Nat) (σ : List (Option V)) : ∀ (b i : Nat) (V : V), getO (maskO caps own b σ) i = some V → i < σ.length ∧ hasN caps (b + i) = true ∧ getO σ i = some V := by
 induction σ with
 | nil => intro b i V h; cases (getO_rep own i).symm.trans h
 | cons x r ih =>
  intro b i V h
  rw [maskO_c] at h
  cases i with
  | zero =>
   cases q : hasN caps b with
   | true => rw [q] at h; exact ⟨Nat.succ_pos _, rfl, h⟩
   | false => rw [q] at h; cases h
  | succ i => have ⟨h1, h2, h3⟩ := ih (b + 1) i V h; exact ⟨Nat.succ_lt_succ h1, Nat.add_right_comm b 1 i ▸ h2, h3⟩
theorem maskO_len (caps : List Nat) (own : Nat) (σ : List (Option V)) : ∀ b : Nat, (maskO caps own b σ).length = σ.length + own := by
 induction σ with
 | nil => exact fun _ => (List.length_replicate ..).trans (Nat.zero_add own).symm
 | cons x r ih => intro b; rw [maskO_c]; exact (congrArg (· + 1) (ih _)).trans (Nat.add_right_comm ..).symm
theorem hasN_mem {l : List Nat} {i : Nat} : hasN l i = true → i ∈ l := by
 induction l with
 | nil => exact fun h => nft h
 | cons a r ih =>
  show (match Nat.beq a i with | true => true | false => hasN r i) = true → _
  cases q : Nat.beq a i with
  | true => exact fun _ => Nat.eq_of_beq_eq_true q ▸ List.mem_cons_self ..
  | false => exact fun h => .tail _ (ih h)
theorem lookup_map2 (g : Str → NameKind → NameKind) (x : Str) (names : List (Str × NameKind)) : (names.map fun (n, k) => (n, g n k)).lookup x = (names.lookup x).map (g x) := by
 induction names with
 | nil => rfl
 | cons p r ih =>
  show (match x == p.1 with | true => some (g p.1 p.2) | false => (r.map fun (n, k) => (n, g n k)).lookup x) = (match x == p.1 with | true => some p.2 | false => r.lookup x).map (g x)
  cases q : x == p.1 with
  | true => rw [eq_of_beq q]; rfl
  | false => exact ih
theorem relabel_look (scope : Scope) (env : Env) (x : Str) : (relabel scope env).names.lookup x = (scope.names.lookup x).map fun k => if (k == .free && env.scope.kind == .function && env.kindOf x == some .cell) = true then .cell else k := by
 have e : (relabel scope env).names = scope.names.map fun (n, k) => (n, (fun n k => if (k == .free && env.scope.kind == .function && env.kindOf n == some .cell) = true then NameKind.cell else k) n k) := by
  show (scope.names.map _) = _
  congr 1
  funext ⟨n, k⟩
  dsimp only
  split <;> rfl
 rw [e]
 exact lookup_map2 (fun n k => if (k == NameKind.free && env.scope.kind == .function && env.kindOf n == some .cell) = true then NameKind.cell else k) x scope.names
theorem lookup_mem {α β : Type} [BEq α] [LawfulBEq α] {x : α} {v : β} {l : List (α × β)} : l.lookup x = some v → (x, v) ∈ l := by
 induction l with
 | nil => exact fun h => nsm h
 | cons p r ih =>
  show (match x == p.1 with | true => some p.2 | false => r.lookup x) = some v → _
  cases q : x == p.1 with
  | true => exact fun h => Option.some.inj h ▸ eq_of_beq q ▸ List.mem_cons_self ..
  | false => exact fun h => .tail _ (ih h)
theorem inL_get {y : Str} {r : List Str} : ∀ k : Nat, r[k]? = some y → inL y r = true := by
 induction r with
 | nil => exact fun _ h => nsm h
 | cons z r ih =>
  intro k e
  cases k with
  | zero => cases e; show (y == y || inL y r) = true; rw [beq_self_eq_true]; rfl
  | succ k => show (y == z || inL y r) = true; rw [ih k e]; exact Bool.or_true _
theorem nodupL_inj {l : List Str} : nodupL l = true → ∀ (i j : Nat) (x : Str), l[i]? = some x → l[j]? = some x → i = j := by
 induction l with
 | nil => exact fun _ _ _ _ h => nsm h
 | cons y r ih =>
  intro h i j x h1 h2
  obtain ⟨h3, h4⟩ := Bool.and_eq_true_iff.mp (show (!inL y r && nodupL r) = true from h)
  have hn : ∀ k : Nat, r[k]? ≠ some y := fun k e => by rw [inL_get k e] at h3; cases h3
  cases i with
  | zero => cases j with
   | zero => rfl
   | succ j => cases h1; exact (hn j h2).elim
  | succ i => cases j with
   | zero => cases h2; exact (hn i h1).elim
   | succ j => exact congrArg (· + 1) (ih h4 i j x h1 h2)
theorem nameOf_eq {nm : List Str} : ∀ {i : Nat} {x : Str}, nm[i]? = some x → nameOf nm i = x := by
 induction nm with
 | nil => exact fun h => nsm h
 | cons y r ih =>
  intro i x h
  cases i with
  | zero => exact Option.some.inj h
  | succ i => exact ih h
theorem isLoc_eq {o : Option NameKind} (h : isLoc o = true) : o = some .local := by
 rcases o with _ | (_ | _) <;> first | rfl | cases h
theorem isCell_eq {o : Option NameKind} (h : isCell o = true) : o = some .cell := by
 rcases o with _ | (_ | _) <;> first | rfl | cases h
theorem isFree_eq {o : Option NameKind} (h : isFree o = true) : o = some .free := by
 rcases o with _ | (_ | _) <;> first | rfl | cases h
structure ScopeOk (sc sc' : Scope) (nm : List Str) (caps : List Nat) (own : List Str) : Prop where
 k : sc'.kind = .function
 nd : nodupL own = true
 own : ∀ x ∈ own, sc'.names.lookup x = some .local
 caps : ∀ i ∈ caps, isCell (sc.names.lookup (nameOf nm i)) = true ∧ sc'.names.lookup (nameOf nm i) = some .free
 loc : ∀ x ∈ sc'.names, x.2 = .local → sc'.names.lookup x.1 = some .local
 cell : ∀ x ∈ sc'.names, x.2 ≠ .cell
 free : ∀ x ∈ sc'.names, (x.2 == NameKind.free) = true → isCell (sc.names.lookup x.1) = true
theorem chkScope_ok {sc sc' : Scope} {nm : List Str} {caps : List Nat} {own : List Str} (h : chkScope sc sc' nm caps own = true) : ScopeOk sc sc' nm caps own := by
 obtain ⟨h, h6⟩ := (Bool.and_eq_true_iff.mp (show (_ && List.all ..) = true from h))
 obtain ⟨h, h5⟩ := (Bool.and_eq_true_iff.mp h)
 obtain ⟨h, h4⟩ := (Bool.and_eq_true_iff.mp h)
 obtain ⟨h, h3⟩ := (Bool.and_eq_true_iff.mp h)
 obtain ⟨h1, _⟩ := (Bool.and_eq_true_iff.mp h)
 have h5 := fun i hi => Bool.and_eq_true_iff.mp (List.all_eq_true.mp h5 i hi)
 have h6 := List.all_eq_true.mp h6
 refine ⟨eq_of_beq h1, h3, fun x hx => isLoc_eq (List.all_eq_true.mp h4 x hx), fun i hi => ⟨(h5 i hi).1, isFree_eq (h5 i hi).2⟩, fun x hx e => ?_, fun x hx e => ?_, fun x hx e => ?_⟩
 ·haveI := h6 x hx; rw [e] at this; exact isLoc_eq this
 ·haveI := h6 x hx; rw [e] at this; cases this
 ·haveI := h6 x hx; rw [eq_of_beq e] at this; exact this
section
variable {n : Nat} {T : Tab}
theorem get_app {nm own : List Str} {i : Nat} {x : Str} (h : (nm ++ own)[i]? = some x) : (i < nm.length ∧ nm[i]? = some x) ∨ (nm.length ≤ i ∧ own[i - nm.length]? = some x) := by
 by_cases q : i < nm.length
 ·rw [List.getElem?_append_left q] at h; exact .inl ⟨q, h⟩
 ·rw [List.getElem?_append_right (by omega)] at h; exact .inr ⟨by omega, h⟩
theorem comp_fs {sc sc' : Scope} {nm : List Str} {caps : List Nat} {own : List Str} {env : Env} {cl : List (Str × Addr)} {Ca : Addr} (SO : ScopeOk sc sc' nm caps own) (so : ScOk sc env) (e : EnvOk env) (h2 : ∀ y c, cl.lookup y = some c → env.cells.lookup y = some c)
  (h3 : ∀ x ∈ sc'.names, (x.2 == NameKind.free) = true → ∃ c, cl.lookup x.1 = some c) :
  FS (compEnvC sc' cl Ca env) (nm ++ own) (fun i => Nat.ble nm.length i) ∧ ScOk sc' (compEnvC sc' cl Ca env) := by
 haveI kd : ∀ x, (compEnvC sc' cl Ca env).kindOf x = (sc'.names.lookup x).map fun k => if (k == .free && env.scope.kind == .function && env.kindOf x == some .cell) = true then .cell else k := fun x => relabel_look sc' env x
 refine ⟨⟨⟨SO.k, e.glob, e.blt, fun y h => ?_, fun x y c a b => e.apart x y c (h2 x c a) (h2 y c b)⟩, fun i x hs hx => ?_, fun i j x hi hj h1 h2 => ?_, ?_⟩, ⟨fun x h => ?_, fun x h => ?_⟩⟩
 ·rw [kd] at h
  obtain ⟨k, hk, hv⟩ := (Option.map_eq_some_iff.mp h)
  haveI hm := lookup_mem hk
  split at hv
  ·rename_i hc
   simp only [Bool.and_eq_true] at hc
   exact h3 _ hm hc.1.1
  ·exact absurd hv (SO.cell _ hm)
 ·rcases get_app hx with ⟨q, _⟩ | ⟨_, h⟩
  ·exact absurd (Nat.le_of_ble_eq_true hs) (Nat.not_le.mpr q)
  ·left
   rw [kd, SO.own x (List.mem_of_getElem? h)]
   rfl
 ·rcases get_app h1 with ⟨q, _⟩ | ⟨q1, e1⟩
  ·exact absurd (Nat.le_of_ble_eq_true hi) (Nat.not_le.mpr q)
  ·rcases get_app h2 with ⟨q, _⟩ | ⟨q2, e2⟩
   ·exact absurd (Nat.le_of_ble_eq_true hj) (Nat.not_le.mpr q)
   ·haveI := nodupL_inj SO.nd _ _ _ e1 e2
    omega
 ·show (sc'.kind == .class || (sc'.kind == .module && _)) = false
  rw [SO.k]; rfl
 ·unfold glob at h
  split at h
  ·rename_i e
   rw [kd, e]; rfl
  ·cases h
 ·exact absurd rfl (SO.cell (x, .cell) (lookup_mem (isCell_eq h)))
theorem lc6 {n i : Nat} (h : i < n) : n + 1 - (i + 1) < n + 1 - i := Nat.sub_lt_sub_left (Nat.lt_succ_of_lt h) (Nat.lt_succ_self i)
theorem comp_core {caps : List Nat} {own : List Str} {pat : List Nat} {it cond elt : IE} (hi : PI prog w K mg mb n T it) (hcd : PC prog w K mg mb n T cond) (he : PE prog w K mg mb n T elt)
  {A : Around} {env : Env} {sc : Scope} {nm : List Str} {Z : ZM} {σ : List (Option V)} {s : Shared} (C : Cx K mg mb n A env sc nm Z σ s) {elt' target iter : Expr} {ifs : List Expr} {sc' : Scope} {pos p0 : Pos} {use : Option (Value → Sem Unit)} {Q E : Value → Shared → Prop}
  (hp : plainE iter = true) (SO : ScopeOk sc sc' nm caps own) (hm : ttOf it = true → multi pat = true) (hpat : ∀ i ∈ pat, Nat.ble nm.length i = true) (hct : chkPat (nm ++ own) pat target = true) (hcit : chkE sc nm it iter = true) (hce : chkE sc' (nm ++ own) elt elt' = true)
  (hifs : (ifs = [] ∧ isNo cond = true) ∨ ∃ c, ifs = [c] ∧ isNo cond = false ∧ chkE sc' (nm ++ own) cond c = true) {kl : List V → Prop}
  (h : wI T it σ fun items => okL items (match capsOk σ caps with
   | true => evL (maskO caps own.length 0 σ) fun ρ'' => compF pat (isNo cond) (fun ρ' k' => wC T cond ρ' k') (fun ρ' k' => wE T elt ρ' k') items ρ'' kl
   | false => False))
  (fin : ∀ (D Ca : Addr) (vs : List Value) (c : Nat) (xs : List V) (Z' : ZM) (s' : Shared) (m : Str → Option Value), Grow Z s Z' s' → Z' D = none → s.heap.get? D = none → s'.heap.get? D = some (listOf vs.toArray c) → Z' Ca = none → s.heap.get? Ca = none → Ca ≠ D →
   s'.heap.Ns Ca m → RepL Z' vs xs → xs.length ≤ 64 → kl xs → compPost (model prog w) A E use Q (.ref D) Ca (.ok .next) s') :
  wpAny (model prog w) A (comprehension (.ListComp elt' [⟨target, iter, ifs, 0⟩] sc' pos) sc' env p0 (newList []) false (eval iter env) use) Q E s := by
 obtain ⟨cl, hclos, h2, h3⟩ := closure_of (env := env) (scope := sc') fun x hx hk => C.e.cells x.1 (C.so.cell x.1 (SO.free x hx hk))
 refine wpAny_comprehension_free rfl (fun x => by cases iter <;> first | rfl | cases hp) hclos SO.k SO.loc (wpAny_mono (hi _ _ _ _ _ _ _ _ _ _ C hcit h) (fun x s₁ h₁ => wpAny_mono h₁ (fun it' s₂ hsrc => ?_) fun J J e => e) fun J J e => e)
 obtain ⟨tt, I, wr, items, Z1, St, rfl, htt, g1, ok, st0, hwr, hk⟩ := hsrc
 obtain ⟨hlen, hk⟩ := (okL_iff hk)
 split at hk
 case h_2 => exact hk.elim
 replace hk := evL_o hk
 refine wpAny_newObj_type (wpAny_newFunctionEnv SO.cell (by intro y hy; simp at hy) (fun h₁ hns₁ hsb₁ => ?_) SO.k)
 dsimp only at hns₁ hsb₁ ⊢
 generalize hH2 : s₂.heap.push { cls := .type "list", dict := none, data := .seq ([] : List Value).toArray } = H2 at hns₁ hsb₁ ⊢
 have hC : H2.objs.size = s₂.heap.objs.size + 1 := by rw [← hH2, Heap.size_push]
 have hDC : s₂.heap.objs.size ≠ H2.objs.size := by rw [hC]; exact Nat.ne_of_lt (Nat.lt_succ_self _)
 haveI below : ∀ b, b < s₂.heap.objs.size → b ≠ H2.objs.size := fun b hb => by rw [hC]; exact Nat.ne_of_lt (Nat.lt_succ_of_lt hb)
 have old : ∀ b o, s₂.heap.get? b = some o → h₁.get? b = some o := fun b o e => hsb₁.extBut b o (below b (Heap.lt_size e)) (Heap.get?_push_of_some _ (hH2 ▸ Heap.get?_push_of_some _ e))
 have hacc : h₁.get? s₂.heap.objs.size = some (listOf ([] : List Value).toArray 0) := hsb₁.extBut _ _ hDC (Heap.get?_push_of_some _ (hH2 ▸ Heap.get?_push_size _ rfl))
 have ND := none_at (Z := Z1) g1.sub (b := s₂.heap.objs.size) (Nat.le_refl _)
 have NC := none_at (Z := Z1) g1.sub (b := H2.objs.size) (by rw [hC]; exact Nat.le_succ _)
 have n0 : ∀ b, s₂.heap.get? b = none → s.heap.get? b = none := fun b e => by
  exact g1.keep.none e
 have wlive : ∀ b ∈ wr, ∃ o, s₂.heap.get? b = some o := fun b hb => ok.live 0 _ st0 b hb
 have hDw : s₂.heap.objs.size ∉ wr := fun hb => by obtain ⟨o, e⟩ := (wlive _ hb); rw [ND.2] at e; cases e
 have hCw : H2.objs.size ∉ wr := fun hb => by obtain ⟨o, e⟩ := (wlive _ hb); rw [NC.2] at e; cases e
 obtain ⟨S, so'⟩ := comp_fs (Ca := H2.objs.size) SO C.so C.e h2 h3
 have F0 : Fm K mg mb s Z (compEnvC sc' cl H2.objs.size env) (nm ++ own) (fun i => Nat.ble nm.length i) (s₂.heap.objs.size :: wr) Z1 ((maskO caps own.length 0 σ).map slO) (fun J => 0)
   { s₂ with heap := h₁, toks := s₂.toks + ([] : List (Str × Value)).length } := by
  refine ⟨C.f.gd, ⟨.inl C.f.fr, C.f.zt⟩, ⟨fun b o e => (g1.keep b o e).elim fun o' p => ⟨o', old b o' p.1, p.2⟩, g1.le, fun b o e => old b o (g1.sub b o e), g1.fresh, g1.bare, g1.os⟩, ⟨_, hns₁⟩, ⟨n0 _ NC.2, NC.1, fun hb => ?_⟩, fun i x hs hx hk' => ?_, fun x c hc => ?_, fun i j x hx hy hs hij => ?_, fun b hb => ?_, ?_, fun i x V hx hv => ?_, fun i x xs hx hv => ?_, fun i j xs ys hx => ?_⟩
  ·rcases List.mem_cons.mp hb with h | h
   ·exact hDC h.symm
   ·exact hCw h
  ·rcases S.kind i x hs hx with q | q
   ·rw [hk'] at q; cases q
   ·rcases get_app hx with ⟨q1, _⟩ | ⟨_, h⟩
    ·exact absurd (Nat.le_of_ble_eq_true hs) (Nat.not_le.mpr q1)
    ·have : (compEnvC sc' cl H2.objs.size env).kindOf x = some .local := by
      show (relabel sc' env).names.lookup x = _
      rw [relabel_look, SO.own x (List.mem_of_getElem? h)]; rfl
     rw [this] at q; cases q
  ·obtain ⟨v, o, e, hd⟩ := C.f.cells x c (h2 x c hc)
   have e2 := g1.keep.at e (by rw [hd]; rfl)
   refine ⟨fun hb => ?_, v, o, old c o e2, hd⟩
   rcases List.mem_cons.mp hb with h | h
   ·rw [h, ND.2] at e2; cases e2
   ·rw [(hwr c h).2] at e; cases e
  ·haveI hs := Nat.le_of_ble_eq_true hs
   rw [getS_slO]
   cases q : getO (maskO caps own.length 0 σ) i with
   | none => rfl
   | some V =>
    exfalso
    obtain ⟨q1, q2, q3⟩ := (maskO_get _ _ _ _ _ _ q)
    rw [Nat.zero_add] at q2
    rw [C.f.len] at q1
    rcases get_app hx with ⟨_, e1⟩ | ⟨q4, _⟩
    ·rcases get_app hy with ⟨q5, _⟩ | ⟨_, e2⟩
     ·omega
     ·have a1 := (SO.caps i (hasN_mem q2)).2
      rw [nameOf_eq e1] at a1
      rw [SO.own x (List.mem_of_getElem? e2)] at a1
      cases a1
    ·omega
  ·rcases List.mem_cons.mp hb with h | h
   ·rw [h]; exact ⟨ND.1, n0 _ ND.2, _, hacc⟩
   ·obtain ⟨o, e⟩ := (wlive b h)
    exact ⟨(hwr b h).1, (hwr b h).2, o, old b o e⟩
  ·rw [List.length_map, maskO_len, C.f.len, List.length_append]
  ·rw [getS_slO] at hv
   cases q : getO (maskO caps own.length 0 σ) i with
   | none => rw [q] at hv; cases hv
   | some V' =>
    rw [q] at hv; cases hv
    obtain ⟨q1, q2, q3⟩ := (maskO_get _ _ _ _ _ _ q)
    rw [Nat.zero_add] at q2
    rw [C.f.len] at q1
    rcases get_app hx with ⟨_, e1⟩ | ⟨q4, _⟩
    ·obtain ⟨v, ha, hr⟩ := (C.f.vars i x V q3 e1)
     refine ⟨v, ?_, hr.mono g1.le⟩
     obtain ⟨a1, a2⟩ := SO.caps i (hasN_mem q2)
     rw [nameOf_eq e1] at a1 a2
     have hk' := C.so.cell x a1
     rcases ha with ⟨b1, _⟩ | ⟨b1, c, b2, o, b3, b4⟩
     ·rw [hk'] at b1; cases b1
     ·obtain ⟨c', hc'⟩ := h3 (x, .free) (lookup_mem a2) rfl
      have := h2 x c' hc'
      rw [b2] at this; cases this
      refine .inr ⟨?_, c, hc', o, old c o (g1.keep.at b3 (by rw [b4]; rfl)), b4⟩
      show (relabel sc' env).names.lookup x = _
      rw [relabel_look, a2]
      show some (if (NameKind.free == .free && env.scope.kind == .function && env.kindOf x == some .cell) = true then NameKind.cell else .free) = _
      rw [C.e.kind, hk']
      rfl
    ·omega
  ·rw [getS_slO] at hv
   cases q : getO (maskO caps own.length 0 σ) i with
   | none => rw [q] at hv; cases hv
   | some V' => rw [q] at hv; cases hv
  ·rw [getS_slO] at hx
   cases q : getO (maskO caps own.length 0 σ) i with
   | none => rw [q] at hx; cases hx
   | some V' => rw [q] at hx; cases hx
 haveI loop : ∀ s₃ : Shared, s₃ = { s₂ with heap := h₁, toks := s₂.toks + ([] : List (Str × Value)).length } →
   codeAny (model prog w) A (.compLoop (.ListComp elt' [⟨target, iter, ifs, 0⟩] sc' pos) 0 (.ref I) (.ref s₂.heap.objs.size) (compEnvC sc' cl H2.objs.size env))
    (compPost (model prog w) A E use Q (.ref s₂.heap.objs.size) H2.objs.size) s₃ := by
  rintro s₃ rfl
  haveI stF : ∀ {i : Nat} {Zi : ZM} {ρi : List Slot} {s' s'' : Shared}, ZLe Z1 Zi → Fm K mg mb s Z (compEnvC sc' cl H2.objs.size env) (nm ++ own) (fun i => Nat.ble nm.length i) (s₂.heap.objs.size :: wr) Zi ρi (fun J => 0) s'' →
    KeepR (s₂.heap.objs.size :: wr) s' s'' → St i s'.heap → St i s''.heap := fun hle F k st => ok.frame _ _ _ st (fun b hb o e => k b (.tail _ hb) o e) fun b o e => F.gr.sub b o (hle b o e)
  obtain ⟨I₀, hI⟩ : ∃ I₀ : Nat → Shared → Prop, I₀ = fun k s' => ∃ (i : Nat) (Zi : ZM) (σi : List (Option V)) (ys : List Value) (c : Nat) (xs : List V), k = items.length + 1 - i ∧ i ≤ items.length ∧ ZLe Z1 Zi ∧
    Fm K mg mb s Z (compEnvC sc' cl H2.objs.size env) (nm ++ own) (fun i => Nat.ble nm.length i) (s₂.heap.objs.size :: wr) Zi (σi.map slO) (fun J => 0) s' ∧ St i s'.heap ∧
    s'.heap.get? s₂.heap.objs.size = some (listOf ys.toArray c) ∧ RepL Zi ys xs ∧ xs.length ≤ i ∧
    compF pat (isNo cond) (fun ρ' k' => wC T cond ρ' k') (fun ρ' k' => wE T elt ρ' k') (items.drop i) σi (fun r => kl (xs ++ r)) := ⟨_, rfl⟩
  refine compLoop_any I₀ ?_ (items.length + 1) (by
   rw [hI]
   exact ⟨0, Z1, _, [], 0, [], rfl, Nat.zero_le _, .refl _, F0, ok.frame 0 _ _ st0 (fun b hb o e => old b o e) (fun b o e => old b o (g1.sub b o e)), hacc, .nil, Nat.le_refl _, by simpa using hk⟩)
  intro E' k s' hs
  rw [hI] at hs
  obtain ⟨i, Zi, σi, ys, c, xs, rfl, hil, hle, F, st, hD, hr, hxl, hk⟩ := (hs)
  have wz : ∀ b ∈ wr, Zi b = none := fun b hb => (F.res b (.tail _ hb)).1
  by_cases hlt : i < items.length
  ·right
   rw [List.drop_eq_getElem_cons hlt] at hk
   unfold compF at hk
   cases hb : bindO σi pat items[i] with
   | none => rw [hb] at hk; exact hk.elim
   | some σ' =>
    rw [hb] at hk
    replace hk := evL_o (l := σ') hk
    haveI hb' : bindS (σi.map slO) pat items[i] = some (σ'.map slO) := by rw [bindS_slO, hb]; rfl
    refine ok.turn i items[i] s' Zi _ _ target (List.getElem?_eq_getElem hlt) (pat_tgt hct hb' fun q => hm (htt q)) st hle F.gr.sub wz fun u Z2 h' tk le2 r2 sub2 fresh2 st2 keep2 => ?_
    haveI hle2 := hle.trans le2
    haveI F2 := F.step (s' := { s' with heap := h', toks := tk }) (fun b o hb e => ⟨o, keep2 b o (fun q => hb (.tail _ q)) e, .inl rfl⟩) (fun b hb => by
     rcases List.mem_cons.mp hb with h | h
     ·rw [h]; exact ⟨_, keep2 _ _ hDw hD⟩
     ·exact ok.live _ _ st2 b h) le2 sub2 fresh2 id rfl
    haveI hD2 : h'.get? s₂.heap.objs.size = some (listOf ys.toArray c) := keep2 _ _ hDw hD
    refine F2.pat S C.hh hct hpat r2 hb' fun s3 F3 k3 => ?_
    haveI st3 := stF hle2 F3 k3 st2
    have hD3 := k3 _ (List.mem_cons_self ..) _ hD2
    have C3 := F3.cx0 (A := A) (n := n) S C.a so'
    rw [ob_slO] at C3
    have body : ∀ {Z4 : ZM} {s4 : Shared}, Grow Z2 s3 Z4 s4 → wE T elt σ' (fun x => compF pat (isNo cond) (fun ρ' k' => wC T cond ρ' k') (fun ρ' k' => wE T elt ρ' k') (items.drop (i + 1)) σ' (fun r => kl (xs ++ x :: r))) →
      wpAny (model prog w) A (eval elt' (compEnvC sc' cl H2.objs.size env)) (fun x s₄ =>
       wpAny (model prog w) A (call (.builtin "list.append") [.ref s₂.heap.objs.size, x]) (fun J s₅ => ∃ m, m < items.length + 1 - i ∧ I₀ m s₅) E' s₄) E' s4 := by
     intro Z4 s4 g4 hw
     have F4 := F3.grow g4
     haveI C4 := C3.grow g4
     refine he _ _ _ _ _ _ _ _ _ _ _ C4 hce hw fun x X Z5 s5 g5 r5 hk5 => ?_
     haveI F5 := F4.grow g5
     haveI hD5 := g5.keep.lst (g4.keep.lst hD3)
     haveI hrl := ((hr.mono le2).mono g4.le).mono g5.le
     refine append_at (its := ys.toArray) (n := c) hD5 (fun h6 hs6 hD6 => ?_) (by rw [List.size_toArray, hrl.length]; exact Nat.le_trans (Nat.le_trans hxl hil) (Nat.le_trans hlen small64))
     haveI keep6 : ∀ b o, b ≠ s₂.heap.objs.size → s5.heap.get? b = some o → h6.get? b = some o := fun b o hb e => hs6.extBut b o hb e
     have F6 := F5.step (s' := { s5 with heap := h6 }) (Z' := Z5) (fun b o hb e => ⟨o, keep6 b o (fun q => hb (q ▸ List.mem_cons_self ..)) e, .inl rfl⟩) (fun b hb => by
      by_cases q : b = s₂.heap.objs.size
      ·rw [q]; exact ⟨_, hD6⟩
      ·obtain ⟨_, _, o, e⟩ := (F5.res b hb)
       exact ⟨o, keep6 b o q e⟩) (.refl _) (fun b o e => keep6 b o (off ((F5.res _ (List.mem_cons_self ..)).1) e) (F5.gr.sub b o e)) (fun J J e => .inl e) id rfl
     haveI hle5 := (hle2.trans g4.le).trans g5.le
     rw [hI]
     refine ⟨items.length + 1 - (i + 1), lc6 hlt, i + 1, Z5, σ', ys ++ [x], c + 1, xs ++ [X], rfl, hlt, hle5, F6, ?_, ?_, hrl.append (.cons r5 .nil), by simp; exact hxl, ?_⟩
     ·haveI st5 : St (i + 1) s5.heap := stF hle5 F5 (fun b hb o e => g5.keep.atT (g4.keep.atT e (F3.resT b hb)) (F3.resT b hb)) st3
      exact ok.frame _ _ _ st5 (fun b hb o e => keep6 b o (fun q => hDw (q ▸ hb)) e) fun b o e => F6.gr.sub b o (hle5 b o e)
     ·rw [hD6]
      show some (listOf (ys.toArray.push x) (c + 1)) = _
      rw [List.push_toArray]
     ·haveI e : (fun r => kl (xs ++ [X] ++ r)) = fun r => kl (xs ++ X :: r) := by funext r; simp
      rw [e]; exact hk5
    rcases hifs with ⟨rfl, hno⟩ | ⟨c', rfl, hno, hcc⟩
    ·rw [hno] at hk
     refine wpAny_tests_nil ?_
     simp only [if_true]
     exact body (Grow.refl F3.gr.sub) (by rw [hno]; exact hk)
    ·rw [hno] at hk
     refine wpAny_tests_one (hcd _ _ _ _ _ _ _ _ _ _ _ C3 hcc hk fun b Z4 s4 g4 hb4 => ?_)
     cases b with
     | true =>
      simp only [if_true]
      exact body g4 (by rw [hno]; exact hb4)
     | false =>
      simp only [Bool.false_eq_true, if_false]
      have F4 := F3.grow g4
      rw [hI]
      refine ⟨items.length + 1 - (i + 1), lc6 hlt, i + 1, Z4, σ', ys, c, xs, rfl, hlt, hle2.trans g4.le, F4, stF (hle2.trans g4.le) F4 (fun b hb o e => g4.keep.atT e (F3.resT b hb)) st3, g4.keep.lst hD3, (hr.mono le2).mono g4.le, by omega, by rw [hno]; exact hb4⟩
  ·left
   obtain rfl : i = items.length := Nat.le_antisymm hil (Nat.not_lt.mp hlt)
   rw [List.drop_eq_nil_of_le (Nat.le_refl _)] at hk
   unfold compF at hk
   rw [List.append_nil] at hk
   refine ok.done s' _ _ st fun h' tk keep => ⟨rfl, ?_⟩
   obtain ⟨m, hm'⟩ := F.loc
   haveI e1 : h'.get? s₂.heap.objs.size = some (listOf ys.toArray c) := keep _ _ hDw hD
   have e2 : h'.Ns H2.objs.size m := hm'.at' fun o e => keep _ o hCw e
   haveI g : Grow Z s Zi { s' with heap := h', toks := tk } := ⟨fun b o e => (F.gr.keep b o e).elim fun o' p => ⟨o', keep b o' (fun q => by rw [(hwr b q).2] at e; cases e) p.1, p.2⟩, F.gr.le, fun b o e => keep b o (fun q => by rw [wz b q] at e; cases e) (F.gr.sub b o e), F.gr.fresh, F.gr.bare, F.gr.os⟩
   exact fin s₂.heap.objs.size H2.objs.size ys c xs Zi _ m g (F.res _ (List.mem_cons_self ..)).1 (n0 _ ND.2) e1 F.loc0.2.1 F.loc0.1 (Ne.symm hDC) e2 hr (Nat.le_trans hxl hlen) hk
 exact codeAny_compStart_list (loop _ rfl) (ok.self 0 _ _ _ (ok.frame 0 _ _ st0 (fun b hb o e => old b o e) (fun b o e => old b o (g1.sub b o e))) (loop _ rfl))
end
section
variable {n : Nat} {T : Tab}
theorem chk_comp {sc : Scope} {nm : List Str} {caps : List Nat} {own : List Str} {pat : List Nat} {it cond elt : IE} {e : Expr} (h : chkE sc nm (.comp caps own pat it cond elt) e = true) :
  ∃ elt' target iter ifs sc' pos, e = .ListComp elt' [⟨target, iter, ifs, 0⟩] sc' pos ∧ plainE iter = true ∧ ScopeOk sc sc' nm caps own ∧ (ttOf it = true → multi pat = true) ∧ (∀ i ∈ pat, Nat.ble nm.length i = true) ∧ chkPat (nm ++ own) pat target = true ∧ chkE sc nm it iter = true ∧
   chkE sc' (nm ++ own) elt elt' = true ∧ ((ifs = [] ∧ isNo cond = true) ∨ ∃ c, ifs = [c] ∧ isNo cond = false ∧ chkE sc' (nm ++ own) cond c = true) := by
 refine onLC_e h fun elt' gs sc' pos h => onGen_e h fun target iter ifs h => an8 h fun h1 h2 h3 h4 h5 h6 h7 h8 => ?_
 refine ⟨_, _, _, _, _, _, rfl, h1, chkScope_ok h2, fun q => ?_, List.all_eq_true.mp h4, h5, h6, h7, ?_⟩
 ·rw [q] at h3; exact h3
 ·rcases ifs with _ | ⟨c, _ | ⟨d, l⟩⟩
  ·exact .inl ⟨rfl, h8⟩
  ·exact an2 h8 fun h8 h9 => .inr ⟨_, rfl, not_e h8, h9⟩
  ·exact (Bool.false_ne_true h8).elim
theorem fin_grow {Z Z' : ZM} {s s' : Shared} {D Ca : Addr} {h' : Heap} {o : Obj} (g : Grow Z s Z' s') (hD : Z' D = none) (hD0 : s.heap.get? D = none) (e : s'.heap.get? D = some o) (hC : Z' Ca = none) (hC0 : s.heap.get? Ca = none) (hne : Ca ≠ D) (hs : Heap.SameBut Ca s'.heap h') :
  Grow Z s (zAdd Z' D o) { s' with heap := h' } := by
 have k : ∀ b x, b ≠ Ca → s'.heap.get? b = some x → h'.get? b = some x := fun b x hb e => hs.extBut b x hb e
 refine ⟨fun b x q => (g.keep b x q).elim fun o' p => ⟨o', k b o' (off hC0 q) p.1, p.2⟩, g.le.trans (zAdd_le hD), fun b x q => ?_, fun b x q => ?_, g.bare, g.os⟩
 ·unfold zAdd at q
  split at q
  ·rename_i z; cases q; rw [z]; exact k D o (Ne.symm hne) e
  ·exact k b x (off hC q) (g.sub b x q)
 ·unfold zAdd at q
  split at q
  ·rename_i z; rw [z]; exact .inr hD0
  ·exact g.fresh b x q
theorem pe_comp {caps : List Nat} {own : List Str} {pat : List Nat} {it cond elt : IE} (hi : PI prog w K mg mb n T it) (hcd : PC prog w K mg mb n T cond) (he : PE prog w K mg mb n T elt) : PE prog w K mg mb n T (.comp caps own pat it cond elt) := by
 intro A env sc nm Z σ s k Q E e C hc h hk
 obtain ⟨elt', target, iter, ifs, sc', pos, rfl, h1, h2, h3, h4, h5, h6, h7, h8⟩ := (chk_comp hc)
 rw [eval_ListComp]
 refine comp_core (use := none) hi hcd he C h1 h2 h3 h4 h5 h6 h7 h8 (kl := fun vs => k (.lst vs)) h fun D Ca vs c xs Z' s' m g hD hD0 eD hC hC0 hne hm r hl hx => ?_
 refine ⟨m, hm, fun h' hs => hk _ _ _ _ (fin_grow g hD hD0 eD hC hC0 hne hs) ?_ hx⟩
 exact .lst (n := c) (zAdd_self ..) hl (r.mono (zAdd_le hD))
end
abbrev EnumO (h : Heap) (e it : Addr) (i : Int) (old : Value) (a : Addr) (f : Bool) : Prop :=
 h.get? e = some { cls := .type "enumerate", dict := none, data := .fields #[rawInt a, .bool f, .ref it, rawInt i, .none, old], slots := #[] }
section
variable {A : Around} {E : Value → Shared → Prop} {s : Shared}
theorem enumO_next {e it l a : Addr} {f : Bool} {oa : Obj} {i : Nat} {items : Array Value} {old x : Value} {Q : Option Value → Shared → Prop} (he : EnumO s.heap e it i old a f) (ha : s.heap.get? a = some oa) (hae : a ≠ e) (hai : a ≠ it) (hei : e ≠ it) (hle : l ≠ e) (hli : l ≠ it)
  (hit : s.heap.IsTupleIter it l i) (ht : s.heap.IsTuple l items) (hx : items[i]? = some x)
  (hQ : ∀ h' tk, EnumO h' e it ((i : Int) + 1) old a true → h'.IsTupleIter it l (i + 1) → h'.get? s.heap.objs.size = some { cls := .type "tuple", data := .seq #[.int i tk, x] } →
   (∀ b o, b ≠ e → b ≠ it → s.heap.get? b = some o → h'.get? b = some o) → Q (some (.ref s.heap.objs.size)) { s with heap := h', toks := tk + 1 }) :
  wpAny (model prog w) A (pyNext (.ref e)) Q E s := by
 obtain ⟨hp, g, d, tk, os⟩ := s
 haveI hT : Shared.TypeIs ⟨hp, g, d, tk, os⟩ (.ref e) "enumerate" := ⟨_, he, rfl⟩
 unfold pyNext
 refine wpAny_bind (wpAny_attempt (wpAny_callSpecial?_slot (name := Str.ofString "__next__") hT F.slot_enumerate_next
  (wpAny_call_entry F.slot_enumerate_next hT F.entry_enumerate_next ?_ (F.args_enumerate_next_1 _))))
 show wpAny _ _ (field (.ref e) 2 >>= _) _ _ _
 refine wpAny_bind (wpAny_field he rfl (x := .ref it) rfl ?_)
 refine wpAny_bind (nextOf_tuple_item hit ht hx fun h₁ hit₁ hs₁ => ?_)
 replace hs₁ : Heap.SameBut it hp h₁ := hs₁
 have he₁ : EnumO h₁ e it i old a f := (hs₁.2 e hei).trans he
 show wpAny _ _ (field (.ref e) 3 >>= _) _ _ ⟨h₁, g, d, tk, os⟩
 refine wpAny_bind (wpAny_field he₁ rfl (x := rawInt i) rfl ?_)
 show wpAny _ _ (field (.ref e) 4 >>= _) _ _ ⟨h₁, g, d, tk, os⟩
 refine wpAny_bind (wpAny_field he₁ rfl (x := .none) rfl ?_)
 show wpAny _ _ (mkInt i >>= _) _ _ ⟨h₁, g, d, tk, os⟩
 refine wpAny_bind (wpAny_mkInt ?_)
 show wpAny _ _ (setField (.ref e) 3 (rawInt ((i : Int) + 1)) >>= _) _ _ ⟨h₁, g, d, tk + 1, os⟩
 refine wpAny_bind (wpAny_setField_rec he₁ (by simp) fun h₂ he₂ hs₂ => ?_)
 replace hs₂ : Heap.SameBut e h₁ h₂ := hs₂
 replace he₂ : EnumO h₂ e it ((i : Int) + 1) old a f := he₂
 show wpAny _ _ (setField (.ref e) 4 .none >>= _) _ _ ⟨h₂, g, d, tk + 1, os⟩
 refine wpAny_bind (wpAny_setField_rec he₂ (by simp) fun h₃ he₃ hs₃ => ?_)
 replace hs₃ : Heap.SameBut e h₂ h₃ := hs₃
 replace he₃ : EnumO h₃ e it ((i : Int) + 1) old a f := he₃
 show wpAny _ _ (newTuple [.int i tk, x] >>= _) _ _ ⟨h₃, g, d, tk + 1, os⟩
 refine wpAny_bind (wpAny_newTuple ?_)
 haveI he₄ : EnumO (h₃.push { cls := .type "tuple", data := .seq #[.int i tk, x] }) e it ((i : Int) + 1) old a f := Heap.get?_push_of_some _ he₃
 haveI ha₄ : (h₃.push { cls := .type "tuple", data := .seq #[.int i tk, x] }).get? a = some oa := Heap.get?_push_of_some _ (hs₃.extBut _ _ hae (hs₂.extBut _ _ hae (hs₁.extBut _ _ hai ha)))
 have hsz : h₃.objs.size = hp.objs.size := by rw [hs₃.1, hs₂.1, hs₁.1]
 haveI ht₄ : (h₃.push { cls := .type "tuple", data := .seq #[.int i tk, x] }).get? hp.objs.size = some { cls := .type "tuple", data := .seq #[.int i tk, x] } := by rw [← hsz]; exact Heap.get?_push_size _ rfl
 haveI hit₄ : (h₃.push { cls := .type "tuple", data := .seq #[.int i tk, x] }).IsTupleIter it l (i + 1) := hit₁.at fun o q => Heap.get?_push_of_some _ (hs₃.extBut _ _ (Ne.symm hei) (hs₂.extBut _ _ (Ne.symm hei) q))
 haveI hk₄ : ∀ b o, b ≠ e → b ≠ it → hp.get? b = some o → (h₃.push { cls := .type "tuple", data := .seq #[.int i tk, x] }).get? b = some o := fun b o hbe hbi hb =>
  Heap.get?_push_of_some _ (hs₃.extBut b o hbe (hs₂.extBut b o hbe (hs₁.extBut b o hbi hb)))
 rw [hsz]
 generalize h₃.push { cls := .type "tuple", data := .seq #[.int i tk, x] } = h₄ at he₄ ha₄ ht₄ hit₄ hk₄ ⊢
 haveI hel : e < hp.objs.size := Heap.lt_size he
 show wpAny _ _ (Builtin.SmallTypes.ownedTupleIsFree (.ref e) >>= _) _ _ ⟨h₄, g, d, tk + 1, os⟩
 refine wpAny_bind ?_
 unfold Builtin.SmallTypes.ownedTupleIsFree
 refine wpAny_bind (wpAny_field he₄ rfl (x := rawInt a) rfl ?_)
 show wpAny _ _ (loadIfAlive (a : Int).toNat >>= _) _ _ _
 refine wpAny_bind (kdx_alive (a := (a : Int).toNat) (o := oa) (by simpa using ha₄) ?_)
 refine wpAny_bind (wpAny_field he₄ rfl (x := .bool f) rfl ?_)
 have fin : ∀ h₅, EnumO h₅ e it ((i : Int) + 1) old a true → Heap.SameBut e h₄ h₅ → Q (some (.ref hp.objs.size)) ⟨h₅, g, d, tk + 1, os⟩ := fun h₅ he₅ hs₅ =>
  hQ h₅ tk he₅ (hit₄.at fun o q => hs₅.extBut _ _ (Ne.symm hei) q) (hs₅.extBut _ _ (Nat.ne_of_gt hel) ht₄) fun b o hbe hbi q => hs₅.extBut b o hbe (hk₄ b o hbe hbi q)
 cases f with
 | true => exact wpAny_pure (wpAny_pure ⟨_, rfl, wpAny_pure (fin h₄ he₄ (Heap.SameBut.refl ..))⟩)
 | false =>
  show wpAny _ _ (setField (.ref e) 1 (.bool true) >>= _) _ _ _
  refine wpAny_bind (wpAny_setField_rec he₄ (by simp) fun h₅ he₅ hs₅ => ?_)
  exact wpAny_pure (wpAny_pure ⟨_, rfl, wpAny_pure (fin h₅ he₅ hs₅)⟩)
end
section
section
variable {A : Around} {E : Value → Shared → Prop} {s : Shared}
theorem hint_enum {e : Addr} {Q : Bool → Shared → Prop} (hT : s.TypeIs (.ref e) "enumerate") (h : Q true s) : wpAny (model prog w) A (Builtin.List.listLengthHint (.ref e)) Q E s := by
 have h1 : typeLookup (.type "enumerate") "__len__" = pure none := by rw [typeLookup_type, builtinLookup_eq_fast]; kernel_rfl
 have h2 : typeLookup (.type "enumerate") "__length_hint__" = pure none := by rw [typeLookup_type, builtinLookup_eq_fast]; kernel_rfl
 unfold Builtin.List.listLengthHint
 refine wpAny_bind (wpAny_specialOf hT h1 ?_)
 show wpAny _ _ (specialOf (Value.ref e) (Str.ofString "__length_hint__") >>= _) _ _ _
 refine wpAny_bind (wpAny_specialOf hT h2 ?_)
 exact wpAny_pure h
noncomputable def EnSt (e it l : Addr) (vs : List Value) (Z : ZM) (i : Nat) (h : Heap) : Prop :=
 (∃ old, IsEnum h e it i old ∨ ∃ a f o, EnumO h e it i old a f ∧ Z a = some o) ∧ h.IsTupleIter it l i ∧ h.IsTuple l vs.toArray
theorem EnSt.keep {e it l : Addr} {vs : List Value} {Z Z' : ZM} {i : Nat} {h h' : Heap} (x : EnSt e it l vs Z i h) (hle : ZLe Z Z') (h1 : ∀ o, h.get? e = some o → h'.get? e = some o) (h2 : ∀ o, h.get? it = some o → h'.get? it = some o) (h3 : ∀ o, h.get? l = some o → h'.get? l = some o) : EnSt e it l vs Z' i h' := by
 obtain ⟨⟨old, a⟩, b, c⟩ := (x)
 refine ⟨⟨old, ?_⟩, b.at h2, c.at h3⟩
 rcases a with a | ⟨a, f, o, q, z⟩
 ·exact .inl (h1 _ a)
 ·exact .inr ⟨a, f, o, h1 _ q, hle _ _ z⟩
theorem EnSt.type {e it l : Addr} {vs : List Value} {Z : ZM} {i : Nat} (x : EnSt e it l vs Z i s.heap) : s.TypeIs (.ref e) "enumerate" := by
 obtain ⟨⟨old, a⟩, _⟩ := x
 rcases a with a | ⟨a, f, o, q, z⟩
 ·exact ⟨_, a, rfl⟩
 ·exact ⟨_, q, rfl⟩
theorem en_item {e it l : Addr} {vs : List Value} {Z : ZM} {i : Nat} {x : Value} {Q : Option Value → Shared → Prop} (hh : A.handled = none) (hz : ∀ b o, Z b = some o → s.heap.get? b = some o) (he0 : Z e = none) (hi0 : Z it = none) (hei : e ≠ it) (hle : l ≠ e) (hli : l ≠ it)
  (st : EnSt e it l vs Z i s.heap) (hx : vs[i]? = some x)
  (hQ : ∀ h' t tk, EnSt e it l vs (zAdd Z s.heap.objs.size { cls := .type "tuple", data := .seq #[.int i t, x] }) (i + 1) h' → h'.get? s.heap.objs.size = some { cls := .type "tuple", data := .seq #[.int i t, x] } →
   (∀ b o, b ≠ e → b ≠ it → s.heap.get? b = some o → h'.get? b = some o) → Q (some (.ref s.heap.objs.size)) { s with heap := h', toks := tk }) :
  wpAny (model prog w) A (pyNext (.ref e)) Q E s := by
 obtain ⟨⟨old, a⟩, b, c⟩ := (st)
 haveI hlt : i < vs.toArray.size := by simpa using (List.getElem?_eq_some_iff.mp hx).1
 have hx' : vs.toArray[i]? = some x := by simpa using hx
 have ee : ((i : Int) + 1) = ((i + 1 : Nat) : Int) := by omega
 haveI zl : ∀ {o : Obj}, ZLe Z (zAdd Z s.heap.objs.size o) := zAdd_le (none_new hz)
 rcases a with a | ⟨a, f, o, q, z⟩
 ·haveI D := Draws.tuple (A := A.in1) hh it l hli vs.toArray
  refine wpAny_pyNext_enum_itemD D a ⟨b, c⟩ hlt hei (not_in2 hei (Ne.symm hle)) fun y h' tk hP ho hst hT hsz hk => ?_
  haveI e1 : y = x := by
   haveI hP' : vs[i]? = some y := by simpa using hP
   rw [hx] at hP'; exact (Option.some.inj hP').symm
  subst e1
  refine hQ h' tk (tk + 1) ⟨⟨y, .inr ⟨_, false, _, ?_, zAdd_self ..⟩⟩, hst.1, hst.2⟩ hT hk
  haveI := ho
  rw [ee] at this
  exact this
 ·haveI ha := hz _ _ z
  refine enumO_next q ha (off he0 z) (off hi0 z) hei hle hli b c hx' fun h' tk h1 h2 h3 hk => ?_
  refine hQ h' tk (tk + 1) ⟨⟨old, .inr ⟨a, true, o, ?_, zl _ _ z⟩⟩, h2, c.at fun o' e' => hk l o' hle hli e'⟩ h3 hk
  rw [ee] at h1
  exact h1
theorem en_done {e it l : Addr} {vs : List Value} {Z : ZM} {Q : Option Value → Shared → Prop} (hh : A.handled = none) (hei : e ≠ it) (hle : l ≠ e) (hli : l ≠ it) (st : EnSt e it l vs Z vs.length s.heap)
  (hQ : ∀ h', (∀ b o, b ≠ e → b ≠ it → s.heap.get? b = some o → h'.get? b = some o) → Q none { s with heap := h' }) : wpAny (model prog w) A (pyNext (.ref e)) Q E s := by
 obtain ⟨⟨old, a⟩, b, c⟩ := (st)
 haveI D := Draws.tuple (A := A.in1) hh it l hli vs.toArray
 haveI hn : vs.length = vs.toArray.size := by simp
 rcases a with a | ⟨a, f, o, q, z⟩
 ·refine wpAny_pyNext_enum_endD D a (by rw [← hn]; exact ⟨b, c⟩) fun h' he' => hQ h' fun b o J hb e => he' b o hb e
 ·haveI hT : s.TypeIs (.ref e) "enumerate" := ⟨_, q, rfl⟩
  unfold pyNext
  refine wpAny_bind (wpAny_attempt (wpAny_callSpecial?_slot (name := Str.ofString "__next__") hT F.slot_enumerate_next
   (wpAny_call_entry F.slot_enumerate_next hT F.entry_enumerate_next ?_ (F.args_enumerate_next_1 _))))
  show wpAny _ _ (field (.ref e) 2 >>= _) _ _ _
  refine wpAny_bind (wpAny_field q rfl (x := .ref it) rfl ?_)
  refine wpAny_bind (D.done _ _ _ (by rw [← hn]; exact ⟨b, c⟩) fun h' x he' hx' => ?_)
  obtain ⟨o, ho, hc⟩ := (hx')
  refine wpAny_bind (wpAny_isInstance (T := "StopIteration") (b := true) ⟨o, ho, hc⟩ isSubtype_stop ?_)
  exact wpAny_pure (hQ _ fun b o J hb e => he' b o hb e)
end
section
variable {A : Around} {E : Value → Shared → Prop} {s₀ : Shared} {Z₀ : ZM}
theorem en_loop {e it l S : Addr} {vs : List Value} {xs : List V} {R : Result → Shared → Prop} {res : Value} (hh : A.handled = none) (hei : e ≠ it) (hle : l ≠ e) (hli : l ≠ it) (hSe : S ≠ e) (hSi : S ≠ it) (hSl : S ≠ l) (r : RepL Z₀ vs xs) (hlen : xs.length ≤ 64)
  (n0 : s₀.heap.get? e = none ∧ s₀.heap.get? it = none ∧ s₀.heap.get? S = none) :
  ∀ (k i : Nat) (s : Shared) (Z : ZM) (acc : List Value) (c : Nat), vs.length - i = k → i ≤ vs.length → EnSt e it l vs Z i s.heap → Grow Z₀ s₀ Z s → Z e = none → Z it = none → Z S = none → s.heap.get? S = some (listOf acc.toArray c) → RepL Z acc ((enumFrom 0 xs).take i) →
   (∀ s' Z' acc' c', Grow Z₀ s₀ Z' s' → Z' S = none → s'.heap.get? S = some (listOf (acc' : List Value).toArray c') → RepL Z' acc' (enumFrom 0 xs) → R (.ok (.ret res)) s') →
   codeAny (model prog w) A (.builtin "list.extend.loop" ⟨[.ref S, .ref e, res], []⟩) R s := by
 have hvl := r.length
 intro k
 induction k with
 | zero =>
  intro i s Z acc c hk hi st g ze zi zs hS hr hR
  haveI hin : i = vs.length := lc2 hk hi
  subst hin
  refine codeAny_builtin F.entry_extend_loop ?_
  rw [Around.under_plainId F.plain_extend_loop _]
  show wpAny _ A.in1 (pyNext (.ref e) >>= _) _ _ s
  refine wpAny_bind (en_done (A := A.in1) hh hei hle hli st fun h' hk' => ?_)
  haveI g' : Grow Z₀ s₀ Z { s with heap := h' } := ⟨fun b o q => (g.keep b o q).elim fun o' p => ⟨o', hk' b o' (off n0.1 q) (off n0.2.1 q) p.1, p.2⟩, g.le, fun b o q => hk' b o (off ze q) (off zi q) (g.sub b o q), g.fresh, g.bare, g.os⟩
  refine wpAny_pure (hR _ Z acc c g' zs (hk' S _ hSe hSi hS) ?_)
  rw [List.take_of_length_le (by rw [enumFrom_len]; omega)] at hr
  exact hr
 | succ k ih =>
  intro i s Z acc c hk hi st g ze zi zs hS hr hR
  have hlt : i < vs.length := lc3 hk
  refine codeAny_builtin F.entry_extend_loop ?_
  rw [Around.under_plainId F.plain_extend_loop _]
  show wpAny _ A.in1 (pyNext (.ref e) >>= _) _ _ s
  refine wpAny_bind (en_item (A := A.in1) hh g.sub ze zi hei hle hli st (List.getElem?_eq_getElem hlt) fun h' t tk st' hT hk' => ?_)
  haveI hS' : h'.get? S = some (listOf acc.toArray c) := hk' S _ hSe hSi hS
  haveI hN := none_at g.sub (b := s.heap.objs.size) (Nat.le_refl _)
  haveI nS : S ≠ s.heap.objs.size := Nat.ne_of_lt (Heap.lt_size hS)
  show wpAny _ A.in1 (updateSeq S (·.push (.ref s.heap.objs.size)) >>= _) _ _ _
  refine wpAny_bind ?_
  have hal : acc.toArray.size ≤ 64 := by
   haveI := hr.length
   rw [List.length_take, enumFrom_len] at this
   rw [List.size_toArray]; omega
  refine wpAny_updateSeq hS' rfl (wpAny_pure ⟨plainId_quiet F.plain_extend_loop _, ?_⟩) (Nat.le_trans hal small64) (by show (acc.toArray.push _).size ≤ sizeLine + 1; rw [Array.size_push]; haveI := Nat.le_trans hal small64; omega)
  haveI hup := Heap.get?_update_self (Obj.mapSeq (·.push (Value.ref s.heap.objs.size))) hS' rfl
  have oth : ∀ b o, b ≠ S → h'.get? b = some o → (h'.update S (Obj.mapSeq (·.push (Value.ref s.heap.objs.size)))).get? b = some o := fun b o hb q => (Heap.get?_update_other _ _ (Ne.symm hb)).trans q
  generalize h'.update S (Obj.mapSeq (·.push (Value.ref s.heap.objs.size))) = h2 at hup oth ⊢
  haveI zle : ZLe Z (zAdd Z s.heap.objs.size { cls := .type "tuple", data := .seq #[.int i t, vs[i]] }) := zAdd_le hN.1
  haveI zn : ∀ b, b ≠ s.heap.objs.size → Z b = none → zAdd Z s.heap.objs.size { cls := .type "tuple", data := .seq #[.int i t, vs[i]] } b = none := fun b hb hz => by unfold zAdd; rw [if_neg hb]; exact hz
  haveI lt : ∀ {b : Addr}, (∃ o, s.heap.get? b = some o) → b ≠ s.heap.objs.size := fun ⟨o, q⟩ => Nat.ne_of_lt (Heap.lt_size q)
  haveI elt : e ≠ s.heap.objs.size := lt (by obtain ⟨o, q, _⟩ := (st.type); exact ⟨o, q⟩)
  haveI ilt : it ≠ s.heap.objs.size := lt (by obtain ⟨o, q, _⟩ := (st.2.1); exact ⟨o, q⟩)
  have g' : Grow Z₀ s₀ (zAdd Z s.heap.objs.size { cls := .type "tuple", data := .seq #[.int i t, vs[i]] }) { s with heap := h2, toks := tk } := by
   refine ⟨fun b o q => (g.keep b o q).elim fun o' p => ⟨o', oth b o' (off n0.2.2 q) (hk' b o' (off n0.1 q) (off n0.2.1 q) p.1), p.2⟩, g.le.trans zle, fun b o q => ?_, fun b o q => ?_, g.bare, g.os⟩
   ·unfold zAdd at q
    split at q
    ·rename_i z; cases q; rw [z]; exact oth _ _ (Ne.symm nS) hT
    ·exact oth b o (off zs q) (hk' b o (off ze q) (off zi q) (g.sub b o q))
   ·unfold zAdd at q
    split at q
    ·rename_i z
     right; rw [z]
     exact g.keep.none hN.2
    ·exact g.fresh b o q
  have hxl : i < xs.length := by omega
  obtain ⟨v, hv, hrv⟩ := (r.get (List.getElem?_eq_getElem hxl))
  haveI e1 : v = vs[i] := by rw [List.getElem?_eq_getElem hlt] at hv; exact (Option.some.inj hv).symm
  subst e1
  haveI hel : (enumFrom 0 xs)[i]? = some (.tup [.int (i : Int), xs[i]]) := by
   cases q : (enumFrom 0 xs)[i]? with
   | none => rw [List.getElem?_eq_none_iff, enumFrom_len] at q; omega
   | some y =>
    obtain ⟨z, h1, rfl⟩ := enumFrom_get xs 0 i y q
    rw [List.getElem?_eq_getElem hxl] at h1; cases h1
    rw [Nat.zero_add]
  refine ih (i + 1) _ _ (acc ++ [.ref s.heap.objs.size]) (c + 1) (lc1 hk) hlt (st'.keep (.refl _) (fun o q => oth _ o (Ne.symm hSe) q) (fun o q => oth _ o (Ne.symm hSi) q) fun o q => oth _ o (Ne.symm hSl) q) g' (zn _ elt ze) (zn _ ilt zi) (zn _ nS zs) ?_ ?_ hR
  ·rw [hup]
   refine congrArg some ((PyProof.Rows.mapSeq_push ..).trans ?_)
   rw [List.push_toArray]
  ·rw [List.take_add_one, hel]
   refine (hr.mono zle).append (.cons (.tup (zAdd_self ..) rfl rfl (by show (2 : Nat) ≤ 64; decide) ?_) .nil)
   exact .cons (.int _ _) (.cons (hrv.mono (g.le.trans zle)) .nil)
end
section
variable {A : Around} {E : Value → Shared → Prop} {s : Shared} {Z : ZM} {k : V → Prop}
set_option tactic.hygienic true in
theorem op_listEnum {v : Value} {x : V} {Q : Value → Shared → Prop} (hh : A.handled = none) (hz : ∀ b o, Z b = some o → s.heap.get? b = some o) (ra : Rep Z v x) (h : onTup x fun xs => okL (enumFrom 0 xs) (k (.lst (enumFrom 0 xs)))) (hk : Bk Z s k Q) :
  wpAny (model prog w) A (call (.type "enumerate") [v]) (fun e s₁ => wpAny (model prog w) A (call (.type "list") [e]) Q E s₁) E s := by
 cases x <;> first | exact h.elim | skip
 rename_i xs
 obtain ⟨hl64, h⟩ := (okL_iff h)
 rw [enumFrom_len] at hl64
 obtain ⟨l, ⟨c, d, dt, sl⟩, vs, n, rfl, ho, hc, hd, hl, r⟩ := (ra.tup_inv)
 have hL : ∀ h : Heap, h.get? l = some ⟨c, d, dt, sl⟩ → h.IsTuple l vs.toArray := fun h e => ⟨_, e, hc, _, hd⟩
 have hlt : l < s.heap.objs.size := Heap.lt_size (hz _ _ ho)
 refine call_enumT (hL _ (hz _ _ ho)) fun h' he hit hsz keep => ?_
 haveI hz' : ∀ b o, Z b = some o → h'.get? b = some o := fun b o e => keep b o (hz b o e)
 refine callType_codes (Q₁ := fun obj s₁ => obj = .ref h'.objs.size ∧ s₁ = { s with heap := h'.push { cls := .type "list", data := .seq #[] } }) PySem.F.called_list (PySem.F.typeCall_list_1 _) PySem.F.entry_list_init
  (code_list_new _ ⟨rfl, rfl⟩) fun obj s₁ h₁ => ?_
 obtain ⟨rfl, rfl⟩ := (h₁)
 have hS : (h'.push { cls := .type "list", data := .seq #[] }).get? h'.objs.size = some { cls := .type "list", data := .seq #[] } := Heap.get?_push_size _ rfl
 refine ⟨⟨_, hS, rfl⟩, PySem.F.args_list_init_2 _ _, ?_⟩
 have up : ∀ b o, h'.get? b = some o → (h'.push { cls := .type "list", data := .seq #[] }).get? b = some o := fun b o e => push_keep _ _ b o e
 haveI eS : h'.objs.size = s.heap.objs.size + 2 := hsz
 have hSe : (h'.objs.size : Addr) ≠ s.heap.objs.size + 1 := by rw [eS]; exact Nat.ne_of_gt (Nat.lt_succ_self _)
 have hSi : (h'.objs.size : Addr) ≠ s.heap.objs.size := by rw [eS]; exact Nat.ne_of_gt (Nat.lt_succ_of_lt (Nat.lt_succ_self _))
 have hSl : (h'.objs.size : Addr) ≠ l := by rw [eS]; exact Nat.ne_of_gt (Nat.lt_of_lt_of_le hlt (Nat.le_add_right _ 2))
 haveI hei : (s.heap.objs.size + 1 : Addr) ≠ s.heap.objs.size := Nat.ne_of_gt (Nat.lt_succ_self _)
 haveI hle : l ≠ (s.heap.objs.size + 1 : Addr) := Nat.ne_of_lt (Nat.lt_succ_of_lt hlt)
 haveI hli : l ≠ (s.heap.objs.size : Addr) := Nat.ne_of_lt hlt
 haveI N0 := none_at hz (b := s.heap.objs.size) (Nat.le_refl _)
 haveI N1 := none_at hz (b := (s.heap.objs.size + 1 : Nat)) (Nat.le_succ _)
 have N2 := none_at hz (b := (h'.objs.size : Nat)) (by rw [eS]; exact Nat.le_add_right _ 2)
 have st0 : EnSt (s.heap.objs.size + 1 : Nat) s.heap.objs.size l vs Z 0 (h'.push { cls := .type "list", data := .seq #[] }) :=
  ⟨⟨.none, .inl (up _ _ he)⟩, hit.at fun o e => up _ o e, hL _ (up _ _ (hz' _ _ ho))⟩
 show wpAny _ _ (do let old ← Builtin.List.listItems (.ref h'.objs.size); Builtin.List.listUpdate (.ref h'.objs.size) (fun J => #[]); letGo old.toList.reverse; Builtin.List.listExtendWith (.ref h'.objs.size) (.ref (s.heap.objs.size + 1 : Nat)) .none) _ _ _
 refine wpAny_bind ?_
 unfold Builtin.List.listItems
 refine wpAny_bind (wpAny_seqItems hS rfl (wpAny_pure ?_))
 show wpAny _ _ (updateSeq h'.objs.size (fun J => #[]) >>= fun J => letGo (#[] : Array Value).toList.reverse >>= fun J => Builtin.List.listExtendWith (.ref h'.objs.size) (.ref (s.heap.objs.size + 1 : Nat)) .none) _ _ _
 refine wpAny_bind (wpAny_updateSeq hS rfl ?_)
 haveI hS₂ := Heap.get?_update_self (Obj.mapSeq (fun J => (#[] : Array Value))) hS rfl
 have oth : ∀ b o, b ≠ h'.objs.size → (h'.push { cls := .type "list", data := .seq #[] }).get? b = some o → ((h'.push { cls := .type "list", data := .seq #[] }).update h'.objs.size (Obj.mapSeq (fun J => (#[] : Array Value)))).get? b = some o :=
  fun b o hb e => (Heap.get?_update_other _ _ (Ne.symm hb)).trans e
 refine wpAny_bind (wpAny_letGo ?_)
 generalize (h'.push { cls := .type "list", data := .seq #[] }).update h'.objs.size (Obj.mapSeq (fun J => (#[] : Array Value))) = h2 at hS₂ oth ⊢
 haveI st2 : EnSt (s.heap.objs.size + 1 : Nat) s.heap.objs.size l vs Z 0 h2 := st0.keep (.refl _) (fun o q => oth _ o (Ne.symm hSe) q) (fun o q => oth _ o (Ne.symm hSi) q) fun o q => oth _ o (Ne.symm hSl) q
 haveI k2 : ∀ b o, s.heap.get? b = some o → h2.get? b = some o := fun b o e => oth b o (off N2.2 e) (up b o (keep b o e))
 unfold Builtin.List.listExtendWith
 haveI hTe : Shared.TypeIs { s with heap := h2 } (.ref (s.heap.objs.size + 1 : Nat)) "enumerate" := st2.type
 refine wpAny_bind (wpAny_typeOf (T := "enumerate") hTe ?_)
 haveI h1 : Builtin.List.listSameRef (.ref h'.objs.size) (.ref (s.heap.objs.size + 1 : Nat)) = false := by
  haveI : ¬ (h'.objs.size = s.heap.objs.size + 1) := hSe
  simp [Builtin.List.listSameRef, this]
 haveI g2 : (Value.type "enumerate" == Value.type "list") = false := by decide
 haveI g3 : (Value.type "enumerate" == Value.type "tuple") = false := by decide
 simp only [h1, g2, g3, Bool.or_false, Bool.false_eq_true, if_false]
 haveI he2 : IsEnum h2 (s.heap.objs.size + 1) s.heap.objs.size 0 .none := oth _ _ (Ne.symm hSe) (up _ _ he)
 refine wpAny_bind (wpAny_pyIter_enum he2 ?_)
 refine wpAny_bind (wpAny_holding (hint_enum hTe ?_))
 refine wpAny_ite_split (fun J => ?_) (fun q => by simp at q)
 refine wpAny_bind (wpAny_rule ?_)
 refine wpAny_bind ?_
 show wpAny _ _ (updateSeq h'.objs.size (·.push .none) >>= fun J => updateSeq h'.objs.size (·.pop)) _ _ _
 refine wpAny_bind (wpAny_updateSeq hS₂ rfl ?_)
 haveI hS₃ := Heap.get?_update_self (Obj.mapSeq (·.push Value.none)) hS₂ rfl
 refine wpAny_updateSeq (hz := by seq_fits) hS₃ rfl ?_
 haveI hS₄ := Heap.get?_update_self (Obj.mapSeq (·.pop)) hS₃ rfl
 have oth4 : ∀ b o, b ≠ h'.objs.size → h2.get? b = some o → ((h2.update h'.objs.size (Obj.mapSeq (·.push Value.none))).update h'.objs.size (Obj.mapSeq (·.pop))).get? b = some o :=
  fun b o hb e => (Heap.get?_update_other _ _ (Ne.symm hb)).trans ((Heap.get?_update_other _ _ (Ne.symm hb)).trans e)
 generalize (h2.update h'.objs.size (Obj.mapSeq (·.push Value.none))).update h'.objs.size (Obj.mapSeq (·.pop)) = h4 at hS₄ oth4 ⊢
 haveI st4 : EnSt (s.heap.objs.size + 1 : Nat) s.heap.objs.size l vs Z 0 h4 := st2.keep (.refl _) (fun o q => oth4 _ o (Ne.symm hSe) q) (fun o q => oth4 _ o (Ne.symm hSi) q) fun o q => oth4 _ o (Ne.symm hSl) q
 haveI k4 : ∀ b o, s.heap.get? b = some o → h4.get? b = some o := fun b o e => oth4 b o (off N2.2 e) (k2 b o e)
 haveI g4 : Grow Z s Z { s with heap := h4 } := Grow.still hz k4 id rfl
 refine wpAny_pure ⟨plainId_quiet PySem.F.plain_extend_loop _, ?_⟩
 refine en_loop (A := A.in1) (s₀ := s) (Z₀ := Z) hh hei hle hli hSe hSi hSl r hl64 ⟨N1.2, N0.2, N2.2⟩ _ 0 _ Z [] _ rfl (Nat.zero_le _) st4 g4 N1.1 N0.1 N2.1 hS₄ .nil fun s' Z' acc' c' g zs hS' hr => ?_
 refine ⟨rfl, ?_⟩
 refine hk _ _ (zAdd Z' h'.objs.size (listOf acc'.toArray c')) s' ⟨g.keep, g.le.trans (zAdd_le zs), fun b o q => ?_, fun b o q => ?_, g.bare, g.os⟩ (.lst (n := c') (zAdd_self ..) (by rw [enumFrom_len]; exact hl64) (hr.mono (zAdd_le zs))) h
 ·unfold zAdd at q
  split at q
  ·rename_i z; cases q; rw [z]; exact hS'
  ·exact g.sub b o q
 ·unfold zAdd at q
  split at q
  ·rename_i z; rw [z]; exact .inr N2.2
  ·exact g.fresh b o q
end
end
section
variable {n : Nat} {T : Tab}
theorem pe_listEnum (MM : MgOk mg) {a : IE} (ha : PE prog w K mg mb n T a) : PE prog w K mg mb n T (.listEnum a) := by
 intro A env sc nm Z σ s k Q E e C hc h hk
 refine bi1_e hc fun b p q h1 hp hc => bi1_e hc fun a' p2 q2 h3 h4 h5 => ?_
 refine Call_ (ld_b MM C nbList h1 Boot.«list» (call_ty (plain1 rfl) (spl1 rfl ?_)))
 refine Call_ (ld_b MM C nbEnum h3 Boot.«enumerate» (call_ty (plain1 h4) (spl1 h4 (ha _ _ _ _ _ _ _ _ _ _ _ C h5 h fun v x Z1 s1 g1 r1 h => ?_))))
 haveI C1 := C.grow g1
 haveI h' : onTup x fun xs => okL (enumFrom 0 xs) (k (.lst (enumFrom 0 xs))) := by
  cases x <;> first | exact h.elim | skip
  exact evL_o (k := fun ys => okL ys (k (.lst ys))) h
 exact op_listEnum C1.hh C1.f.zs r1 h' (hk.after g1)
theorem pe_bad {ie : IE} (h : ∀ σ k, ¬ wE T ie σ k) : PE prog w K mg mb n T ie := fun A env sc nm Z σ s k Q E e C hc hw hk => (h _ _ hw).elim
theorem pc_bad {ie : IE} (h : ∀ σ k, ¬ wC T ie σ k) : PC prog w K mg mb n T ie := fun A env sc nm Z σ s k Q E e C hc hw hk => (h _ _ hw).elim
theorem ps_bad {ie : IE} (h : ∀ σ k, ¬ wEs T ie σ k) : PEs prog w K mg mb n T ie := fun A env sc nm Z σ s k Q E es pos C hc hw hk => (h _ _ hw).elim
theorem pi_bad {ie : IE} (h : ∀ σ k, ¬ wI T ie σ k) : PI prog w K mg mb n T ie := fun A env sc nm Z σ s k E e C hc hw => (h _ _ hw).elim
theorem pa (KK : KF K) (TT : TabOk prog w K mg mb n T) (MM : MgOk mg) : ∀ ie : IE, PA prog w K mg mb n T ie := by
 intro ie
 induction ie with
 | int i => exact ⟨pe_int i, pc_bad fun J J h => h, ps_bad fun J J h => h, pi_bad fun J J h => h⟩
 | bool b => exact ⟨pe_bool b, pc_bad fun J J h => h, ps_bad fun J J h => h, pi_bad fun J J h => h⟩
 | none => exact ⟨pe_none, pc_bad fun J J h => h, ps_bad fun J J h => h, pi_bad fun J J h => h⟩
 | va i => exact ⟨pe_var i, pc_var, ps_bad fun J J h => h, pi_of (pe_var i) fun J J h => h⟩
 | bin op l r hl hr => exact ⟨pe_bin KK TT hl.e hr.e, pc_bin (pe_bin KK TT hl.e hr.e), ps_bad fun J J h => h, pi_of (pe_bin KK TT hl.e hr.e) fun J J h => h⟩
 | neg e he => exact ⟨pe_neg KK TT he.e, pc_bad fun J J h => h, ps_bad fun J J h => h, pi_bad fun J J h => h⟩
 | not e he => exact ⟨pe_not he.e, pc_not he.c, ps_bad fun J J h => h, pi_bad fun J J h => h⟩
 | and l r hl hr => exact ⟨pe_and hl.e hr.e, pc_and hl.c hr.c, ps_bad fun J J h => h, pi_bad fun J J h => h⟩
 | or l r hl hr => exact ⟨pe_or hl.e hr.e, pc_or hl.c hr.c, ps_bad fun J J h => h, pi_bad fun J J h => h⟩
 | cmp op l r hl hr => exact ⟨pe_cmp KK TT hl.e hr.e, pc_cmp KK TT hl.e hr.e, ps_bad fun J J h => h, pi_bad fun J J h => h⟩
 | ite c t e hc ht he => exact ⟨pe_ite hc.c ht.e he.e, pc_bad fun J J h => h, ps_bad fun J J h => h, pi_bad fun J J h => h⟩
 | call f as ha => exact ⟨pe_call KK TT MM ha.s, pc_call (pe_call KK TT MM ha.s), ps_bad fun J J h => h, pi_of (pe_call KK TT MM ha.s) fun J J h => h⟩
 | meth o m as ho ha => exact ⟨pe_meth KK TT ho.e ha.s, pc_bad fun J J h => h, ps_bad fun J J h => h, pi_of (pe_meth KK TT ho.e ha.s) fun J J h => h⟩
 | attr o f ho => exact ⟨pe_attr KK ho.e, pc_bad fun J J h => h, ps_bad fun J J h => h, pi_of (pe_attr KK ho.e) fun J J h => h⟩
 | idx o i ho hi => exact ⟨pe_idx ho.e hi.e, pc_bad fun J J h => h, ps_bad fun J J h => h, pi_bad fun J J h => h⟩
 | upto o u ho hu =>
  refine ⟨pe_upto ho.e hu.e, pc_bad fun J J h => h, ps_bad fun J J h => h, pi_of (pe_upto ho.e hu.e) fun σ k h => ?_⟩
  exact h
 | tup es he => exact ⟨pe_tup he.s, pc_bad fun J J h => h, ps_bad fun J J h => h, pi_of (pe_tup he.s) fun J J h => h⟩
 | lst es he => exact ⟨pe_lst he.s, pc_bad fun J J h => h, ps_bad fun J J h => h, pi_of (pe_lst he.s) fun J J h => h⟩
 | comp caps own pat it cond elt hi hc he => exact ⟨pe_comp hi.i hc.c he.e, pc_bad fun J J h => h, ps_bad fun J J h => h, pi_bad fun J J h => h⟩
 | bi b e he => exact ⟨pe_bi KK TT MM he.e, pc_bad fun J J h => h, ps_bad fun J J h => h, pi_bad fun J J h => h⟩
 | pow3 a b c ha hb hc => exact ⟨pe_pow3 MM ha.e hb.e hc.e, pc_bad fun J J h => h, ps_bad fun J J h => h, pi_bad fun J J h => h⟩
 | tupOf e he => exact ⟨pe_tupOf MM he.e, pc_bad fun J J h => h, ps_bad fun J J h => h, pi_bad fun J J h => h⟩
 | listOf e he => exact ⟨pe_listOf MM he.e, pc_bad fun J J h => h, ps_bad fun J J h => h, pi_bad fun J J h => h⟩
 | listEnum e he => exact ⟨pe_listEnum MM he.e, pc_bad fun J J h => h, ps_bad fun J J h => h, pi_bad fun J J h => h⟩
 | isi e ts he => exact ⟨pe_isi KK MM he.e, pc_isi KK MM he.e, ps_bad fun J J h => h, pi_bad fun J J h => h⟩
 | rng1 a ha => exact ⟨pe_bad fun J J h => h, pc_bad fun J J h => h, ps_bad fun J J h => h, pi_rng1 MM ha.e⟩
 | rng3 a b c ha hb hc => exact ⟨pe_bad fun J J h => h, pc_bad fun J J h => h, ps_bad fun J J h => h, pi_rng3 MM ha.e hb.e⟩
 | enum e he => exact ⟨pe_bad fun J J h => h, pc_bad fun J J h => h, ps_bad fun J J h => h, pi_enum MM he.e⟩
 | zip a b ha hb => exact ⟨pe_bad fun J J h => h, pc_bad fun J J h => h, ps_bad fun J J h => h, pi_zip MM ha.e hb.e⟩
 | an => exact ⟨pe_bad fun J J h => h, pc_bad fun J J h => h, pes_nil, pi_bad fun J J h => h⟩
 | ac e r he hr => exact ⟨pe_bad fun J J h => h, pc_bad fun J J h => h, pes_cons he.e hr.s, pi_bad fun J J h => h⟩
end
section
set_option backward.match.sparseCases true
noncomputable def swpNames (sc : Scope) (ts : List Expr) : List Str := ts.filterMap fun
 | .Name id pos => if sc.names.lookup id == some .local && pos.line == (ts.head?.map (·.pos.line)).getD 0 then some id else none
 | _ => none
noncomputable def swp (sc : Scope) (ts vs : List Expr) : Option (Option (List Str)) :=
 if (!(ts.length == 2 || ts.length == 3) || vs.length != ts.length) = true then some none
 else if (vs.any fun | .Starred .. => true | _ => false) = true then some none
 else if ((swpNames sc ts).length != ts.length || (swpNames sc ts).eraseDups.length != (swpNames sc ts).length) = true then some none
 else if vs.all (foldedForSure 8) = true then some none
 else if vs.all (constantsAlone 8) = true then none
 else some (some (swpNames sc ts))
theorem ite_e {α : Type} {c : Prop} [Decidable c] {a b r : α} {G : Prop} (h : (if c then a else b) = r) (f : c → a = r → G) (g : ¬ c → b = r → G) : G := by
 by_cases q : c
 ·exact f q ((if_pos q).symm.trans h)
 ·exact g q ((if_neg q).symm.trans h)
theorem swp_ok {env : Env} {sc : Scope} {ts vs : List Expr} {k : Nat} {k' : Nat} {p p' : Pos} {r : Option (List Str)} (he : env.scope = sc) (hb : env.blockKind = .function) (h : swp sc ts vs = some r) : swappedStores [.Tuple ts k p] (.Tuple vs k' p') env = pure r := by
 subst he
 refine ite_e (show ite _ _ _ = _ from h) (fun h1 h => ?_) fun h1 h => ?_
 ·cases h
  exact if_pos (show (!(ts.length == 2 || ts.length == 3) || vs.length != ts.length || env.blockKind != ScopeKind.function) = true by rw [h1]; rfl)
 refine (if_neg (show ¬ (!(ts.length == 2 || ts.length == 3) || vs.length != ts.length || env.blockKind != ScopeKind.function) = true from fun q => (Bool.or_eq_true_iff.mp q).elim h1 fun z => by rw [hb] at z; cases z)).trans ?_
 refine ite_e h (fun h2 h => ?_) fun h2 h => ?_
 ·cases h
  exact if_pos h2
 refine (if_neg h2).trans ?_
 refine ite_e h (fun h3 h => ?_) fun h3 h => ?_
 ·cases h
  exact if_pos h3
 refine (if_neg h3).trans ?_
 refine ite_e h (fun h4 h => ?_) fun h4 h => ?_
 ·cases h
  exact if_pos h4
 refine (if_neg h4).trans ?_
 refine ite_e h (fun h5 h => ?_) fun h5 h => ?_
 ·cases h
 cases h
 exact (if_neg h5).trans rfl
noncomputable def isSD (e : Expr) : Bool := Nat.beq e.ctorIdx 9 || Nat.beq e.ctorIdx 10
noncomputable def isLC (e : Expr) : Bool := Nat.beq e.ctorIdx 8
@[elab_as_elim] theorem isLC_e {e : Expr} {P : Expr → Prop} (h : isLC e = true) (f : ∀ a gs sc p, P (.ListComp a gs sc p)) : P e := Expr.ListComp.elim (motive_1 := P) e (Nat.eq_of_beq_eq_true h) f
noncomputable abbrev isNmAt (nm : List Str) (x : Nat) (e : Expr) : Bool := chkNm nm x e
noncomputable def isPop (nm : List Str) (x : Nat) (e : Expr) : Bool := onMet e fun o m apos as pos => un0 as (m == "pop" && isNmAt nm x o && decide (apos.endLine = pos.line))
noncomputable def swOk (sc : Scope) (ts : List Expr) : Expr → Bool | .Tuple vs _ _ => (swp sc ts vs).isSome | _ => true
noncomputable def isFrz : IS → Bool | .frz => true | _ => false
noncomputable def okMulti (it : IE) (pat : List Nat) : Bool := !ttOf it || multi pat
noncomputable def nodupI : List Nat → Bool
 | [] => true
 | i :: r => !hasN r i && nodupI r
mutual
noncomputable def chkS (sc : Scope) (nm : List Str) : IS → Stmt → Bool
 | .asg _ x e, s => onAsg s fun ts v => un1 ts fun t => onNm t fun y => nmAt nm x y && chkE sc nm e v && plainE v
 | .asgO x e, s => onAsg s fun ts v => un1 ts fun t => onNm t fun y => nmAt nm x y && chkE sc nm e v && plainE v
 | .frz, _ => false
 | .unp _ xs e, s => onAsg s fun ts v => un1 ts fun t => onTp t fun ts => chkNames nm xs ts && nodupI xs && chkE sc nm e v && swOk sc ts v
 | .setIdx x i e, s => onAsg s fun ts v => un1 ts fun t => onSub t fun o i' => isNmAt nm x o && chkE sc nm i i' && !isSl i' && chkE sc nm e v
 | .augIdx x op i e, s => onAug s fun t op' v => onSub t fun o i' => op == op' && isNmAt nm x o && chkE sc nm i i' && !isSl i' && chkE sc nm e v
 | .aug x op e, s => onAug s fun t op' v => onNm t fun y => op == op' && nmAt nm x y && chkE sc nm e v
 | .ext x e, s => onAug s fun t op' v => onNm t fun y => Operator.Add == op' && nmAt nm x y && chkE sc nm e v
 | .pop y x, s => onAsg s fun ts v => un1 ts fun t => onNm t fun y' => nmAt nm y y' && isPop nm x v
 | .pop2 y e z x, s => onAsg s fun ts v0 => un1 ts fun t => onTp t fun ts => onTp v0 fun vu => un2 vu fun v u => chkNames nm [y, z] ts && nodupI [y, z] && chkE sc nm e v && plainE v && isPop nm x u && (swp sc ts [v, u]).isSome
 | .ite c t e, s => onSIf s fun c' t' e' => chkE sc nm c c' && chkSs sc nm t t' && chkSs sc nm e e'
 | .for_ pat it body, s => onFor s fun tgt iter body' els => un0 els (okMulti it pat && chkPat nm pat tgt && chkE sc nm it iter && plainE iter && chkSs sc nm body body')
 | .forI pat it body, s => onFor s fun tgt iter body' els => un0 els (okMulti it pat && chkPat nm pat tgt && chkE sc nm it iter && plainE iter && chkSs sc nm body body')
 | .while_ _ c body, s => onWh s fun c' body' els => un0 els (chkE sc nm c c' && chkSs sc nm body body')
 | .whileI c body, s => onWh s fun c' body' els => un0 els (chkE sc nm c c' && chkSs sc nm body body')
 | .ret e, s => onRet s fun o => onS o fun e' => chkE sc nm e e'
 | .fail, s => true
 | .nil, _ => false
 | .cons _ _, _ => false
noncomputable def chkSs (sc : Scope) (nm : List Str) : IS → List Stmt → Bool
 | .nil, ss => un0 ss true
 | .cons s r, ss => match isFrz s with
  | true => chkSs sc nm r ss
  | false => onCo ss fun st ss' => chkS sc nm s st && chkSs sc nm r ss'
 | _, _ => false
end
noncomputable def chkKinds (sc : Scope) (nm : List Str) : Bool := nodupL nm && nm.all fun x => isLoc (sc.names.lookup x) || isCell (sc.names.lookup x)
end
section
section
variable {n : Nat} {T : Tab} {A : Around} {E : Value → Shared → Prop} {s s' : Shared} {Z Z' : ZM} {k : List V → Prop} {Q : Value → Shared → Prop}
abbrev BkO (Z : ZM) (s : Shared) (k : List V → Prop) (Q : Value → Shared → Prop) : Prop :=
 ∀ (a : Addr) (vs : List Value) (c : Nat) (xs : List V) (Z' : ZM) (s' : Shared), Grow Z s Z' s' → Z' a = none → s.heap.get? a = none → s'.heap.get? a = some (listOf vs.toArray c) → RepL Z' vs xs → xs.length ≤ 64 → k xs → Q (.ref a) s'
theorem none_before (g : Grow Z s Z' s') {a : Addr} (h : s'.heap.get? a = none) : s.heap.get? a = none := g.keep.none h
theorem none_z (hz : ∀ b o, Z b = some o → s.heap.get? b = some o) {a : Addr} (h : s.heap.get? a = none) : Z a = none := by
 cases q : Z a with
 | none => rfl
 | some o => rw [hz a o q] at h; cases h
theorem BkO.after (g : Grow Z s Z' s') (hk : BkO Z s k Q) : BkO Z' s' k Q := fun a vs c xs Z2 s2 g2 h1 h2 h3 r l h => hk a vs c xs Z2 s2 (g.trans g2) h1 (none_before g h2) h3 r l h
theorem bko_new {vs : List Value} {xs : List V} {c : Nat} {a : Addr} (hz : ∀ b o, Z b = some o → s.heap.get? b = some o) (keep : ∀ b x, s.heap.get? b = some x → s'.heap.get? b = some x) (hn : s.heap.get? a = none) (ho : s'.heap.get? a = some (listOf vs.toArray c))
  (hg : s'.gens = s.gens) (hos : s'.os = s.os) (r : RepL Z vs xs) (hl : xs.length ≤ 64) (h : k xs) (hk : BkO Z s k Q) : Q (.ref a) s' :=
 hk a vs c xs Z s' (Grow.still hz keep (fun b => hg ▸ b) hos) (none_z hz hn) hn ho r hl h
theorem new_lstO {vs : List Value} {xs : List V} (hz : ∀ b o, Z b = some o → s.heap.get? b = some o) (r : RepL Z vs xs) (hl : xs.length ≤ 64) (h : k xs) (hk : BkO Z s k Q) : wpAny (model prog w) A (newList vs) Q E s :=
 wpAny_newObj_type (bko_new (s := s) (c := 0) hz (push_keep _ _) (new_none _) (Heap.get?_push_size _ rfl) rfl rfl r hl h hk)
  (by show vs.toArray.size ≤ sizeLine; rw [List.size_toArray, r.length]; exact Nat.le_trans hl small64)
theorem op_listOfO {v : Value} {x : V} (hz : ∀ b o, Z b = some o → s.heap.get? b = some o) (ra : Rep Z v x) (h : onItems x k) (hk : BkO Z s k Q) : wpAny (model prog w) A (call (.type "list") [v]) Q E s := by
 obtain ⟨a, o, vs, n, xs, T, rfl, ho, hc, hT, hd, hl, r, hx, _⟩ := (ra.items_inv h)
 refine call_list_seq a hT (hz _ _ ho) hc hd (fun h' c' keep hn => ?_) (by rw [List.size_toArray, r.length]; exact Nat.le_trans hl small64)
 exact bko_new (s := s) (s' := { s with heap := h' }) hz keep (new_none _) hn rfl rfl r hl hx hk
set_option tactic.hygienic true in
theorem op_list_mulO {x : V} {n : Int} {t : Value} {u : Tok} (hz : ∀ b o, Z b = some o → s.heap.get? b = some o) (ra : Rep Z t (.lst [x])) (hl : (List.replicate n.toNat x).length ≤ 64) (hlo : -(2 ^ 63 : Int) ≤ n) (h : k (List.replicate n.toNat x)) (hk : BkO Z s k Q) : wpAny (model prog w) A (binaryOp .Mult t (.int n u)) Q E s := by
 obtain ⟨l, vs, m, rfl, ho, _, r1⟩ := (ra.lst_inv)
 cases r1 with
 | cons hv r =>
  cases r
  rename_i v
  rw [List.length_replicate] at hl
  have hsz : [v].toArray.size * n.toNat ≤ 2 ^ 24 := by simp only [List.size_toArray, List.length_cons, List.length_nil]; omega
  refine wpAny_binaryOp_repeat_ref (T := "list") (U := "int") (by decide) ⟨_, hz _ _ ho, rfl⟩ (fun s' => typeIs_int s' n u) noFill_list_mul F.fills_int_mul F.slot_int_rmul repeat_list F.slot_int_index.lookup
   (call_meets F.slot_int_rmul (typeIs_int s n u) F.entry_int_rmul (F.args_int_rmul_2 _ _) (int___rmul___int_list n u l [v].toArray m)
    ⟨hz _ _ ho, rfl, ⟨_, hz _ _ ho, rfl⟩, call_meets F.slot_list_mul ⟨_, hz _ _ ho, rfl⟩ F.entry_list_mul (F.args_list_mul_2 _ _)
     (AutoListH.list___mul___list_int_3 l [v].toArray m n u (by simp [Builtin.List.listFitsIndex]; omega) (by omega) (by simp [Builtin.List.listTooLong, sizeLine]; omega))
     ⟨hz _ _ ho, ?_⟩⟩)
  haveI e : List.foldl (fun x1 x2 => x1 ++ x2) #[] (List.replicate (if [v].toArray.isEmpty = true then 0 else n.toNat) [v].toArray) = (List.replicate n.toNat v).toArray := by
   rw [if_neg (by simp)]
   exact (foldl_app v n.toNat #[]).trans (by simp)
  rw [e]
  exact bko_new (s := s) (c := 0) hz (push_keep _ _) (new_none _) (Heap.get?_push_size _ rfl) rfl rfl (RepL.rep hv _) (by rw [List.length_replicate]; exact hl) h hk
end
section
variable {n : Nat} {T : Tab}
noncomputable def PO (prog : Program) (w : World) (K : Frag) (mg mb : Str → Option Value) (n : Nat) (T : Tab) (ie : IE) : Prop := ∀ (A : Around) (env : Env) (sc : Scope) (nm : List Str) (Z : ZM) (σ : List (Option V)) (s : Shared) (k : List V → Prop) (Q E : Value → Shared → Prop) (e : Expr),
 Cx K mg mb n A env sc nm Z σ s → chkE sc nm ie e = true → wE T ie σ (fun v => onItems v k) → BkO Z s k Q → wpAny (model prog w) A (eval e env) Q E s
theorem fin_own {Z Z' : ZM} {s s' : Shared} {Ca : Addr} {h' : Heap} (g : Grow Z s Z' s') (hC : Z' Ca = none) (hC0 : s.heap.get? Ca = none) (hs : Heap.SameBut Ca s'.heap h') :
  Grow Z s Z' { s' with heap := h' } := by
 have k : ∀ b x, b ≠ Ca → s'.heap.get? b = some x → h'.get? b = some x := fun b x hb e => hs.extBut b x hb e
 exact ⟨fun b x q => (g.keep b x q).elim fun o' p => ⟨o', k b o' (off hC0 q) p.1, p.2⟩, g.le, fun b x q => k b x (off hC q) (g.sub b x q), g.fresh, g.bare, g.os⟩
theorem po_bin (KK : KF K) (TT : TabOk prog w K mg mb n T) (MM : MgOk mg) (es r : IE) : PO prog w K mg mb n T (.bin .Mult (.lst es) r) := by
 intro A env sc nm Z σ s k Q E e C hc h hk
 refine onBin_e hc fun l' op' r' p hc => an3 hc fun h0 h1 h2 => ?_
 cases eq_of_beq h0
 refine onLst_e h1 fun es' p h1 => ?_
 refine wpAny_BinOp (List_ ((pa KK TT MM es).s _ _ _ _ _ _ _ _ _ _ _ _ C h1 h fun vs xs Z1 s1 g1 r1 h => ?_))
 haveI C1 := C.grow g1
 obtain ⟨hl, h⟩ := okL_iff h
 refine new_lst (k := fun a => a = .lst xs) C1.f.zs r1 hl rfl fun a x Z2 s2 g2 r2 e => ?_
 subst e
 have C2 := C1.grow g2
 refine (pa KK TT MM r).e _ _ _ _ _ _ _ _ _ _ _ C2 h2 h fun b y Z3 s3 g3 r3 h => ?_
 haveI C3 := C2.grow g3
 cases y <;> first | exact h.elim | skip
 obtain ⟨t, rfl⟩ := r3.int_inv
 rcases xs with _ | ⟨x, _ | ⟨y, l⟩⟩
 ·exact h.elim
 ·obtain ⟨h0, h⟩ := (h)
  obtain ⟨hl, h⟩ := (okL_iff (evL_o h))
  exact op_list_mulO C3.f.zs (r2.mono g3.le) hl (by omega) h (hk.after ((g1.trans g2).trans g3))
 ·exact h.elim
theorem po_lst (KK : KF K) (TT : TabOk prog w K mg mb n T) (MM : MgOk mg) (es : IE) : PO prog w K mg mb n T (.lst es) := by
 intro A env sc nm Z σ s k Q E e C hc h hk
 refine onLst_e hc fun es' p hc => List_ ((pa KK TT MM es).s _ _ _ _ _ _ _ _ _ _ _ _ C hc h fun vs xs Z1 s1 g1 r1 h => ?_)
 obtain ⟨hl, h⟩ := (okL_iff h)
 exact new_lstO (C.grow g1).f.zs r1 hl h (hk.after g1)
theorem po_comp (KK : KF K) (TT : TabOk prog w K mg mb n T) (MM : MgOk mg) (caps : List Nat) (own : List Str) (pat : List Nat) (it cond elt : IE) : PO prog w K mg mb n T (.comp caps own pat it cond elt) := by
 intro A env sc nm Z σ s k Q E e C hc h hk
 obtain ⟨elt', target, iter, ifs, sc', pos, rfl, h1, h2, h3, h4, h5, h6, h7, h8⟩ := (chk_comp hc)
 rw [eval_ListComp]
 refine comp_core (use := none) (pa KK TT MM it).i (pa KK TT MM cond).c (pa KK TT MM elt).e C h1 h2 h3 h4 h5 h6 h7 h8 (kl := fun vs => k vs) h fun D Ca vs c xs Z' s' m g hD hD0 eD hC hC0 hne hm r hl hx => ?_
 exact ⟨m, hm, fun h' hs => hk D vs c xs Z' _ (fin_own g hC hC0 hs) hD hD0 (hs.extBut D _ (Ne.symm hne) eD) r hl hx⟩
theorem po_listOf (KK : KF K) (TT : TabOk prog w K mg mb n T) (MM : MgOk mg) (a : IE) : PO prog w K mg mb n T (.listOf a) := by
 intro A env sc nm Z σ s k Q E e C hc h hk
 have h' : wE T a σ fun v => onItems v k := h
 exact bi1_e hc fun a' p q h1 h2 h3 => Call_ (ld_b MM C nbList h1 Boot.«list» (call_ty (plain1 h2) (spl1 h2 ((pa KK TT MM a).e _ _ _ _ _ _ _ _ _ _ _ C h3 h' fun v x Z1 s1 g1 r1 h => op_listOfO (C.grow g1).f.zs r1 h (hk.after g1)))))
theorem po (KK : KF K) (TT : TabOk prog w K mg mb n T) (MM : MgOk mg) (ie : IE) (hm : isMk ie = true) : PO prog w K mg mb n T ie := by
 cases ie <;> first | exact (Bool.false_ne_true hm).elim | skip
 ·exact an2 hm fun h0 h1 => by
   cases isMul_e h0
   exact isLst_e h1 fun es => po_bin KK TT MM es _
 ·exact po_lst KK TT MM _
 ·exact po_comp KK TT MM _ _ _ _ _ _
 ·exact po_listOf KK TT MM _
end
section
variable {n : Nat} {T : Tab} {A : Around} {E : Value → Shared → Prop} {s₀ s s' : Shared} {Z₀ Z Z' Zb : ZM} {env : Env} {nm : List Str} {st : Nat → Bool} {R wr : List Addr} {ρ : List Slot} {ow : Nat → Addr} {sc : Scope}
theorem zBack_le (F : Fm K mg mb s₀ Z₀ env nm st R Z ρ ow s) (g : Grow (zOwn Z nm ρ ow s) s Zb s') : ZLe Z (zBack Zb nm ρ ow) := fun b o e => by
 unfold zBack
 rw [if_neg]
 ·exact g.le b o (zOwn_le F b o e)
 ·intro zz; obtain ⟨i, xs, hi, h, rfl⟩ := (zz)
  obtain ⟨x, hx⟩ := nm_get hi
  have := (F.own i x xs hx h).2.z
  rw [e] at this; cases this
theorem Fm.reserve2 (F : Fm K mg mb s₀ Z₀ env nm st R Z ρ ow s) (F' : Fm K mg mb s₀ Z₀ env nm st R Z' ρ ow s') (hw : ∀ b ∈ wr, Z' b = none ∧ s.heap.get? b = none) (hl : ∀ b ∈ wr, ∃ o, s'.heap.get? b = some o) : Fm K mg mb s₀ Z₀ env nm st (wr ++ R) Z' ρ ow s' := by
 have off : ∀ b, (∃ o, s.heap.get? b = some o) → b ∉ R → b ∉ wr ++ R := fun b h1 h2 h3 => by
  rcases List.mem_append.mp h3 with h | h
  ·obtain ⟨o, e⟩ := (h1); rw [(hw b h).2] at e; cases e
  ·exact h2 h
 haveI s0 : ∀ b ∈ wr, s₀.heap.get? b = none := fun b hb => by
  exact F.gr.keep.none (hw b hb).2
 obtain ⟨m, o, _, _, eo, _⟩ := (F.loc)
 refine ⟨F'.gd0, F'.hf0, F'.gr, F'.loc, ⟨F'.loc0.1, F'.loc0.2.1, off _ ⟨_, eo⟩ F'.loc0.2.2⟩, ?_, ?_, F'.ne, ?_, F'.len, F'.va, ?_, F'.oinj⟩
 ·intro i x h1 h2 h3
  obtain ⟨c, e1, e2, e3, e4, e5⟩ := (F'.cel i x h1 h2 h3)
  obtain ⟨_, v, o, e, _⟩ := (F.cr x c e1)
  exact ⟨c, e1, e2, e3, e4, off _ ⟨_, e⟩ e5⟩
 ·intro x c h
  obtain ⟨h1, v, o, e, _⟩ := (F.cr x c h)
  exact ⟨off _ ⟨_, e⟩ h1, (F'.cr x c h).2⟩
 ·intro b hb
  rcases List.mem_append.mp hb with h | h
  ·exact ⟨(hw b h).1, s0 b h, hl b h⟩
  ·exact F'.res b h
 ·intro i x xs h1 h2
  obtain ⟨a, h⟩ := (F'.own i x xs h1 h2)
  obtain ⟨_, ⟨vs, c, e, _⟩, _, _, _⟩ := (F.own i x xs h1 h2)
  exact ⟨a, h.at_, h.z, h.z0, off _ ⟨_, e⟩ h.r, h.l⟩
theorem Fm.letgo (F : Fm K mg mb s₀ Z₀ env nm st (wr ++ R) Z ρ ow s) (keep : ∀ b o, b ∉ wr → s.heap.get? b = some o → s'.heap.get? b = some o) (hb : AllBare s.gens → AllBare s'.gens) (ho : s'.os = s.os) (hR : ∀ b ∈ R, b ∉ wr) : Fm K mg mb s₀ Z₀ env nm st R Z ρ ow s' := by
 have nw : ∀ b, b ∉ wr ++ R → b ∉ wr ∧ b ∉ R := fun b h => ⟨fun q => h (List.mem_append_left _ q), fun q => h (List.mem_append_right _ q)⟩
 haveI zw : ∀ b o, Z b = some o → b ∉ wr := fun b o e q => by have := (F.res b (List.mem_append_left _ q)).1; rw [e] at this; cases this
 haveI z0 : ∀ b o, s₀.heap.get? b = some o → b ∉ wr := fun b o e q => by have := (F.res b (List.mem_append_left _ q)).2.1; rw [e] at this; cases this
 obtain ⟨m, hm⟩ := F.loc
 have hm' : s'.heap.Ns env.locals m := hm.at' fun o e => keep _ o (nw _ F.loc0.2.2).1 e
 have at' : ∀ x v, At env s.heap x v → At env s'.heap x v := by
  intro x v a
  rcases a with ⟨a1, m', a2, a3⟩ | ⟨a1, c, a2, o, a3, a4⟩
  ·exact .inl ⟨a1, m, hm', (Ns.det hm a2 x).trans a3⟩
  ·exact .inr ⟨a1, c, a2, o, keep c o (nw _ (F.cr x c a2).1).1 a3, a4⟩
 refine ⟨F.gd0, F.hf0, ⟨fun b o e => (F.gr.keep b o e).elim fun o' p => ⟨o', keep b o' (z0 b o e) p.1, p.2⟩, F.gr.le, fun b o e => keep b o (zw b o e) (F.gr.sub b o e), F.gr.fresh, fun q => hb (F.gr.bare q), ho.trans F.gr.os⟩, ⟨m, hm'⟩, ⟨F.loc0.1, F.loc0.2.1, (nw _ F.loc0.2.2).2⟩, ?_, ?_, F.ne, ?_, F.len, ?_, ?_, F.oinj⟩
 ·intro i x hs hn hk
  obtain ⟨c, h1, ⟨v₀, o, e, hd⟩, h3, h4, h5⟩ := (F.cel i x hs hn hk)
  exact ⟨c, h1, ⟨v₀, o, keep c o (nw _ h5).1 e, hd⟩, h3, h4, (nw _ h5).2⟩
 ·intro x c h
  obtain ⟨h1, v, o, e, hd⟩ := (F.cr x c h)
  exact ⟨(nw _ h1).2, v, o, keep c o (nw _ h1).1 e, hd⟩
 ·intro b hb'
  obtain ⟨h1, h2, o, e⟩ := (F.res b (List.mem_append_right _ hb'))
  exact ⟨h1, h2, o, keep b o (hR b hb') e⟩
 ·intro i x V hn hv
  obtain ⟨v, a, r⟩ := (F.va i x V hn hv)
  exact ⟨v, at' _ _ a, r⟩
 ·intro i x xs hn hv
  obtain ⟨a, ⟨vs, c, e, r⟩, h1, h2, h3, h4⟩ := (F.own i x xs hn hv)
  exact ⟨at' _ _ a, ⟨vs, c, keep _ _ (nw _ h3).1 e, r⟩, h1, h2, (nw _ h3).2, h4⟩
theorem getS_freeze : ∀ (ρ : List Slot) (i : Nat), getS (ρ.map freeze1) i = freeze1 (getS ρ i)
 | [], _ => rfl
 | _ :: _, 0 => rfl
 | _ :: r, i + 1 => by simpa [getS] using getS_freeze r i
theorem Fm.frz (F : Fm K mg mb s₀ Z₀ env nm st R Z ρ ow s) : Fm K mg mb s₀ Z₀ env nm st R (zOwn Z nm ρ ow s) (ρ.map freeze1) ow s := by
 have hown : ∀ b, (∃ i xs, i < nm.length ∧ getS ρ i = .o xs ∧ ow i = b) → s₀.heap.get? b = none ∧ b ∉ R ∧ ∃ vs c, s.heap.get? b = some (listOf (vs : List Value).toArray c) := by
  intro b zz; obtain ⟨i, xs, hi, h, rfl⟩ := (zz)
  obtain ⟨x, hx⟩ := nm_get hi
  obtain ⟨_, ⟨vs, c, e, _⟩, h1, h2, h3, h4⟩ := (F.own i x xs hx h)
  exact ⟨h2, h3, vs, c, e⟩
 have zn : ∀ b, Z b = none → (∀ vs c, s.heap.get? b ≠ some (listOf (vs : List Value).toArray c)) → zOwn Z nm ρ ow s b = none := fun b hz hl => by
  unfold zOwn
  split
  ·rename_i h
   obtain ⟨_, _, vs, c, e⟩ := (hown b h)
   exact absurd e (hl vs c)
  ·exact hz
 obtain ⟨m, hm⟩ := F.loc
 refine ⟨F.gd0, F.hf0, ⟨F.gr.keep, F.gr.le.trans (zOwn_le F), zOwn_sub F, fun b o e => ?_, F.gr.bare, F.gr.os⟩, F.loc, ⟨F.loc0.1, zn _ F.loc0.2.1 (fun vs c e => ns_not_list hm e), F.loc0.2.2⟩, ?_, F.cr, ?_, ?_, by rw [List.length_map]; exact F.len, ?_, ?_, ?_⟩
 ·unfold zOwn at e
  split at e
  ·rename_i h
   exact .inr (hown b h).1
  ·exact F.gr.fresh b o e
 ·intro i x h1 h2 h3
  obtain ⟨c, e1, ⟨v₀, e2⟩, e3, e4, e5⟩ := (F.cel i x h1 h2 h3)
  exact ⟨c, e1, ⟨v₀, e2⟩, e3, zn _ e4 (fun vs k e => cell_not_list e2 e), e5⟩
 ·intro i j x h1 h2 h3 h4
  rw [getS_freeze, F.ne i j x h1 h2 h3 h4]; rfl
 ·intro b hb
  obtain ⟨h1, h2, h3⟩ := (F.res b hb)
  refine ⟨?_, h2, h3⟩
  unfold zOwn
  rw [if_neg]
  ·exact h1
  ·intro h; exact (hown b h).2.1 hb
 ·intro i x V hn hv
  rw [getS_freeze] at hv
  cases q : getS ρ i with
  | u => rw [q] at hv; cases hv
  | v V' =>
   rw [q] at hv; cases hv
   obtain ⟨v, a, r⟩ := (F.va i x V hn q)
   exact ⟨v, a, r.mono (zOwn_le F)⟩
  | o xs =>
   rw [q] at hv; cases hv
   obtain ⟨a, ⟨vs, c, e, r⟩, h1, h2, h3, h4⟩ := (F.own i x xs hn q)
   refine ⟨_, a, .lst (n := c) ?_ h4 (r.mono (zOwn_le F))⟩
   unfold zOwn
   rw [if_pos ⟨i, xs, (List.getElem?_eq_some_iff.mp hn).1, q, rfl⟩]
   exact e
 ·intro i x xs hn hv
  rw [getS_freeze] at hv
  cases q : getS ρ i <;> (rw [q] at hv; cases hv)
 ·intro i j xs ys hv
  rw [getS_freeze] at hv
  cases q : getS ρ i <;> (rw [q] at hv; cases hv)
end
end
section
variable {A : Around} {E : Value → Shared → Prop} {s s' : Shared} {Z Z' : ZM}
theorem draw_walk {I : Addr} {fp wr : List Addr} {vs : List Value} {St : Nat → Heap → Prop} (W : Walks prog w A I fp wr vs.length (fun i v => vs[i]? = some v) St) : ∀ (m i : Nat) (s : Shared) (Q : List Value → Shared → Prop), St i s.heap → i + m ≤ vs.length →
  (∀ h' tk, St (i + m) h' → (∀ b o, b ∉ wr → s.heap.get? b = some o → h'.get? b = some o) → Q ((vs.drop i).take m) { s with heap := h', toks := tk }) → wpAny (model prog w) A (draw (.ref I) m) Q E s
 | 0, i, s, Q, hst, _, hQ => by
  show wpAny _ _ (pure []) Q E s
  exact wpAny_pure (by simpa using hQ s.heap s.toks hst (fun J J J e => e))
 | m + 1, i, s, Q, hst, hle, hQ => by
  have hlt : i < vs.length := by omega
  show wpAny _ _ (pyNext (.ref I) >>= _) Q E s
  refine wpAny_bind (W.item i s _ E hlt hst fun v h' tk hv st' k => ?_)
  refine wpAny_bind (wpAny_holding (draw_walk W m (i + 1) _ _ st' (by omega) fun h₂ tk₂ st₂ k₂ => wpAny_pure ?_))
  haveI hd : vs.drop i = v :: vs.drop (i + 1) := by
   rw [List.drop_eq_getElem_cons hlt]
   congr 1
   haveI := List.getElem?_eq_getElem hlt
   rw [hv] at this
   exact (Option.some.inj this).symm
  haveI := hQ h₂ tk₂ (by rw [show i + (m + 1) = i + 1 + m by omega]; exact st₂) (fun b o hb e => k₂ b o hb (k b o hb e))
  rw [hd, List.take_succ_cons] at this
  exact this
theorem unpackItems_list {l : Addr} {vs : List Value} {Q : List Value → Shared → Prop} (hh : A.handled = none) (hl : s.heap.IsList l vs.toArray)
  (hQ : ∀ h' tk, (∀ b o, s.heap.get? b = some o → h'.get? b = some o) → Q vs { s with heap := h', toks := tk }) : wpAny (model prog w) A (unpackItems (.ref l) vs.length none) Q E s := by
 haveI hlt : l ≠ s.heap.objs.size := by obtain ⟨o, ho, _⟩ := (hl); exact Nat.ne_of_lt (Heap.lt_size ho)
 haveI W0 := Walks.list (prog := prog) (w := w) (A := A) hh s.heap.objs.size l hlt vs.toArray
 have W : Walks prog w A s.heap.objs.size [s.heap.objs.size, l] [s.heap.objs.size] vs.length (fun i v => vs[i]? = some v) (fun i h => h.IsListIter s.heap.objs.size l i ∧ h.IsList l vs.toArray) := by
  haveI e : (fun i v => vs.toArray[i]? = some v) = fun (i : Nat) v => vs[i]? = some v := by funext i v; simp
  rw [List.size_toArray] at W0
  rw [e] at W0
  exact W0
 unfold unpackItems
 refine wpAny_bind ?_
 unfold notIterableAtAll
 refine wpAny_bind (wpAny_specialOf hl.typeIs slot_list_iter.lookup ?_)
 refine wpAny_pure ?_
 simp only [Bool.false_eq_true, if_false]
 refine wpAny_bind (wpAny_holding (wpAny_pyIter_list hl ?_))
 refine wpAny_bind (wpAny_holding (draw_walk W vs.length 0 _ _ ⟨⟨_, Heap.get?_push_size _ rfl, rfl, rfl⟩, hl.push _⟩ (by omega) fun h₁ tk₁ st₁ k₁ => ?_))
 have hall : List.take vs.length (List.drop 0 vs) = vs := by rw [List.drop_zero]; exact List.take_of_length_le (Nat.le_refl _)
 rw [hall]
 rw [if_neg (by simp)]
 rw [Nat.zero_add] at st₁
 refine wpAny_bind (wpAny_holding (W.done _ _ _ st₁ fun h₂ tk₂ k₂ => ?_))
 simp only [Option.isSome_none, Bool.false_eq_true, if_false]
 refine wpAny_pure (hQ h₂ tk₂ fun b o e => ?_)
 haveI hb : b ∉ [s.heap.objs.size] := fun q => by rw [List.mem_singleton.mp q] at e; rw [new_none] at e; cases e
 exact k₂ b o hb (k₁ b o hb (push_keep _ _ _ _ e))
theorem unpackItems_rep {v : Value} {x : V} {P : List V → Prop} {m : Nat} {Q : List Value → Shared → Prop} (hh : A.handled = none) (hz : ∀ b o, Z b = some o → s.heap.get? b = some o) (r : Rep Z v x) (h : onItems x P) (hm : ∀ xs, P xs → xs.length = m)
  (hQ : ∀ vs xs h' tk, (∀ b o, s.heap.get? b = some o → h'.get? b = some o) → RepL Z vs xs → P xs → Q vs { s with heap := h', toks := tk }) : wpAny (model prog w) A (unpackItems v m none) Q E s := by
 obtain ⟨a, o, vs, n, xs, Ty, rfl, ho, hc, hT, hd, hl, rl, hx, e⟩ := (r.items_inv h)
 have e1 := hm _ hx
 rcases e with rfl | rfl
 ·obtain ⟨l, us, c, e, ho', hl', r'⟩ := (r.lst_inv)
  cases e
  haveI := unpackItems_list (A := A) (E := E) (s := s) (l := a) (vs := us) hh ⟨_, hz _ _ ho', rfl, _, rfl⟩ (fun h' tk k => hQ us xs h' tk k r' hx)
  rw [r'.length, e1] at this
  exact this
 ·obtain ⟨l, o', us, c, e, ho', hc', hd', hl', r'⟩ := (r.tup_inv)
  cases e
  haveI := PyProof.Rows.unpackItems_tuple (prog := prog) (w := w) (A := A) (E := E) (s := s) (t := a) (items := us.toArray) (Q := Q) hh ⟨_, hz _ _ ho', hc', _, hd'⟩ (fun h' he => hQ us xs h' s.toks (fun b o e => he b o (Nat.ne_of_lt (Heap.lt_size e)) e) r' hx)
  rw [List.size_toArray, r'.length, e1] at this
  exact this
theorem typeLookup_list_iadd : seqSlot? (.type "list") (dunderI "add") = pure (some (.builtin "list.__iadd__")) := PySem.seqSlot_of F.slot_list_iadd.lookup (by decide +kernel)
theorem iadd_list {l b : Addr} {us ws : List Value} {c d : Nat} {Q : Value → Shared → Prop} (hl : s.heap.get? l = some (listOf us.toArray c)) (hb : s.heap.get? b = some (listOf ws.toArray d)) (hz : us.length + ws.length ≤ sizeLine)
  (h : ∀ h' c', h'.get? l = some (listOf (us ++ ws).toArray c') → Heap.SameBut l s.heap h' → Q (.ref l) { s with heap := h' }) : wpAny (model prog w) A (inplaceOp .Add (.ref l) (.ref b)) Q E s := by
 have ha : s.TypeIs (.ref l) "list" := ⟨_, hl, rfl⟩
 have hb' : s.TypeIs (.ref b) "list" := ⟨_, hb, rfl⟩
 unfold inplaceOp
 refine wpAny_holding ?_
 have hfi : fillsInplaceSlot (.type "list") "add" (Operator.Add == .Add) = pure false := by
  unfold fillsInplaceSlot
  show (typeLookup (.type "list") (dunderI "add") >>= fun fi => pure (fi.isSome && !isSeqSlot fi)) = pure false
  rw [F.slot_list_iadd.lookup]
  show (pure (true && !isSeqSlot (some (.builtin "list.__iadd__"))) : Sem Bool) = pure false
  rw [show isSeqSlot (some (.builtin "list.__iadd__")) = true from by decide +kernel]
  rfl
 refine wpAny_bind (wpAny_typeOf ha (wpAny_bind (wpAny_of_eq hfi ?_)))
 show wpAny _ A (if false = true then _ else _) Q E s
 rw [if_neg Bool.false_ne_true]
 refine wpAny_bind (wpAny_binaryOp1_none (nm := "add") ha hb' noFill_list_add ?_)
 refine wpAny_bind (wpAny_of_eq typeLookup_list_iadd ?_)
 refine wpAny_bind (wpAny_rule (call_meets F.slot_list_iadd ha F.entry_list_iadd (F.args_list_iadd_2 _ _) (AutoSeq1.list___iadd___list_list_0 l us.toArray c b ws.toArray d (extend_door (by simpa using hz)) (by simp; omega) (by simp; omega)) ⟨hl, hb, ?_⟩))
 haveI e : us.toArray ++ ws.toArray = (us ++ ws).toArray := by simp
 refine h _ (if (us.toArray ++ ws.toArray).size == us.toArray.size then c else c + 1) ?_ (Heap.SameBut.update ..)
 haveI q := PySem.IsL.update hl (fun x => x ++ ws.toArray)
 rw [e] at q
 rw [e]
 exact q
theorem pop_list {l : Addr} {us : List Value} {y : Value} {c : Nat} {Q : Value → Shared → Prop} (hl : s.heap.get? l = some (listOf (us ++ [y]).toArray c)) (hz : us.length + 1 ≤ sizeLine)
  (h : ∀ h' c', h'.get? l = some (listOf us.toArray c') → Heap.SameBut l s.heap h' → Q y { s with heap := h' }) : wpAny (model prog w) A (call (.builtin "list.pop") [.ref l]) Q E s := by
 haveI hz' : (us ++ [y]).toArray.size ≤ sizeLine := by rw [List.size_toArray, List.length_append]; exact hz
 haveI hk : (us ++ [y]).toArray.size - 1 = us.length := by rw [List.size_toArray, List.length_append]; rfl
 haveI hy : (us ++ [y]).toArray[(us ++ [y]).toArray.size - 1]? = some y := by rw [hk]; simp
 refine call_meets PySem.F.slot_list_pop ⟨_, hl, rfl⟩ PySem.F.entry_list_pop (PySem.F.args_list_pop_1 _) (PySem.MeetsSeq.list_pop_last l _ c y hy hz') ⟨hl, h _ (c + 1) ?_ (Heap.SameBut.update ..)⟩
 haveI e : (us ++ [y]).toArray.eraseIdxIfInBounds ((us ++ [y]).toArray.size - 1) = us.toArray := by rw [hk, kl_erase, List.append_nil]
 haveI q := PySem.IsL.update hl (fun xs => xs.eraseIdxIfInBounds ((us ++ [y]).toArray.size - 1))
 rw [e, if_neg (by simp)] at q
 exact q
theorem setAt_list {l : Addr} {us : List Value} {v : Value} {c : Nat} {k : Int} {t : Tok} {Q : Unit → Shared → Prop} (hl : s.heap.get? l = some (listOf us.toArray c)) (h0 : 0 ≤ k) (hk : k.toNat < us.length) (hz : us.length ≤ 64)
  (h : ∀ h' c', h'.get? l = some (listOf (us.set k.toNat v).toArray c') → Heap.SameBut l s.heap h' → Q () { s with heap := h' }) : wpAny (model prog w) A (setItem (.ref l) (.int k t) v) Q E s := by
 refine ki_setAt hl h0 (by omega) (by rw [List.size_toArray]; omega) (h _ c ?_ (Heap.SameBut.update ..))
 haveI e : us.toArray.setIfInBounds k.toNat v = (us.set k.toNat v).toArray := by simp
 haveI q := PySem.IsL.update hl (fun xs => xs.setIfInBounds k.toNat v)
 rw [e] at q
 simpa using q
theorem getAt_list {l : Addr} {us : List Value} {x : Value} {c : Nat} {k : Int} {t : Tok} {Q : Value → Shared → Prop} (hl : s.heap.get? l = some (listOf us.toArray c)) (h0 : 0 ≤ k) (hk : us[k.toNat]? = some x) (hz : us.length ≤ 64) (h : Q x s) : wpAny (model prog w) A (getItem (.ref l) (.int k t)) Q E s := by
 have hlt : k.toNat < us.length := (List.getElem?_eq_some_iff.mp hk).1
 exact wpAny_getItem_list (items := us.toArray) ⟨_, hl, rfl, _, rfl⟩ h0 (by omega) (by simpa using hk) h
end
section
set_option backward.match.sparseCases true
structure Fx (n : Nat) (A : Around) (env : Env) (sc : Scope) (nm : List Str) : Prop where
 S : FS env nm (fun J => true)
 a : OkA A (n + 1)
 so : ScOk sc env
 bk : env.blockKind = .function
 es : env.scope = sc
abbrev FM (K : Frag) (mg mb : Str → Option Value) (s₀ : Shared) (Z₀ : ZM) (env : Env) (nm : List Str) (R : List Addr) (Z : ZM) (ρ : List Slot) (ow : Nat → Addr) (s : Shared) : Prop := Fm K mg mb s₀ Z₀ env nm (fun J => true) R Z ρ ow s
section
variable {n : Nat} {T : Tab} {A : Around} {E : Value → Shared → Prop} {s₀ s s' : Shared} {Z₀ Z Z' Zb : ZM} {env : Env} {nm : List Str} {R wr : List Addr} {ρ : List Slot} {ow : Nat → Addr} {sc : Scope}
theorem KeepR.trans {s s' s'' : Shared} (a : KeepR R s s') (b : KeepR R s' s'') : KeepR R s s'' := fun x hx o e => b x hx o (a x hx o e)
theorem KeepR.grow (F : FM K mg mb s₀ Z₀ env nm R Z ρ ow s) {Za Zb : ZM} (g : Grow Za s Zb s') : KeepR R s s' := fun x hx o e => g.keep.atT e (F.resT x hx)
theorem KeepR.refl : KeepR R s s := fun J J J e => e
theorem chkB_t {v : V} {P : Prop} (h : chkB true v P) : noLst 5 v = true ∧ P := by
 have h : (match noLst 5 v with | true => P | false => False) := h
 cases q : noLst 5 v with
 | true => rw [q] at h; exact ⟨rfl, h⟩
 | false => rw [q] at h; exact h.elim
theorem allNo_e {vs : List V} {P : Prop} (h : allNo vs P) : (∀ x ∈ vs, noLst 5 x = true) ∧ P := by
 have h : (match vs.all (noLst 5) with | true => P | false => False) := h
 cases q : vs.all (noLst 5) with
 | true => rw [q] at h; exact ⟨List.all_eq_true.mp q, h⟩
 | false => rw [q] at h; exact h.elim
theorem backL {v : ZM} {zs zb : ZM} (h : ∀ u x n, noLst n x = true → Rep zs u x → Rep zb u x) {vs : List Value} {xs : List V} {n : Nat} (hn : ∀ x ∈ xs, noLst n x = true) (r : RepL zs vs xs) : RepL zb vs xs :=
 RepL.ind (P := fun vs xs => (∀ x ∈ xs, noLst n x = true) → RepL zb vs xs) (fun _ => .nil) (fun a _ ih hn => .cons (h _ _ n (hn _ (.head _)) a) (ih fun x hx => hn x (.tail _ hx))) r hn
theorem Fm.ev (X : Fx n A env sc nm) (F : FM K mg mb s₀ Z₀ env nm R Z ρ ow s) {ie : IE} {e : Expr} {b : Bool} {k : V → Prop} {Q : Value → Shared → Prop} (hp : PE prog w K mg mb n T ie) (hc : chkE sc nm ie e = true)
  (h : obK b ρ fun σ => wE T ie σ fun v => chkB b v (k v)) (hk : ∀ u x Z' s', FM K mg mb s₀ Z₀ env nm R Z' ρ ow s' → ZLe Z Z' → KeepR R s s' → Rep Z' u x → k x → Q u s') : wpAny (model prog w) A (eval e env) Q E s := by
 cases b with
 | false => exact hp _ _ _ _ _ _ _ _ _ _ _ (F.cx0 X.S X.a X.so) hc h fun u x Z' s' g r hx => hk u x Z' s' (F.grow g) g.le (KeepR.grow F g) r hx
 | true =>
  refine hp _ _ _ _ _ _ _ _ _ _ _ (F.cx1 X.S X.a X.so) hc h fun u x Z' s' g r hx => ?_
  obtain ⟨hn, hx⟩ := (chkB_t hx)
  obtain ⟨F', hb⟩ := (F.back g)
  exact hk u x _ s' F' (zBack_le F g) (KeepR.grow F g) (hb _ _ _ hn r) hx
theorem Fm.evC (X : Fx n A env sc nm) (F : FM K mg mb s₀ Z₀ env nm R Z ρ ow s) {ie : IE} {e : Expr} {k : Bool → Prop} {Q : Bool → Shared → Prop} (hp : PC prog w K mg mb n T ie) (hc : chkE sc nm ie e = true)
  (h : obK true ρ fun σ => wC T ie σ k) (hk : ∀ b Z' s', FM K mg mb s₀ Z₀ env nm R Z' ρ ow s' → ZLe Z Z' → KeepR R s s' → k b → Q b s') : wpAny (model prog w) A (isTrue e env (eval e env)) Q E s := by
 refine hp _ _ _ _ _ _ _ _ _ _ _ (F.cx1 X.S X.a X.so) hc h fun b Z' s' g hx => ?_
 exact hk b _ s' (F.back g).1 (zBack_le F g) (KeepR.grow F g) hx
theorem Fm.evO (X : Fx n A env sc nm) (F : FM K mg mb s₀ Z₀ env nm R Z ρ ow s) {ie : IE} {e : Expr} {k : List V → Prop} {Q : Value → Shared → Prop} (hp : PO prog w K mg mb n T ie) (hc : chkE sc nm ie e = true)
  (h : obK true ρ fun σ => wE T ie σ fun v => onItems v fun xs => allNo xs (k xs)) (hk : ∀ D xs Z' s', FM K mg mb s₀ Z₀ env nm R Z' ρ ow s' → ZLe Z Z' → KeepR R s s' → OwnAt s₀ R Z' s' D xs → s.heap.get? D = none → k xs → Q (.ref D) s') : wpAny (model prog w) A (eval e env) Q E s := by
 refine hp _ _ _ _ _ _ _ _ _ _ _ (F.cx1 X.S X.a X.so) hc h fun D vs c xs Z' s' g hD hD0 eD r hl hx => ?_
 obtain ⟨hn, hx⟩ := (allNo_e hx)
 obtain ⟨F', hb⟩ := (F.back g)
 refine hk D xs _ s' F' (zBack_le F g) (KeepR.grow F g) ⟨⟨vs, c, eD, backL (v := Z) hb hn r⟩, ?_, none_before F.gr hD0, fun q => ?_, hl⟩ hD0 hx
 ·unfold zBack
  split
  ·rfl
  ·exact hD
 ·obtain ⟨_, _, o, e⟩ := (F.res _ q)
  rw [hD0] at e; cases e
theorem Fm.storeO {x : Str} {D : Addr} {xs : List V} {j : Nat} {Q : Unit → Shared → Prop} (F : FM K mg mb s₀ Z₀ env nm R Z ρ ow s) (X : Fx n A env sc nm) (hx : nm[j]? = some x) (hD : OwnAt s₀ R Z s D xs) (hne : ∀ i ys, getS ρ i = .o ys → ow i ≠ D)
  (h : ∀ s', FM K mg mb s₀ Z₀ env nm R Z (setS ρ j (.o xs)) (fun i => if i = j then D else ow i) s' → KeepR R s s' → Q () s') : wpAny (model prog w) A (storeName env x (.ref D)) Q E s := by
 refine F.store (sl := .o xs) (ow' := fun i => if i = j then D else ow i) X.S rfl hx ⟨by simp, by simpa using hD⟩ (fun i ys J hi => by simp [hi]) (fun xs' q i ys hi hij => ?_) h
 simpa using hne i ys hi
theorem own_ne (F : FM K mg mb s₀ Z₀ env nm R Z ρ ow s) {D : Addr} (hD : s.heap.get? D = none) : ∀ i ys, getS ρ i = .o ys → ow i ≠ D := fun i ys hi q => by
 haveI hlt : i < nm.length := by rw [← F.len]; exact getS_len ρ i (by rw [hi]; intro z; cases z)
 obtain ⟨x, hx⟩ := nm_get hlt
 obtain ⟨_, ⟨vs, c, e, _⟩, _⟩ := (F.own i x ys hx hi)
 rw [q, hD] at e; cases e
noncomputable def AllAt (nm : List Str) : List Nat → List Str → Prop
 | [], [] => True
 | i :: is, x :: xs => nm[i]? = some x ∧ AllAt nm is xs
 | _, _ => False
theorem AllAt.app {nm : List Str} {j : Nat} {y : Str} (hy : nm[j]? = some y) {is : List Nat} : ∀ {xs : List Str}, AllAt nm is xs → AllAt nm (is ++ [j]) (xs ++ [y]) := by
 induction is with
 | nil => intro xs h; cases xs <;> first | exact ⟨hy, trivial⟩ | exact h.elim
 | cons i is ih => intro xs h; cases xs <;> first | exact ⟨h.1, ih h.2⟩ | exact h.elim
theorem AllAt.rev {nm : List Str} {is : List Nat} : ∀ {xs : List Str}, AllAt nm is xs → AllAt nm is.reverse xs.reverse := by
 induction is with
 | nil => intro xs h; cases xs <;> first | exact trivial | exact h.elim
 | cons i is ih =>
  intro xs h
  cases xs with
  | nil => exact h.elim
  | cons x xs => rw [List.reverse_cons, List.reverse_cons]; exact AllAt.app h.1 (ih h.2)
theorem RepL.rev {Z : ZM} {vs : List Value} {xs : List V} (r : RepL Z vs xs) : RepL Z vs.reverse xs.reverse :=
 RepL.ind (P := fun vs xs => RepL Z vs.reverse xs.reverse) .nil (fun h J q => by rw [List.reverse_cons, List.reverse_cons]; exact q.append (.cons h .nil)) r
theorem Fm.namesB (X : Fx n A env sc nm) (is : List Nat) : ∀ (ns : List Str) (vs : List Value) (xs : List V) (ρ ρ' : List Slot) (s : Shared) (Q : Unit → Shared → Prop), AllAt nm is ns → RepL Z vs xs → setAllS ρ is xs = some ρ' →
  FM K mg mb s₀ Z₀ env nm R Z ρ ow s → (∀ s', FM K mg mb s₀ Z₀ env nm R Z ρ' ow s' → KeepR R s s' → Q () s') → wpAny (model prog w) A (assignInOrder (ns.map fun x => bindName env x) vs) Q E s := by
 induction is with
 | nil =>
  intro ns vs xs ρ ρ' s Q hc r hs F h
  cases ns with
  | nil =>
   cases xs with
   | nil => cases hs; cases r; exact assignInOrder_nil (h s F fun J J J e => e)
   | cons x xs => cases hs
  | cons n ns => exact hc.elim
 | cons i is ih =>
  intro ns vs xs ρ ρ' s Q hc r hs F h
  cases ns with
  | nil => exact hc.elim
  | cons n ns =>
   cases xs with
   | nil => cases hs
   | cons v xs =>
    obtain ⟨u, us, rfl, hr, r⟩ := (r.cons_inv)
    refine assignInOrder_cons (wpAny_bindName (F.storeV X.S rfl hc.1 hr fun s' F' k' => ?_))
    exact ih ns _ xs _ ρ' s' Q hc.2 r hs F' fun s'' F'' k'' => h s'' F'' fun b hb o e => k'' b hb o (k' b hb o e)
theorem setAllS_in (is : List Nat) : ∀ (xs : List V) (ρ : List Slot) (j : Nat) (v : V), hasN is j = false → setAllS (setS ρ j (.v v)) is xs = (setAllS ρ is xs).map (fun r => setS r j (.v v)) := by
 induction is with
 | nil => intro xs _ _ _ _; cases xs <;> rfl
 | cons i is ih =>
  intro xs ρ j v h
  cases xs with
  | nil => rfl
  | cons x xs =>
   haveI h : (match Nat.beq i j with | true => true | false => hasN is j) = false := h
   cases q : Nat.beq i j with
   | true => rw [q] at h; cases h
   | false =>
    rw [q] at h
    haveI hij : j ≠ i := fun e => by rw [e, Nat.beq_refl] at q; cases q
    exact (congrArg (fun ρ => setAllS ρ is xs) (List.set_comm _ _ hij)).trans (ih xs _ j v h)
theorem setAllS_app (is : List Nat) : ∀ (xs : List V) (ρ : List Slot) (j : Nat) (v : V), is.length = xs.length → setAllS ρ (is ++ [j]) (xs ++ [v]) = (setAllS ρ is xs).map (fun r => setS r j (.v v)) := by
 induction is with
 | nil => intro xs _ _ _ h; cases xs <;> first | rfl | cases h
 | cons i is ih =>
  intro xs ρ j v h
  cases xs with
  | nil => cases h
  | cons x xs => exact ih xs (setS ρ i (.v x)) j v (Nat.succ.inj h)
theorem setAllS_rev (is : List Nat) : ∀ (xs : List V) (ρ : List Slot), nodupI is = true → is.length = xs.length → setAllS ρ is.reverse xs.reverse = setAllS ρ is xs := by
 induction is with
 | nil => intro xs _ _ h; cases xs <;> first | rfl | cases h
 | cons i is ih =>
  intro xs ρ h hl
  cases xs with
  | nil => cases hl
  | cons x xs =>
   obtain ⟨h1, h2⟩ := (Bool.and_eq_true_iff.mp (show (!hasN is i && nodupI is) = true from h))
   rw [List.reverse_cons, List.reverse_cons, setAllS_app _ _ _ _ _ ((List.length_reverse ..).trans ((Nat.succ.inj hl).trans (List.length_reverse ..).symm)), ih xs ρ h2 (Nat.succ.inj hl)]
   exact (setAllS_in is xs ρ i x ((Bool.not_eq_true' _).mp h1)).symm
theorem swp_some {sc : Scope} {ts vs : List Expr} {ns : List Str} (h : swp sc ts vs = some (some ns)) : ns = swpNames sc ts ∧ ns.length = ts.length := by
 refine ite_e (show ite _ _ _ = _ from h) (fun _ h => ?_) fun _ h => ?_
 ·cases h
 refine ite_e h (fun _ h => ?_) fun _ h => ?_
 ·cases h
 refine ite_e h (fun _ h => ?_) fun hn h => ?_
 ·cases h
 refine ite_e h (fun _ h => ?_) fun _ h => ?_
 ·cases h
 refine ite_e h (fun _ h => ?_) fun _ h => ?_
 ·cases h
 cases h
 exact ⟨rfl, Classical.byContradiction fun q => hn (Bool.or_eq_true_iff.mpr (.inl (bne_iff_ne.mpr q)))⟩
theorem filt_len {α β : Type} (f : α → Option β) : ∀ (l : List α), (l.filterMap f).length ≤ l.length := List.length_filterMap_le f
theorem names_at (f : Expr → Option Str) (hf : ∀ x p y, f (.Name x p) = some y → y = x) (is : List Nat) : ∀ ts : List Expr, chkNames nm is ts = true → (ts.filterMap f).length = ts.length → AllAt nm is (ts.filterMap f) := by
 induction is with
 | nil => exact fun es h _ => un0_e h fun J => trivial
 | cons i is ih =>
  intro es h hl
  revert hl
  refine onCo_e h fun e es h => an2 h fun h0 h hl => ?_
  revert hl
  refine onNm_e h0 fun x p h0 hl => ?_
  cases q : f (.Name x p) with
  | none =>
   rw [List.filterMap_cons, q] at hl
   exact absurd (Nat.le_trans (Nat.le_of_eq (show es.length + 1 = _ from hl.symm)) (filt_len f es)) (Nat.not_succ_le_self _)
  | some y =>
   cases hf _ _ _ q
   rw [List.filterMap_cons, q] at hl ⊢
   exact ⟨nmAt_eq _ _ _ (an2 h0 fun h J => h), ih es h (Nat.succ.inj hl)⟩
theorem Fm.spread (X : Fx n A env sc nm) (F : FM K mg mb s₀ Z₀ env nm R Z ρ ow s) {is : List Nat} {ts vs : List Expr} {k : Nat} {p : Pos} {v : Value} {x : V} {sw : Option (List Str)} {kn : List Slot → Prop} {Q : Flow → Shared → Prop} (hc : chkNames nm is ts = true) (hnd : nodupI is = true)
  (hsw : sw = none ∨ swp sc ts vs = some sw) (r : Rep Z v x) (hx : onItems x fun xs => onRho (setAllS ρ is xs) kn) (h : ∀ ρ' s', FM K mg mb s₀ Z₀ env nm R Z ρ' ow s' → KeepR R s s' → kn ρ' → Q .next s') :
  wpAny (model prog w) A (assignStores env v sw ((assignEach [.Tuple ts k p] env).map (·.2))) Q E s := by
 have hlen : ∀ xs, onRho (setAllS ρ is xs) kn → xs.length = is.length := fun xs hx => by
  cases q : setAllS ρ is xs with
  | none => rw [q] at hx; exact hx.elim
  | some ρ' => exact (setAllS_len q).symm
 have hst : ∀ xs, onRho (setAllS ρ is xs) kn → ∃ ρ', setAllS ρ is xs = some ρ' ∧ kn ρ' := fun xs hx => by
  cases q : setAllS ρ is xs with
  | none => rw [q] at hx; exact hx.elim
  | some ρ' => rw [q] at hx; exact ⟨ρ', rfl, evL_o hx⟩
 obtain ⟨e1, e2⟩ := (each_len (env := env) hc)
 haveI plain : wpAny (model prog w) A (assignStores env v none ((assignEach [.Tuple ts k p] env).map (·.2))) Q E s := by
  show wpAny _ A (do assignAll v [assign (.Tuple ts k p) env]; pure .next) Q E s
  refine wpAny_bind ?_
  show wpAny _ A (assign (.Tuple ts k p) env v) _ E s
  rw [PyProof.Rows.assign_Tuple]
  refine wpAny_bind (wpAny_standAt ?_)
  unfold unpack
  rw [e2]
  refine wpAny_bind (wpAny_holding ?_)
  refine unpackItems_rep X.a.h F.gr.sub r hx (fun xs hx => by rw [e1, hlen xs hx]) fun us xs h' tk kp rl hx => ?_
  obtain ⟨ρ', hs, hk⟩ := (hst xs hx)
  have g : Grow Z s Z { s with heap := h', toks := tk } := Grow.still F.gr.sub kp id rfl
  exact Fm.names X.S is ts us xs ρ ρ' _ _ hc (fun J J => rfl) rl hs (F.grow g) fun s'' F'' k'' => wpAny_pure (h ρ' s'' F'' ((KeepR.grow F g).trans k'') hk)
 cases sw with
 | none => exact plain
 | some ns =>
  rcases hsw with h1 | h1
  ·cases h1
  ·obtain ⟨rfl, hl⟩ := (swp_some h1)
   have at' := names_at (nm := nm) (fun (e : Expr) => match e with
    | .Name id pos => if sc.names.lookup id == some .local && pos.line == (ts.head?.map (·.pos.line)).getD 0 then some id else none
    | _ => none) (fun x p y q => by
     dsimp only at q
     split at q
     ·exact (Option.some.inj q).symm
     ·cases q) is ts hc hl
   haveI hisl : is.length = (swpNames sc ts).length := by
    haveI : ∀ {is : List Nat} {xs : List Str}, AllAt nm is xs → is.length = xs.length := by
     intro is
     induction is with
     | nil => intro xs h; cases xs with
      | nil => rfl
      | cons => exact h.elim
     | cons i is ih => intro xs h; cases xs with
      | nil => exact h.elim
      | cons => simp [ih h.2]
    exact this at'
   show wpAny _ A (do rule "assign.swapped-stores"; let items ← unpackItems v (swpNames sc ts).length none; assignInOrder ((swpNames sc ts).reverse.map fun n => bindName env n) items.reverse; pure .next) Q E s
   refine wpAny_bind (wpAny_rule (wpAny_bind ?_))
   refine unpackItems_rep X.a.h F.gr.sub r hx (fun xs hx => by rw [hlen xs hx, hisl]) fun us xs h' tk kp rl hx => ?_
   obtain ⟨ρ', hs, hk⟩ := (hst xs hx)
   have g : Grow Z s Z { s with heap := h', toks := tk } := Grow.still F.gr.sub kp id rfl
   refine wpAny_bind (Fm.namesB X is.reverse (swpNames sc ts).reverse us.reverse xs.reverse ρ ρ' _ _ at'.rev rl.rev (by rw [setAllS_rev is xs ρ hnd (setAllS_len hs)]; exact hs) (F.grow g) fun s'' F'' k'' => wpAny_pure (h ρ' s'' F'' ((KeepR.grow F g).trans k'') hk))
end
end
section
section
variable (prog : Program) (w : World) (K : Frag) (mg mb : Str → Option Value) (n : Nat) (T : Tab)
noncomputable def PS (is : IS) : Prop := ∀ (A : Around) (env : Env) (sc : Scope) (nm : List Str) (s₀ : Shared) (Z₀ : ZM) (R : List Addr) (Z : ZM) (ρ : List Slot) (ow : Nat → Addr) (s : Shared) (kn : List Slot → Prop) (kr : V → Prop) (Q : Flow → Shared → Prop) (E : Value → Shared → Prop) (st : Stmt),
 Fx n A env sc nm → FM K mg mb s₀ Z₀ env nm R Z ρ ow s → chkS sc nm is st = true → wS T is ρ kn kr →
 (∀ Z' ρ' ow' s', FM K mg mb s₀ Z₀ env nm R Z' ρ' ow' s' → ZLe Z Z' → KeepR R s s' → kn ρ' → Q .next s') →
 (∀ v V Z' s', Grow Z₀ s₀ Z' s' → Rep Z' v V → kr V → Q (.ret v) s') → wpAny (model prog w) A (exec st env) Q E s
noncomputable def PSs (is : IS) : Prop := ∀ (A : Around) (env : Env) (sc : Scope) (nm : List Str) (s₀ : Shared) (Z₀ : ZM) (R : List Addr) (Z : ZM) (ρ : List Slot) (ow : Nat → Addr) (s : Shared) (kn : List Slot → Prop) (kr : V → Prop) (Q : Flow → Shared → Prop) (E : Value → Shared → Prop) (ss : List Stmt),
 Fx n A env sc nm → FM K mg mb s₀ Z₀ env nm R Z ρ ow s → chkSs sc nm is ss = true → wS T is ρ kn kr →
 (∀ Z' ρ' ow' s', FM K mg mb s₀ Z₀ env nm R Z' ρ' ow' s' → ZLe Z Z' → KeepR R s s' → kn ρ' → Q .next s') →
 (∀ v V Z' s', Grow Z₀ s₀ Z' s' → Rep Z' v V → kr V → Q (.ret v) s') → wpAny (model prog w) A (execs ss env) Q E s
end
section
variable {n : Nat} {T : Tab} {A : Around} {E : Value → Shared → Prop} {s₀ s s' : Shared} {Z₀ Z Z' Zb : ZM} {env : Env} {nm : List Str} {R wr : List Addr} {ρ : List Slot} {ow : Nat → Addr} {sc : Scope}
theorem sw_cases (v : Expr) (t : Str) (p : Pos) (line : Nat) (env : Env) (h : isSD v = false) : ∃ c, swapsWith v (some (.Name t p)) line env = pure c ∧ (c = true → isLC v = true) := by
 cases v <;> first
  | exact ⟨_, rfl, fun h => (Bool.false_ne_true h).elim⟩
  | exact ⟨_, rfl, fun J => rfl⟩
  | exact (Bool.false_ne_true h.symm).elim
theorem no_sd {sc : Scope} {nm : List Str} {ie : IE} {v : Expr} (h : chkE sc nm ie v = true) : isSD v = false := by
 cases ie <;> first
  | exact onCst_e h fun J J J J => rfl
  | exact onNm_e h fun J J J => rfl
  | exact onBin_e h fun J J J J J => rfl
  | exact onUn_e h fun J J J J => rfl
  | exact onBo_e h fun J J J J => rfl
  | exact onCm_e h fun J J J J J => rfl
  | exact onIf_e h fun J J J J J => rfl
  | exact onCal_e h fun J J J J J => rfl
  | exact onAttr_e h fun J J J J => rfl
  | exact onSub_e h fun J J J J => rfl
  | exact onTp_e h fun J J J J => rfl
  | exact onLst_e h fun J J J => rfl
  | exact onLC_e h fun J J J J J => rfl
  | exact (Bool.false_ne_true h).elim
theorem comp_ir {sc : Scope} {nm : List Str} {ie : IE} {a : Expr} {b : List Comprehension} {c : Scope} {d : Pos} (h : chkE sc nm ie (.ListComp a b c d) = true) : ∃ caps own pat it cond elt, ie = .comp caps own pat it cond elt := by
 cases ie <;> first | exact ⟨_, _, _, _, _, _, rfl⟩ | exact (Bool.false_ne_true h).elim
theorem swap_tail (X : Fx n A env sc nm) {y : Str} {py : Pos} {v : Value} {Ca : Addr} {m : Str → Option Value} {Z1 : ZM} {ρ2 : List Slot} {ow2 : Nat → Addr} {Q : Shared → Prop} (F : FM K mg mb s₀ Z₀ env nm R Z ρ ow s) (F1 : FM K mg mb s₀ Z₀ env nm R Z1 ρ ow s') (hC : Z1 Ca = none) (hC0 : s.heap.get? Ca = none) (hm : s'.heap.Ns Ca m)
  (hst : ∀ {Q : Unit → Shared → Prop}, FM K mg mb s₀ Z₀ env nm (Ca :: R) Z1 ρ ow s' → (∀ s'', FM K mg mb s₀ Z₀ env nm (Ca :: R) Z1 ρ2 ow2 s'' → KeepR (Ca :: R) s' s'' → Q () s'') → wpAny (model prog w) A (storeName env y v) Q E s')
  (hk : ∀ s'', FM K mg mb s₀ Z₀ env nm R Z1 ρ2 ow2 s'' → KeepR R s' s'' → Q s'') :
  wpAny (model prog w) A (assign (.Name y py) env v) (fun J s'' => ∃ m, s''.heap.Ns Ca m ∧ ∀ h', Heap.SameBut Ca s''.heap h' → Q { s'' with heap := h' }) E s' := by
 obtain ⟨oc, ec, hec⟩ : ∃ o, s'.heap.get? Ca = some o ∧ True := by obtain ⟨o, _, _, e, _⟩ := (hm); exact ⟨o, e, trivial⟩
 haveI F2 : FM K mg mb s₀ Z₀ env nm (Ca :: R) Z1 ρ ow s' := F.reserve2 (wr := [Ca]) F1 (fun b hb => by rw [List.mem_singleton.mp hb]; exact ⟨hC, hC0⟩) (fun b hb => by rw [List.mem_singleton.mp hb]; exact ⟨_, ec⟩)
 have hR : ∀ b ∈ R, b ∉ [Ca] := fun b hb q => by
  rw [List.mem_singleton.mp q] at hb
  obtain ⟨_, _, o, e⟩ := (F.res _ hb)
  rw [hC0] at e; cases e
 refine wpAny_assign_Name (hst F2 fun s'' F3 k3 => ⟨m, hm.at' fun o e => k3 Ca (List.mem_cons_self ..) o e, fun h' hs => ?_⟩)
 have kp : ∀ b o, b ∉ [Ca] → s''.heap.get? b = some o → h'.get? b = some o := fun b o hb e => hs.extBut b o (fun q => hb (List.mem_singleton.mpr q)) e
 refine hk _ (Fm.letgo (wr := [Ca]) F3 (s' := { s'' with heap := h' }) kp id rfl hR) fun b hb o e => kp b o (hR b hb) (k3 b (.tail _ hb) o e)
theorem ps_asg (KK : KF K) (TT : TabOk prog w K mg mb n T) (MM : MgOk mg) (b : Bool) (j : Nat) (e : IE) : PS prog w K mg mb n T (.asg b j e) := by
 intro A env sc nm s₀ Z₀ R Z ρ ow s kn kr Q E st X F hc h hn hr
 refine onAsg_e hc fun ts v pos hc => un1_e hc fun t hc => onNm_e hc fun y py hc => an3 hc fun h1 h2 h3 => ?_
 haveI hy := nmAt_eq _ _ _ h1
 haveI h' : obK b ρ fun σ => wE T e σ fun v => chkB b v (evL (setS ρ j (.v v)) kn) := h
 obtain ⟨c, hs, hl⟩ := (sw_cases v y py pos.line env (no_sd h2))
 cases c with
 | false =>
  refine wpAny_Assign_Name (F.ev X (pa KK TT MM e).e h2 h' fun u x Z' s' F' le k r hx => ?_) hs
  exact F'.storeV X.S rfl hy r fun s'' F'' k'' => hn _ _ _ _ F'' le (k.trans k'') (evL_o hx)
 | true =>
  haveI hl := hl rfl
  revert hs h2 h3
  refine isLC_e hl fun a gs c d h2 h3 hs => ?_
  obtain ⟨caps, own, pat, it, cond, elt, rfl⟩ := comp_ir h2
  obtain ⟨elt', target, iter, ifs, sc', pos', e0, g1, g2, g3, g4, g5, g6, g7, g8⟩ := (chk_comp h2)
  cases e0
  rw [exec_Assign_Name_used _ _ _ _ hs]
  refine wpAny_bind (wpAny_standAt (wpAny_bind ?_))
  show wpAny _ A (do let _ ← comprehension (.ListComp a [⟨target, iter, ifs, 0⟩] c d) c env _ (newList []) false (eval iter env) (some (assign (.Name y py) env))) _ _ s
  cases b with
  | true =>
   exact wpAny_bind (wpAny_mono (comp_core (use := some (assign (.Name y py) env)) (Q := fun J s' => Q .next s') (pa KK TT MM it).i (pa KK TT MM cond).c (pa KK TT MM elt).e (F.cx1 X.S X.a X.so) g1 g2 g3 g4 g5 g6 g7 g8 (kl := fun J => False) h' fun D Ca vs c xs Z' s' m g hD hD0 eD hC hC0 hne hm r hl hx => hx.elim) (fun J s' hq => wpAny_pure (wpAny_pure hq)) fun J J e => e)
  | false =>
   refine wpAny_bind (wpAny_mono (comp_core (use := some (assign (.Name y py) env)) (Q := fun J s' => Q .next s') (pa KK TT MM it).i (pa KK TT MM cond).c (pa KK TT MM elt).e (F.cx0 X.S X.a X.so) g1 g2 g3 g4 g5 g6 g7 g8 (kl := fun vs => evL (setS ρ j (.v (.lst vs))) kn) h' ?_) (fun J s' hq => wpAny_pure (wpAny_pure hq)) fun J J e => e)
   intro D Ca vs c xs Z' s' m g hD hD0 eD hC hC0 hne hm r hl hx
   have gA : Grow Z s (zAdd Z' D (listOf vs.toArray c)) s' := fin_grow g hD hD0 eD hC hC0 hne (Heap.SameBut.refl ..)
   haveI hCA : zAdd Z' D (listOf vs.toArray c) Ca = none := (if_neg hne).trans hC
   haveI rA : Rep (zAdd Z' D (listOf vs.toArray c)) (.ref D) (.lst xs) := .lst (n := c) (zAdd_self ..) hl (r.mono (zAdd_le hD))
   exact swap_tail X F (F.grow gA) hCA hC0 hm (fun F2 hh => F2.storeV X.S rfl hy rA hh) fun s'' F'' k'' => hn _ _ _ _ F'' gA.le ((KeepR.grow F gA).trans k'') (evL_o hx)
theorem zBack_none {Z' : ZM} {a : Addr} (ha : Z' a = none) : zBack Z' nm ρ ow a = none := by
 unfold zBack
 split
 ·rfl
 ·exact ha
theorem ps_asgO (KK : KF K) (TT : TabOk prog w K mg mb n T) (MM : MgOk mg) (j : Nat) (e : IE) : PS prog w K mg mb n T (.asgO j e) := by
 intro A env sc nm s₀ Z₀ R Z ρ ow s kn kr Q E st X F hc h hn hr
 refine onAsg_e hc fun ts v pos hc => un1_e hc fun t hc => onNm_e hc fun y py hc => an3 hc fun h1 h2 h3 => ?_
 haveI hy := nmAt_eq _ _ _ h1
 obtain ⟨hmk, h⟩ : isMk e = true ∧ obK true ρ fun σ => wE T e σ fun v => onItems v fun xs => allNo xs (evL (setS ρ j (.o xs)) kn) := h
 haveI h' := h
 obtain ⟨c, hs, hl⟩ := ((sw_cases v y py pos.line env (no_sd h2)))
 cases c with
 | false =>
  refine wpAny_Assign_Name (F.evO X (po KK TT MM e hmk) h2 h' fun D xs Z' s' F' le k O hD hx => ?_) hs
  exact F'.storeO X hy O (own_ne F hD) fun s'' F'' k'' => hn _ _ _ _ F'' le (k.trans k'') (evL_o hx)
 | true =>
  haveI hl := hl rfl
  revert hs h2 h3
  refine isLC_e hl fun a gs c d h2 h3 hs => ?_
  obtain ⟨caps, own, pat, it, cond, elt, rfl⟩ := (comp_ir h2)
  obtain ⟨elt', target, iter, ifs, sc', pos', e0, g1, g2, g3, g4, g5, g6, g7, g8⟩ := (chk_comp h2)
  cases e0
  rw [exec_Assign_Name_used _ _ _ _ hs]
  refine wpAny_bind (wpAny_standAt (wpAny_bind ?_))
  show wpAny _ A (do let _ ← comprehension (.ListComp a [⟨target, iter, ifs, 0⟩] c d) c env _ (newList []) false (eval iter env) (some (assign (.Name y py) env))) _ _ s
  refine wpAny_bind (wpAny_mono (comp_core (use := some (assign (.Name y py) env)) (Q := fun J s' => Q .next s') (pa KK TT MM it).i (pa KK TT MM cond).c (pa KK TT MM elt).e (F.cx1 X.S X.a X.so) g1 g2 g3 g4 g5 g6 g7 g8 (kl := fun vs => allNo vs (evL (setS ρ j (.o vs)) kn)) h' ?_) (fun J s' hq => wpAny_pure (wpAny_pure hq)) fun J J e => e)
  intro D Ca vs c xs Z' s' m g hD hD0 eD hC hC0 hne hm r hl hx
  obtain ⟨hno, hx⟩ := (allNo_e hx)
  replace hx := evL_o hx
  obtain ⟨F1, hb⟩ := (F.back g)
  haveI O : ∀ R', D ∉ R' → OwnAt s₀ R' (zBack Z' nm ρ ow) s' D xs := fun R' hR' => ⟨⟨vs, c, eD, backL (v := Z) hb hno r⟩, zBack_none hD, none_before F.gr hD0, hR', hl⟩
  haveI hDR : D ∉ Ca :: R := fun q => by
   rcases List.mem_cons.mp q with q | q
   ·exact hne q.symm
   ·obtain ⟨_, _, o, e⟩ := (F.res _ q)
    rw [hD0] at e; cases e
  exact swap_tail X F F1 (zBack_none hC) hC0 hm (fun F2 hh => F2.storeO X hy (O _ hDR) (own_ne F hD0) hh) fun s'' F'' k'' => hn _ _ _ _ F'' (zBack_le F g) ((KeepR.grow F g).trans k'') hx
theorem sw_tup (v : Expr) (ts : List Expr) (k : Nat) (p : Pos) (line : Nat) (env : Env) : swapsWithSole [.Tuple ts k p] v line env = pure false := by cases v <;> rfl
theorem sw_sub (v o i : Expr) (p : Pos) (line : Nat) (env : Env) : swapsWith v (some (.Subscript o i p)) line env = pure false := by cases v <;> rfl
theorem exec_spread {ts : List Expr} {k : Nat} {p pos : Pos} {v : Expr} {sw : Option (List Str)} {Q : Flow → Shared → Prop} (hsw : swappedStores [.Tuple ts k p] v env = pure sw)
  (h : wpAny (model prog w) A (eval v env) (fun u s₁ => wpAny (model prog w) A (assignStores env u sw ((assignEach [.Tuple ts k p] env).map (·.2))) Q E s₁) E s) : wpAny (model prog w) A (exec (.Assign [.Tuple ts k p] v pos) env) Q E s := by
 rw [exec_Assign_arm]
 refine wpAny_bind (wpAny_standAt ?_)
 rw [sw_tup]
 refine wpAny_bind (wpAny_pure ?_)
 rw [if_neg (by decide)]
 refine wpAny_bind (wpAny_mono h (fun u s₁ h₁ => ?_) fun J J x => x)
 rw [hsw]
 exact wpAny_bind (wpAny_pure h₁)
set_option tactic.hygienic true in
theorem sw_of (X : Fx n A env sc nm) {ts : List Expr} {k : Nat} {p : Pos} {v : Expr} (h : swOk sc ts v = true) : ∃ sw vs, swappedStores [.Tuple ts k p] v env = pure sw ∧ (sw = none ∨ swp sc ts vs = some sw) := by
 cases v <;> first
  | exact ⟨none, [], rfl, .inl rfl⟩
  | skip
 rename_i vs k' p'
 obtain ⟨sw, hs⟩ := Option.isSome_iff_exists.mp (show (swp sc ts vs).isSome = true from h)
 exact ⟨sw, vs, swp_ok X.es X.bk hs, .inr hs⟩
theorem ps_unp (KK : KF K) (TT : TabOk prog w K mg mb n T) (MM : MgOk mg) (b : Bool) (is : List Nat) (e : IE) : PS prog w K mg mb n T (.unp b is e) := by
 intro A env sc nm s₀ Z₀ R Z ρ ow s kn kr Q E st X F hc h hn hr
 refine onAsg_e hc fun ts v pos hc => un1_e hc fun t hc => onTp_e hc fun ts k p hc => an4 hc fun h1 h2 h3 h4 => ?_
 obtain ⟨sw, vs, hs, hs'⟩ := (sw_of (k := k) (p := p) X h4)
 refine exec_spread hs (F.ev X (pa KK TT MM e).e h3 (k := fun v => onItems v fun vs => onRho (setAllS ρ is vs) kn) h fun u x Z' s' F' le k r hx => ?_)
 exact F'.spread X h1 h2 hs' r hx fun ρ' s'' F'' k'' hx => hn _ _ _ _ F'' le (k.trans k'') hx
end
end
section
section
variable {n : Nat} {T : Tab} {A : Around} {E : Value → Shared → Prop} {s₀ s s' : Shared} {Z₀ Z Z' Zb : ZM} {env : Env} {nm : List Str} {R wr : List Addr} {ρ : List Slot} {ow : Nat → Addr} {sc : Scope}
theorem onOwn_e {sl : Slot} {k : List V → Prop} (h : onOwn sl k) : ∃ xs, sl = .o xs ∧ k xs := by
 cases sl <;> first | exact ⟨_, rfl, h⟩ | exact h.elim
theorem onInt_e {v : V} {k : Int → Prop} (h : onInt v k) : ∃ i, v = .int i ∧ k i := by
 cases v <;> first | exact ⟨_, rfl, h⟩ | exact h.elim
theorem onNat_e {m : Nat} {i : Int} {k : Nat → Prop} (h : onNat (place m i) k) : 0 ≤ i ∧ i.toNat < m ∧ k i.toNat := by
 haveI h : onNat (match decide (0 ≤ i) with | true => (match Nat.blt i.toNat m with | true => some i.toNat | false => none) | false => none) k := h
 cases q : decide (0 ≤ i) with
 | false => rw [q] at h; exact h.elim
 | true =>
  rw [q] at h
  cases r : Nat.blt i.toNat m with
  | false => rw [r] at h; exact h.elim
  | true => rw [r] at h; exact ⟨of_decide_eq_true q, Nat.blt_eq.mp r, h⟩
theorem len_setN (l : List V) (i : Nat) (v : V) : (setN l i v).length = l.length := List.length_set ..
theorem setS_setS (ρ : List Slot) (i : Nat) (a b : Slot) : setS (setS ρ i a) i b = setS ρ i b := List.set_set ..
theorem lt_of_getS (F : FM K mg mb s₀ Z₀ env nm R Z ρ ow s) {j : Nat} (h : getS ρ j ≠ .u) : ∃ x, nm[j]? = some x := nm_get (by rw [← F.len]; exact getS_len ρ j h)
theorem load_at (X : Fx n A env sc nm) {y : Str} {v : Value} {Q : Value → Shared → Prop} (ha : At env s.heap y v) (h : Q v s) : wpAny (model prog w) A (loadName env y) Q E s := by
 rcases ha with ⟨a1, m, a2, a3⟩ | ⟨a1, c, a2, a3⟩
 ·exact wpAny_loadName_local X.S.e.kind a1 a2 a3 h
 ·exact wpAny_loadName_cell X.S.e.kind a1 a2 a3 h
theorem ld_at (X : Fx n A env sc nm) {j : Nat} {o : Expr} {v : Value} {Q : Value → Shared → Prop} (hc : isNmAt nm j o = true) (ha : ∀ y, nm[j]? = some y → At env s.heap y v) (h : Q v s) : wpAny (model prog w) A (eval o env) Q E s := by
 exact onNm_e hc fun y p hc => an2 hc fun h1 h2 => wpAny_Name (load_at X (ha _ (nmAt_eq _ _ _ h1)) h) (not_e h2)
theorem own_at (F : FM K mg mb s₀ Z₀ env nm R Z ρ ow s) {j : Nat} {xs : List V} (h : getS ρ j = .o xs) : ∀ y, nm[j]? = some y → At env s.heap y (.ref (ow j)) := fun y hy => (F.own j y xs hy h).1
theorem Fm.putAt {j : Nat} {x : Str} {xs : List V} {u : Value} {V : V} {i : Int} {t : Tok} {Q : Unit → Shared → Prop} (F : FM K mg mb s₀ Z₀ env nm R Z ρ ow s) (hx : nm[j]? = some x) (hj : getS ρ j = .o xs) (h0 : 0 ≤ i) (hi : i.toNat < xs.length) (r : Rep Z u V)
  (h : ∀ s', FM K mg mb s₀ Z₀ env nm R Z (setS ρ j (.o (setN xs i.toNat V))) ow s' → KeepR R s s' → Q () s') : wpAny (model prog w) A (setItem (.ref (ow j)) (.int i t) u) Q E s := by
 obtain ⟨a, ⟨vs, c, e, rl⟩, hz, hz0, hr, hl⟩ := (F.own j x xs hx hj)
 refine setAt_list e h0 (by rw [rl.length]; exact hi) (by rw [rl.length]; exact hl) fun h' c' hl' hs => ?_
 exact h _ (F.list (s' := { s with heap := h' }) hx hj (fun b o hb e => hs.extBut b o hb e) hl' (rl.set r i.toNat) (by rw [len_setN]; exact hl) id rfl) fun b hb o e => hs.extBut b o (fun q => hr (q ▸ hb)) e
theorem ps_setIdx (KK : KF K) (TT : TabOk prog w K mg mb n T) (MM : MgOk mg) (j : Nat) (i e : IE) : PS prog w K mg mb n T (.setIdx j i e) := by
 intro A env sc nm s₀ Z₀ R Z ρ ow s kn kr Q E st X F hc h hn hr
 refine onAsg_e hc fun ts v pos hc => un1_e hc fun t hc => onSub_e hc fun o i' p hc => an4 hc fun h1 h2 h3 h4 => ?_
 obtain ⟨xs, hj, h⟩ := onOwn_e (show onOwn (getS ρ j) _ from h)
 obtain ⟨x, hx⟩ := lt_of_getS F (j := j) (by rw [hj]; intro q; cases q)
 have C := F.cx1 (A := A) (n := n) X.S X.a X.so
 refine wpAny_Assign_Subscript ((pa KK TT MM e).e _ _ _ _ _ _ _ _ _ _ _ C h4 h fun u V Z1 s1 g1 r1 h => ?_) (sw_sub ..)
 haveI C1 := C.grow g1
 refine ld_at X h1 (fun y hy => (own_at F hj y hy).keep g1.keep) ?_
 refine (pa KK TT MM i).e _ _ _ _ _ _ _ _ _ _ _ C1 h2 h fun b y Z2 s2 g2 r2 h => ?_
 obtain ⟨ii, rfl, h⟩ := (onInt_e h)
 obtain ⟨t, rfl⟩ := r2.int_inv
 obtain ⟨hno, h⟩ := (chkB_t h)
 obtain ⟨h0, hlt, h⟩ := (onNat_e h)
 replace h := evL_o (evL_o h)
 obtain ⟨F2, hb⟩ := (F.back (g1.trans g2))
 exact F2.putAt hx hj h0 hlt (hb _ _ _ hno (r1.mono g2.le)) fun s3 F3 k3 => hn _ _ _ _ F3 (zBack_le F (g1.trans g2)) ((KeepR.grow F (g1.trans g2)).trans k3) h
theorem augS_plain {i : Expr} (h : (!isSl i) = true) : ∀ ov iv new, augStore i ov iv new = (do holding [new, ov, iv] (setItem ov iv new); release [new, ov, iv] []; pure .next) := by
 intro ov iv new
 cases i <;> first | rfl | cases h
theorem ps_augIdx (KK : KF K) (TT : TabOk prog w K mg mb n T) (MM : MgOk mg) (j : Nat) (op : Operator) (i e : IE) : PS prog w K mg mb n T (.augIdx j op i e) := by
 intro A env sc nm s₀ Z₀ R Z ρ ow s kn kr Q E st X F hc h hn hr
 refine onAug_e hc fun t op' v pos hc => onSub_e hc fun o i' p hc => an5 hc fun h0 h1 h2 h3 h4 => ?_
 cases eq_of_beq h0
 obtain ⟨xs, hj, h⟩ := onOwn_e (show onOwn (getS ρ j) _ from h)
 obtain ⟨x, hx⟩ := lt_of_getS F (j := j) (by rw [hj]; intro q; cases q)
 have C := F.cx1 (A := A) (n := n) X.S X.a X.so
 obtain ⟨a, ⟨vs, c, el, rl⟩, hz, hz0, hR, hl⟩ := (F.own j x xs hx hj)
 refine wpAny_AugAssign_SubscriptAny ?_ (augS_plain h3)
 refine ld_at X h1 (own_at F hj) ?_
 refine (pa KK TT MM i).e _ _ _ _ _ _ _ _ _ _ _ C h2 h fun b y Z1 s1 g1 r1 h => ?_
 haveI C1 := C.grow g1
 obtain ⟨ii, rfl, h⟩ := (onInt_e h)
 obtain ⟨t, rfl⟩ := r1.int_inv
 obtain ⟨hi0, hlt, h⟩ := (onNat_e h)
 obtain ⟨av, hav, h⟩ := (onSome_e h)
 rw [nthV_eq] at hav
 obtain ⟨ov, hov, rov⟩ := (rl.get hav)
 refine getAt_list (g1.keep.lst el) hi0 hov (by rw [rl.length]; exact hl) ?_
 refine (pa KK TT MM e).e _ _ _ _ _ _ _ _ _ _ _ C1 h4 h fun u V Z2 s2 g2 r2 h => ?_
 haveI C2 := C1.grow g2
 refine op_ibin KK TT C2.a.in2 C2.f.gd C2.f.fr C2.f.zs C2.f.zt (((rov.mono (zOwn_le F)).mono g1.le).mono g2.le) r2 h fun nv NV Z3 s3 g3 r3 h => ?_
 obtain ⟨hno, h⟩ := (chkB_t h)
 replace h := evL_o (evL_o h)
 have g := (g1.trans g2).trans g3
 obtain ⟨F3, hb⟩ := (F.back g)
 exact F3.putAt hx hj hi0 hlt (hb _ _ _ hno r3) fun s4 F4 k4 => hn _ _ _ _ F4 (zBack_le F g) ((KeepR.grow F g).trans k4) h
theorem wBinI_int {op : Operator} {x y : Int} {k : V → Prop} (h : wBinI op x y k) : wBinI op x y (fun v => (∃ i, v = .int i) ∧ k v) :=
 wBinI_e (P := fun op => wBinI op x y (fun v => (∃ i, v = .int i) ∧ k v)) h (fun h => ⟨⟨_, rfl⟩, h⟩) (fun h => ⟨⟨_, rfl⟩, h⟩) (fun a h => ⟨a, ⟨_, rfl⟩, h⟩) (fun a h => ⟨a, ⟨_, rfl⟩, h⟩) (fun a b h => ⟨a, b, ⟨_, rfl⟩, h⟩) (fun a b h => ⟨a, b, ⟨_, rfl⟩, h⟩) fun a b h => ⟨a, b, ⟨_, rfl⟩, h⟩
theorem ps_aug (KK : KF K) (TT : TabOk prog w K mg mb n T) (MM : MgOk mg) (j : Nat) (op : Operator) (e : IE) : PS prog w K mg mb n T (.aug j op e) := by
 intro A env sc nm s₀ Z₀ R Z ρ ow s kn kr Q E st X F hc h hn hr
 refine onAug_e hc fun t op' v pos hc => onNm_e hc fun y p hc => an3 hc fun h0 h1 h2 => ?_
 cases eq_of_beq h0
 haveI hy := nmAt_eq _ _ _ h1
 haveI h : onSome (getO (ρ.map (ob1 true)) j) fun a => onInt a fun n => wE T e (ρ.map (ob1 true)) fun b => onInt b fun m => wBinI op n m fun v => evL (setS ρ j (.v v)) kn := h
 rw [getO_map _ rfl] at h
 obtain ⟨a, ha, h⟩ := (onSome_e h)
 obtain ⟨i, rfl, h⟩ := (onInt_e h)
 haveI hj : getS ρ j = .v (.int i) := by
  cases q : getS ρ j with
  | u => rw [q] at ha; cases ha
  | v V' => rw [q] at ha; cases ha; rfl
  | o xs => rw [q] at ha; cases ha
 obtain ⟨u, hat, ru⟩ := (F.va j y _ hy hj)
 obtain ⟨t, rfl⟩ := ru.int_inv
 have C := F.cx1 (A := A) (n := n) X.S X.a X.so
 refine wpAny_AugAssign_Name (load_at X hat ?_)
 refine (pa KK TT MM e).e _ _ _ _ _ _ _ _ _ _ _ C h2 h fun b yv Z1 s1 g1 r1 h => ?_
 haveI C1 := C.grow g1
 obtain ⟨m, rfl, h⟩ := (onInt_e h)
 haveI h : wBinI op i m fun v => evL (setS ρ j (.v v)) kn := h
 obtain ⟨t', rfl⟩ := r1.int_inv
 refine iop_int C1.f.zs (wBinI_int h) fun nv NV Z2 s2 g2 r2 h => ?_
 obtain ⟨⟨r, rfl⟩, h⟩ := (h)
 replace h := evL_o h
 obtain ⟨t2, rfl⟩ := r2.int_inv
 obtain ⟨F2, hb⟩ := (F.back (g1.trans g2))
 exact F2.storeV X.S rfl hy (.int r t2) fun s3 F3 k3 => hn _ _ _ _ F3 (zBack_le F (g1.trans g2)) ((KeepR.grow F (g1.trans g2)).trans k3) h
set_option tactic.hygienic true in
theorem ps_ext (KK : KF K) (TT : TabOk prog w K mg mb n T) (MM : MgOk mg) (j : Nat) (e : IE) : PS prog w K mg mb n T (.ext j e) := by
 intro A env sc nm s₀ Z₀ R Z ρ ow s kn kr Q E st X F hc h hn hr
 refine onAug_e hc fun t op' v pos hc => onNm_e hc fun y p hc => an3 hc fun h0 h1 h2 => ?_
 cases eq_of_beq h0
 have hy := nmAt_eq _ _ _ h1
 obtain ⟨xs, hj, h⟩ := onOwn_e (show onOwn (getS ρ j) _ from h)
 haveI C := F.cx1 (A := A) (n := n) X.S X.a X.so
 refine wpAny_AugAssign_Name (load_at X (own_at F hj y hy) ?_)
 refine (pa KK TT MM e).e _ _ _ _ _ _ _ _ _ _ _ C h2 h fun b yv Z1 s1 g1 r1 h => ?_
 cases yv <;> first | exact h.elim | skip
 rename_i ys
 obtain ⟨hno, h⟩ := allNo_e h
 replace h := evL_o h
 obtain ⟨hlen, h⟩ := (okL_iff h)
 replace h := evL_o h
 obtain ⟨l2, ws, d, rfl, ho2, hl2, r2⟩ := (r1.lst_inv)
 obtain ⟨F2, hb⟩ := F.back g1
 have r2' := backL (v := Z) hb hno r2
 obtain ⟨a, ⟨vs, c, el, rl⟩, hz, hz0, hR, hl⟩ := (F2.own j y xs hy hj)
 haveI hlen' : (xs ++ ys).length ≤ 64 := hlen
 refine iadd_list el (g1.sub _ _ ho2) (by rw [rl.length, r2'.length, ← List.length_append]; exact Nat.le_trans hlen small64) fun h' c' hl' hs => ?_
 have F3 : FM K mg mb s₀ Z₀ env nm R _ (setS ρ j (.o (xs ++ ys))) ow { s1 with heap := h' } := F2.list (s' := { s1 with heap := h' }) hy hj (fun b o hb e => hs.extBut b o hb e) hl' (rl.append r2') hlen id rfl
 haveI k3 : KeepR R s1 { s1 with heap := h' } := fun b hb o e => hs.extBut b o (fun q => hR (q ▸ hb)) e
 haveI hjl : j < ρ.length := by rw [F.len]; exact (List.getElem?_eq_some_iff.mp hy).1
 have hg3 : getS (setS ρ j (.o (xs ++ ys))) j = .o (xs ++ ys) := by rw [getS_setS]; simp [hjl]
 obtain ⟨_, O3⟩ := (F3.own j y _ hy hg3)
 refine F3.store (sl := .o (xs ++ ys)) (ow' := ow) X.S rfl hy ⟨rfl, O3⟩ (fun J J J J => rfl) (fun xs' q i zs hi hij qe => hij (F3.oinj i j _ _ hi hg3 qe)) fun s4 F4 k4 => ?_
 rw [setS_setS] at F4
 exact hn _ _ _ _ F4 (zBack_le F g1) (((KeepR.grow F g1).trans k3).trans k4) h
theorem Fm.popE (X : Fx n A env sc nm) {j : Nat} {v : Expr} {xs ys : List V} {b : V} {Q : Value → Shared → Prop} (F : FM K mg mb s₀ Z₀ env nm R Z ρ ow s) (hc : isPop nm j v = true) (hj : getS ρ j = .o xs) (hxs : xs = ys ++ [b])
  (h : ∀ u s', FM K mg mb s₀ Z₀ env nm R Z (setS ρ j (.o ys)) ow s' → KeepR R s s' → Rep Z u b → Q u s') : wpAny (model prog w) A (eval v env) Q E s := by
 refine onMet_e hc fun o m apos as pos hc => un0_e hc fun hc => an3 hc fun h0 h1 h2 => ?_
 cases eq_of_beq h0
 haveI h2 := of_decide_eq_true h2
 obtain ⟨x, hx⟩ := lt_of_getS F (j := j) (by rw [hj]; intro q; cases q)
 obtain ⟨a, ⟨vs, c, el, rl⟩, hz, hz0, hR, hl⟩ := (F.own j x xs hx hj)
 haveI hns : isNmSub o = true := onNm_e h1 fun J J J => rfl
 refine methCall hns h2 (by simp) rfl (ld_at X h1 (own_at F hj) fun pl => ?_)
 refine getMethod_builtin (id := "list.pop") ⟨_, el, rfl⟩ PySem.F.plainAttrs_list PySem.F.slot_list_pop PySem.F.type_list_pop (fun a e => by cases e; exact ⟨_, el, rfl⟩) ?_
 refine callWith_method0 ?_
 subst hxs
 obtain ⟨us, wl, rfl, ru, rw'⟩ := RepL.split rl
 cases rw' with
 | cons hr rn =>
  cases rn
  haveI hlen := ru.length
  have hl' : ys.length + 1 ≤ 64 := by simpa using hl
  refine pop_list el (by rw [hlen]; exact Nat.le_trans hl' small64) fun h' c' hl' hs => ?_
  exact h _ _ (F.list (s' := { s with heap := h' }) hx hj (fun b o hb e => hs.extBut b o hb e) hl' ru (by omega) id rfl) (fun b hb o e => hs.extBut b o (fun q => hR (q ▸ hb)) e) hr
theorem ps_pop (KK : KF K) (TT : TabOk prog w K mg mb n T) (MM : MgOk mg) (y j : Nat) : PS prog w K mg mb n T (.pop y j) := by
 intro A env sc nm s₀ Z₀ R Z ρ ow s kn kr Q E st X F hc h hn hr
 refine onAsg_e hc fun ts v pos hc => un1_e hc fun t hc => onNm_e hc fun y' p hc => an2 hc fun h1 h2 => ?_
 obtain ⟨xs, hj, h⟩ := (onOwn_e (show onOwn (getS ρ j) _ from h))
 obtain ⟨ys, b, e, h⟩ := (popK_spec _ _ h)
 replace h := evL_o (evL_o h)
 haveI hs : swapsWith v (some (.Name y' p)) pos.line env = pure false := onMet_e h2 fun J J J J J J => rfl
 refine wpAny_Assign_Name (F.popE X h2 hj e fun u s1 F1 k1 r1 => ?_) hs
 exact F1.storeV X.S rfl (nmAt_eq _ _ _ h1) r1 fun s2 F2 k2 => hn _ _ _ _ F2 (.refl _) (k1.trans k2) h
theorem ps_pop2 (KK : KF K) (TT : TabOk prog w K mg mb n T) (MM : MgOk mg) (y : Nat) (e : IE) (z j : Nat) : PS prog w K mg mb n T (.pop2 y e z j) := by
 intro A env sc nm s₀ Z₀ R Z ρ ow s kn kr Q E st X F hc h hn hr
 refine onAsg_e hc fun ts v0 pos hc => un1_e hc fun t hc => onTp_e hc fun ts k0 p0 hc => onTp_e hc fun vu k p hc => un2_e hc fun v u hc => an6 hc fun h1 h2 h3 h4 h5 h6 => ?_
 obtain ⟨sw, hs⟩ := Option.isSome_iff_exists.mp h6
 haveI hu : plainE u = true := onMet_e h5 fun J J J J J J => rfl
 refine exec_spread (swp_ok X.es X.bk hs) (Tuple_ (spl2 h4 hu (F.ev X (b := true) (pa KK TT MM e).e h3 h fun u1 V1 Z1 s1 F1 le1 k1 r1 h => ?_)))
 obtain ⟨xs, hj, h⟩ := (onOwn_e h)
 obtain ⟨ys, b, ee, h⟩ := (popK_spec _ _ h)
 replace h := evL_o (evL_o (evL_o h))
 refine F1.popE X h5 hj ee fun u2 s2 F2 k2 r2 => ?_
 refine new_tup (k := fun x => x = .tup [V1, b]) F2.gr.sub (.cons r1 (.cons r2 .nil)) (by show (2 : Nat) ≤ 64; decide) rfl fun t x Z3 s3 g3 r3 hx => ?_
 subst hx
 refine (F2.grow g3).spread X (k := k0) (p := p0) (vs := [v, u]) (kn := kn) h1 h2 (.inr hs) r3 ?_ fun ρ' s4 F4 k4 hk => hn _ _ _ _ F4 (le1.trans g3.le) (((k1.trans k2).trans (KeepR.grow F2 g3)).trans k4) hk
 exact evL_i h
theorem ps_ite (KK : KF K) (TT : TabOk prog w K mg mb n T) (MM : MgOk mg) (c : IE) {t e : IS} (ht : PSs prog w K mg mb n T t) (he : PSs prog w K mg mb n T e) : PS prog w K mg mb n T (.ite c t e) := by
 intro A env sc nm s₀ Z₀ R Z ρ ow s kn kr Q E st X F hc h hn hr
 refine onSIf_e hc fun c' t' e' p hc => an3 hc fun h1 h2 h3 => ?_
 refine wpAny_If (F.evC X (pa KK TT MM c).c h1 h fun b Z1 s1 F1 le1 k1 h => ?_)
 cases b with
 | true => exact ht _ _ _ _ _ _ _ _ _ _ _ _ _ _ _ _ X F1 h2 h (fun Z' ρ' ow' s' F' le k hk => hn _ _ _ _ F' (le1.trans le) (k1.trans k) hk) hr
 | false => exact he _ _ _ _ _ _ _ _ _ _ _ _ _ _ _ _ X F1 h3 h (fun Z' ρ' ow' s' F' le k hk => hn _ _ _ _ F' (le1.trans le) (k1.trans k) hk) hr
theorem ps_ret (KK : KF K) (TT : TabOk prog w K mg mb n T) (MM : MgOk mg) (e : IE) : PS prog w K mg mb n T (.ret e) := by
 intro A env sc nm s₀ Z₀ R Z ρ ow s kn kr Q E st X F hc h hn hr
 refine onRet_e hc fun o p hc => onS_e hc fun e' hc => ?_
 haveI h : obK true ρ fun σ => wE T e σ kr := h
 exact wpAny_Return_some ((pa KK TT MM e).e _ _ _ _ _ _ _ _ _ _ _ (F.cx1 X.S X.a X.so) hc h fun u V Z' s' g r hx => hr u V Z' s' (F.frz.gr.trans g) r hx)
end
end
section
variable {n : Nat} {T : Tab} {A : Around} {E : Value → Shared → Prop} {s₀ s s' : Shared} {Z₀ Z Z' Zb : ZM} {env : Env} {nm : List Str} {R wr : List Addr} {ρ : List Slot} {ow : Nat → Addr} {sc : Scope}
theorem for_core (KK : KF K) (TT : TabOk prog w K mg mb n T) (MM : MgOk mg) (X : Fx n A env sc nm) {pat : List Nat} {it : IE} {body : IS} (hb : PSs prog w K mg mb n T body) {tgt iter : Expr} {body' : List Stmt} {pos : Pos} {kl : List V → Prop} {kn : List Slot → Prop} {kr : V → Prop} {Q : Flow → Shared → Prop}
  (F : FM K mg mb s₀ Z₀ env nm R Z ρ ow s) (hm : okMulti it pat = true) (hct : chkPat nm pat tgt = true) (hci : chkE sc nm it iter = true) (hp : plainE iter = true) (hcb : chkSs sc nm body body' = true)
  (h : obK false ρ fun σ => wI T it σ kl)
  (hG : ∀ items, kl items → ∃ Inv : Nat → List Slot → Prop, Inv 0 ρ ∧ (∀ i v ρ', items[i]? = some v → Inv i ρ' → onRho (bindS ρ' pat v) fun ρ'' => wS T body ρ'' (Inv (i + 1)) kr) ∧ ∀ ρ', Inv items.length ρ' → kn ρ')
  (hn : ∀ Z' ρ' ow' s', FM K mg mb s₀ Z₀ env nm R Z' ρ' ow' s' → ZLe Z Z' → KeepR R s s' → kn ρ' → Q .next s')
  (hr : ∀ v V Z' s', Grow Z₀ s₀ Z' s' → Rep Z' v V → kr V → Q (.ret v) s') :
  wpAny (model prog w) A (exec (.For tgt iter body' [] pos) env) Q E s := by
 haveI hs : ∀ x, foldedSetIterable iter env x = pure x := fun x => by cases iter <;> first | rfl | cases hp
 refine wpAny_For (wpAny_mono ((pa KK TT MM it).i _ _ _ _ _ _ _ _ _ _ (F.cx0 X.S X.a X.so) hci h) (fun x s₁ h₁ => wpAny_mono h₁ (fun it' s₂ hsrc => ?_) fun J J e => e) fun J J e => e) hs
 obtain ⟨tt, I, wr, items, Z1, St, rfl, htt, g1, ok, st0, hwr, hk⟩ := hsrc
 obtain ⟨Inv, hI0, hIs, hIe⟩ := (hG items hk)
 haveI F1 := F.reserve2 (F.grow g1) hwr (fun b hb => ok.live 0 _ st0 b hb)
 have hR : ∀ b ∈ R, b ∉ wr := fun b hb q => by
  obtain ⟨_, _, o, e⟩ := (F.res b hb)
  rw [(hwr b q).2] at e; cases e
 haveI hmul : tt = true → multi pat = true := fun q => by
  haveI := htt q
  unfold okMulti at hm
  rw [this] at hm
  simpa using hm
 obtain ⟨I₀, hI⟩ : ∃ I₀ : Nat → Shared → Prop, I₀ = fun k s' => ∃ (i : Nat) (Zi : ZM) (ρi : List Slot) (owi : Nat → Addr), k = items.length + 1 - i ∧ i ≤ items.length ∧ ZLe Z1 Zi ∧
   FM K mg mb s₀ Z₀ env nm (wr ++ R) Zi ρi owi s' ∧ St i s'.heap ∧ KeepR R s s' ∧ Inv i ρi := ⟨_, rfl⟩
 refine codeAny_forLoop_any I₀ ?_ (items.length + 1) (by rw [hI]; exact ⟨0, Z1, ρ, ow, rfl, Nat.zero_le _, .refl _, F1, st0, KeepR.grow F g1, hI0⟩)
 intro k s' hs'
 rw [hI] at hs'
 obtain ⟨i, Zi, ρi, owi, rfl, hil, hle, Fi, st, kp, hInv⟩ := (hs')
 have wz : ∀ b ∈ wr, Zi b = none := fun b hb => (Fi.res b (List.mem_append_left _ hb)).1
 by_cases hlt : i < items.length
 ·have hx := List.getElem?_eq_getElem hlt
  have hstep := hIs i _ ρi hx hInv
  cases hbi : bindS ρi pat items[i] with
  | none => rw [hbi] at hstep; exact hstep.elim
  | some ρ' =>
   rw [hbi] at hstep
   replace hstep := evL_o (l := ρ') hstep
   refine wpAny_mono (ok.turn i items[i] s' Zi (fun v s₂ => wpAny (model prog w) A (assign tgt env v) (fun J s₃ => wpAny (model prog w) A (execs body' env) (fun f s₃ => match f with
      | .next | .cont => ∃ m, m < items.length + 1 - i ∧ I₀ m s₃
      | .brk => Q .next s₃
      | .ret v => Q (.ret v) s₃) (notedBy (model prog w) A env fun e s' => cameBackBy (model prog w) A env E e s') s₃) (notedBy (model prog w) A env fun e s' => cameBackBy (model prog w) A env E e s') s₂) (notedBy (model prog w) A env fun e s' => cameBackBy (model prog w) A env E e s') tgt hx (pat_tgt hct hbi hmul) st hle Fi.gr.sub wz fun u Z2 h' tk le2 r2 sub2 fresh2 st2 keep2 => ?_) (fun r s₁ h₁ => ?_) fun J J e => e
   ·haveI F2 := Fi.step (s' := { s' with heap := h', toks := tk }) (fun b o hb e => ⟨o, keep2 b o (fun q => hb (List.mem_append_left _ q)) e, .inl rfl⟩) (fun b hb => by
     by_cases q : b ∈ wr
     ·exact ok.live _ _ st2 b q
     ·obtain ⟨_, _, o, e⟩ := (Fi.res b hb)
      exact ⟨o, keep2 b o q e⟩) le2 sub2 fresh2 id rfl
    refine F2.pat X.S X.a.h hct (fun J J => rfl) r2 hbi fun s3 F3 k3 => ?_
    haveI k2 : KeepR R s' { s' with heap := h', toks := tk } := fun b hb o e => keep2 b o (hR b hb) e
    haveI kR : ∀ {a b : Shared}, KeepR (wr ++ R) a b → KeepR R a b := fun q b hb o e => q b (List.mem_append_right _ hb) o e
    haveI stF : ∀ {j : Nat} {Zj : ZM} {ρj : List Slot} {owj : Nat → Addr} {a b : Shared}, ZLe Z1 Zj → FM K mg mb s₀ Z₀ env nm (wr ++ R) Zj ρj owj b → KeepR (wr ++ R) a b → St j a.heap → St j b.heap :=
     fun hle F k st => ok.frame _ _ _ st (fun b hb o e => k b (List.mem_append_left _ hb) o e) fun b o e => F.gr.sub b o (hle b o e)
    haveI st3 := stF (hle.trans le2) F3 k3 st2
    refine hb _ _ _ _ _ _ _ _ _ _ _ _ kr _ _ _ X F3 hcb hstep (fun Z4 ρ4 ow4 s4 F4 le4 k4 hk4 => ?_) (fun v V Z4 s4 g4 r4 hk4 => hr v V Z4 s4 g4 r4 hk4)
    dsimp only
    rw [hI]
    exact ⟨items.length + 1 - (i + 1), lc6 hlt, i + 1, Z4, ρ4, ow4, rfl, hlt, (hle.trans le2).trans le4, F4, stF ((hle.trans le2).trans le4) F4 k4 st3, ((kp.trans k2).trans (kR k3)).trans (kR k4), hk4⟩
   ·obtain ⟨v, rfl, h₁⟩ := (h₁)
    exact h₁
 ·obtain rfl : i = items.length := Nat.le_antisymm hil (Nat.not_lt.mp hlt)
  refine ok.done s' _ _ st fun h' tk keep => ?_
  refine wpAny_execs_nil ?_
  haveI F2 := Fi.letgo (s' := { s' with heap := h', toks := tk }) keep id rfl hR
  exact hn _ _ _ _ F2 (g1.le.trans hle) (kp.trans fun b hb o e => keep b o (hR b hb) e) (hIe _ hInv)
theorem ps_for (KK : KF K) (TT : TabOk prog w K mg mb n T) (MM : MgOk mg) (pat : List Nat) (it : IE) {body : IS} (hb : PSs prog w K mg mb n T body) : PS prog w K mg mb n T (.for_ pat it body) := by
 intro A env sc nm s₀ Z₀ R Z ρ ow s kn kr Q E st X F hc h hn hr
 refine onFor_e hc fun tgt iter body' els p hc => un0_e hc fun hc => an5 hc fun h1 h2 h3 h4 h5 => ?_
 refine for_core KK TT MM X hb F h1 h2 h3 h4 h5 (kl := fun items => okL items (forF pat (fun ρ' k' => wS T body ρ' k' kr) items ρ kn)) h (fun items hk => ?_) hn hr
 obtain ⟨_, hk⟩ := (okL_iff hk)
 refine ⟨fun i ρ' => forF pat (fun ρ' k' => wS T body ρ' k' kr) (items.drop i) ρ' kn, by simpa using hk, fun i v ρ' hv h => ?_, fun ρ' h => ?_⟩
 ·obtain ⟨hlt, rfl⟩ := List.getElem?_eq_some_iff.mp hv
  dsimp only at h
  rw [List.drop_eq_getElem_cons hlt] at h
  exact h
 ·dsimp only at h
  rw [List.drop_eq_nil_of_le (Nat.le_refl _)] at h
  exact h
theorem ps_forI (KK : KF K) (TT : TabOk prog w K mg mb n T) (MM : MgOk mg) (pat : List Nat) (it : IE) {body : IS} (hb : PSs prog w K mg mb n T body) : PS prog w K mg mb n T (.forI pat it body) := by
 intro A env sc nm s₀ Z₀ R Z ρ ow s kn kr Q E st X F hc h hn hr
 refine onFor_e hc fun tgt iter body' els p hc => un0_e hc fun hc => an5 hc fun h1 h2 h3 h4 h5 => ?_
 exact for_core KK TT MM X hb F h1 h2 h3 h4 h5 (kl := fun items => ∃ Inv : Nat → List Slot → Prop, Inv 0 ρ ∧
  (∀ i v ρ', items[i]? = some v → Inv i ρ' → onRho (bindS ρ' pat v) fun ρ'' => wS T body ρ'' (Inv (i + 1)) kr) ∧ ∀ ρ', Inv items.length ρ' → kn ρ') h (fun items hk => hk) hn hr
theorem while_core (KK : KF K) (TT : TabOk prog w K mg mb n T) (MM : MgOk mg) (X : Fx n A env sc nm) {c : IE} {body : IS} (hb : PSs prog w K mg mb n T body) {c' : Expr} {body' : List Stmt} {pos : Pos} {kn : List Slot → Prop} {kr : V → Prop} {Q : Flow → Shared → Prop}
  (F : FM K mg mb s₀ Z₀ env nm R Z ρ ow s) (hcc : chkE sc nm c c' = true) (hcb : chkSs sc nm body body' = true) (Inv Nxt : Nat → List Slot → Prop)
  (step : ∀ k ρ', Inv k ρ' → obK true ρ' fun σ => wC T c σ fun b => br b (wS T body ρ' (Nxt k) kr) (kn ρ')) (hN : ∀ k ρ', Nxt k ρ' → ∃ m, m < k ∧ Inv m ρ') (k : Nat) (h : Inv k ρ)
  (hn : ∀ Z' ρ' ow' s', FM K mg mb s₀ Z₀ env nm R Z' ρ' ow' s' → ZLe Z Z' → KeepR R s s' → kn ρ' → Q .next s')
  (hr : ∀ v V Z' s', Grow Z₀ s₀ Z' s' → Rep Z' v V → kr V → Q (.ret v) s') :
  wpAny (model prog w) A (exec (.While c' body' [] pos) env) Q E s := by
 refine wpAny_While ?_
 obtain ⟨I₀, hI⟩ : ∃ I₀ : Nat → Shared → Prop, I₀ = fun k s' => ∃ (Zi : ZM) (ρi : List Slot) (owi : Nat → Addr), ZLe Z Zi ∧ FM K mg mb s₀ Z₀ env nm R Zi ρi owi s' ∧ KeepR R s s' ∧ Inv k ρi := ⟨_, rfl⟩
 refine codeAny_whileLoop I₀ ?_ k (by rw [hI]; exact ⟨Z, ρ, ow, .refl _, F, .refl, h⟩)
 intro k s' hs
 rw [hI] at hs
 obtain ⟨Zi, ρi, owi, hle, Fi, kp, hInv⟩ := (hs)
 refine Fi.evC X (pa KK TT MM c).c hcc (step k ρi hInv) fun b Z1 s1 F1 le1 k1 h => ?_
 cases b with
 | true =>
  simp only [if_true]
  refine hb _ _ _ _ _ _ _ _ _ _ _ _ kr _ _ _ X F1 hcb h (fun Z2 ρ2 ow2 s2 F2 le2 k2 hk => ?_) (fun v V Z4 s4 g4 r4 hk4 => hr v V Z4 s4 g4 r4 hk4)
  obtain ⟨m, hm, hk⟩ := (hN _ _ hk)
  dsimp only
  rw [hI]
  exact ⟨m, hm, Z2, ρ2, ow2, (hle.trans le1).trans le2, F2, (kp.trans k1).trans k2, hk⟩
 | false =>
  simp only [Bool.false_eq_true, if_false]
  exact wpAny_execs_nil (hn _ _ _ _ F1 (hle.trans le1) (kp.trans k1) h)
theorem ps_while (KK : KF K) (TT : TabOk prog w K mg mb n T) (MM : MgOk mg) (m : Nat) (c : IE) {body : IS} (hb : PSs prog w K mg mb n T body) : PS prog w K mg mb n T (.while_ m c body) := by
 intro A env sc nm s₀ Z₀ R Z ρ ow s kn kr Q E st X F hc h hn hr
 refine onWh_e hc fun c' body' els p hc => un0_e hc fun hc => an2 hc fun h1 h2 => ?_
 refine while_core KK TT MM X hb F h1 h2 (fun k ρ' => whileF (fun ρ' k' => obK true ρ' fun σ => wC T c σ k') (fun ρ' k' => wS T body ρ' k' kr) k ρ' kn)
  (fun k ρ' => match k with | 0 => False | k + 1 => whileF (fun ρ' k' => obK true ρ' fun σ => wC T c σ k') (fun ρ' k' => wS T body ρ' k' kr) k ρ' kn) (fun k ρ' hi => ?_) (fun k ρ' hi => ?_) m h hn hr
 ·cases k with
  | zero => exact hi.elim
  | succ k => exact hi
 ·cases k with
  | zero => exact hi.elim
  | succ k => exact ⟨k, Nat.lt_succ_self _, hi⟩
theorem ps_whileI (KK : KF K) (TT : TabOk prog w K mg mb n T) (MM : MgOk mg) (c : IE) {body : IS} (hb : PSs prog w K mg mb n T body) : PS prog w K mg mb n T (.whileI c body) := by
 intro A env sc nm s₀ Z₀ R Z ρ ow s kn kr Q E st X F hc h hn hr
 refine onWh_e hc fun c' body' els p hc => un0_e hc fun hc => an2 hc fun h1 h2 => ?_
 obtain ⟨Inv, ⟨k, h0⟩, hs⟩ := (show ∃ Inv : Nat → List Slot → Prop, (∃ n, Inv n ρ) ∧
  ∀ n ρ', Inv n ρ' → obK true ρ' fun σ => wC T c σ fun b => br b (wS T body ρ' (fun ρ'' => ∃ m, m < n ∧ Inv m ρ'') kr) (kn ρ') from h)
 exact while_core KK TT MM X hb F h1 h2 Inv (fun n ρ'' => ∃ m, m < n ∧ Inv m ρ'') hs (fun k ρ' hi => hi) k h0 hn hr
theorem pst_bad {is : IS} (h : ∀ sc nm st, chkS sc nm is st = true → False) : PS prog w K mg mb n T is := fun A env sc nm s₀ Z₀ R Z ρ ow s kn kr Q E st X F hc hw hn hr => (h _ _ _ hc).elim
theorem pss_bad {is : IS} (h : ∀ sc nm st, chkSs sc nm is st = true → False) : PSs prog w K mg mb n T is := fun A env sc nm s₀ Z₀ R Z ρ ow s kn kr Q E st X F hc hw hn hr => (h _ _ _ hc).elim
theorem pss_nil : PSs prog w K mg mb n T .nil := by
 intro A env sc nm s₀ Z₀ R Z ρ ow s kn kr Q E ss X F hc h hn hr
 exact un0_e hc fun J => wpAny_execs_nil (hn _ _ _ _ F (.refl _) .refl h)
theorem isFrz_e {i : IS} {P : IS → Prop} (h : isFrz i = true) (f : P .frz) : P i := by
 cases i <;> first | exact f | exact (Bool.false_ne_true h).elim
theorem pss_cons {i r : IS} (hi : PS prog w K mg mb n T i) (hr' : PSs prog w K mg mb n T r) : PSs prog w K mg mb n T (.cons i r) := by
 intro A env sc nm s₀ Z₀ R Z ρ ow s kn kr Q E ss X F hc h hn hr
 haveI h : wS T i ρ (fun ρ' => wS T r ρ' kn kr) kr := h
 haveI hc : (match isFrz i with | true => chkSs sc nm r ss | false => onCo ss fun st ss' => chkS sc nm i st && chkSs sc nm r ss') = true := hc
 cases hf : isFrz i with
 | true =>
  rw [hf] at hc
  haveI h : evL (ρ.map freeze1) (fun ρ' => wS T r ρ' kn kr) := isFrz_e (P := fun i => wS T i ρ (fun ρ' => wS T r ρ' kn kr) kr → evL (ρ.map freeze1) (fun ρ' => wS T r ρ' kn kr)) hf (fun h => h) h
  replace h := evL_o h
  exact hr' _ _ _ _ _ _ _ _ _ _ _ _ _ _ _ _ X F.frz hc h (fun Z' ρ' ow' s' F' le k hk => hn _ _ _ _ F' ((zOwn_le F).trans le) k hk) hr
 | false =>
  rw [hf] at hc
  refine onCo_e hc fun st ss' hc => an2 hc fun h1 h2 => ?_
  refine wpAny_execs_cons (hi _ _ _ _ _ _ _ _ _ _ _ _ _ _ _ _ X F h1 h (fun Z1 ρ1 ow1 s1 F1 le1 k1 h => ?_) (fun v V Z' s' g r hk => hr v V Z' s' g r hk))
  exact hr' _ _ _ _ _ _ _ _ _ _ _ _ _ _ _ _ X F1 h2 h (fun Z' ρ' ow' s' F' le k hk => hn _ _ _ _ F' (le1.trans le) (k1.trans k) hk) hr
theorem psa (KK : KF K) (TT : TabOk prog w K mg mb n T) (MM : MgOk mg) : ∀ is : IS, PS prog w K mg mb n T is ∧ PSs prog w K mg mb n T is := by
 intro is
 haveI B : ∀ {is : IS}, (∀ sc nm st, chkSs sc nm is st = true → False) → PSs prog w K mg mb n T is := fun h => pss_bad h
 induction is with
 | asg b x e => exact ⟨ps_asg KK TT MM b x e, pss_bad fun J J J h => Bool.false_ne_true h⟩
 | asgO x e => exact ⟨ps_asgO KK TT MM x e, pss_bad fun J J J h => Bool.false_ne_true h⟩
 | frz => exact ⟨pst_bad fun J J J h => Bool.false_ne_true h, pss_bad fun J J J h => Bool.false_ne_true h⟩
 | unp b xs e => exact ⟨ps_unp KK TT MM b xs e, pss_bad fun J J J h => Bool.false_ne_true h⟩
 | setIdx x i e => exact ⟨ps_setIdx KK TT MM x i e, pss_bad fun J J J h => Bool.false_ne_true h⟩
 | augIdx x op i e => exact ⟨ps_augIdx KK TT MM x op i e, pss_bad fun J J J h => Bool.false_ne_true h⟩
 | aug x op e => exact ⟨ps_aug KK TT MM x op e, pss_bad fun J J J h => Bool.false_ne_true h⟩
 | ext x e => exact ⟨ps_ext KK TT MM x e, pss_bad fun J J J h => Bool.false_ne_true h⟩
 | pop y x => exact ⟨ps_pop KK TT MM y x, pss_bad fun J J J h => Bool.false_ne_true h⟩
 | pop2 y e z x => exact ⟨ps_pop2 KK TT MM y e z x, pss_bad fun J J J h => Bool.false_ne_true h⟩
 | ite c t e ht he => exact ⟨ps_ite KK TT MM c ht.2 he.2, pss_bad fun J J J h => Bool.false_ne_true h⟩
 | for_ pat it body hb => exact ⟨ps_for KK TT MM pat it hb.2, pss_bad fun J J J h => Bool.false_ne_true h⟩
 | forI pat it body hb => exact ⟨ps_forI KK TT MM pat it hb.2, pss_bad fun J J J h => Bool.false_ne_true h⟩
 | while_ m c body hb => exact ⟨ps_while KK TT MM m c hb.2, pss_bad fun J J J h => Bool.false_ne_true h⟩
 | whileI c body hb => exact ⟨ps_whileI KK TT MM c hb.2, pss_bad fun J J J h => Bool.false_ne_true h⟩
 | ret e => exact ⟨ps_ret KK TT MM e, pss_bad fun J J J h => Bool.false_ne_true h⟩
 | fail => exact ⟨fun A env sc nm s₀ Z₀ R Z ρ ow s kn kr Q E st X F hc hw hn hr => hw.elim, pss_bad fun J J J h => Bool.false_ne_true h⟩
 | nil => exact ⟨pst_bad fun J J J h => Bool.false_ne_true h, pss_nil⟩
 | cons s r hs hr => exact ⟨pst_bad fun J J J h => Bool.false_ne_true h, pss_cons hs.1 hr.2⟩
end
theorem inL_in {x : Str} {l : List Str} : x ∈ l → inL x l = true := by
 induction l with
 | nil => intro h; cases h
 | cons y r ih =>
  intro h
  show (x == y || inL x r) = true
  rcases List.mem_cons.mp h with h | h
  ·subst h; rw [beq_self_eq_true]; rfl
  ·rw [ih h]; exact Bool.or_true _
theorem inL_iff {x : Str} {l : List Str} : inL x l = true ↔ x ∈ l := ⟨inL_mem, inL_in⟩
theorem zip_look_some (ns : List Str) : ∀ vs : List Value, vs.length = ns.length → ∀ n ∈ ns, ((ns.zip vs).lookup n).isNone = false := by
 induction ns with
 | nil => intro vs _ n h; cases h
 | cons x r ih =>
  intro vs h n hn
  cases vs with
  | nil => cases h
  | cons v vs =>
   show Option.isNone (match n == x with | true => some v | false => (r.zip vs).lookup n) = false
   cases q : n == x with
   | true => rfl
   | false =>
    rcases List.mem_cons.mp hn with e | e
    ·subst e; rw [beq_self_eq_true] at q; cases q
    ·exact ih vs (Nat.succ.inj h) n e
theorem look_ne {α : Type} {l : List (Str × α)} {n m : Str} {v : α} (h : n ≠ m) : ((m, v) :: l).lookup n = l.lookup n := by
 show (match n == m with | true => some v | false => l.lookup n) = _
 rw [beq_false_of_ne h]
theorem fmap_congr {α β : Type} {f g : α → Option β} {l : List α} : (∀ x ∈ l, f x = g x) → l.filterMap f = l.filterMap g := by
 induction l with
 | nil => exact fun _ => rfl
 | cons x r ih =>
  intro h
  rw [List.filterMap_cons, List.filterMap_cons, h x (List.mem_cons_self ..), ih fun y hy => h y (.tail _ hy)]
theorem zip_filterMap (ns : List Str) : ∀ vs : List Value, nodupL ns = true → vs.length = ns.length → ns.filterMap (fun n => ((ns.zip vs).lookup n).map (n, ·)) = ns.zip vs := by
 induction ns with
 | nil => exact fun _ _ _ => rfl
 | cons x r ih =>
  intro vs hd h
  cases vs with
  | nil => cases h
  | cons v vs =>
   obtain ⟨h1, h2⟩ := Bool.and_eq_true_iff.mp (show (!inL x r && nodupL r) = true from hd)
   haveI hx : x ∉ r := fun q => by rw [inL_in q] at h1; cases h1
   haveI e1 : List.lookup x ((x, v) :: r.zip vs) = some v := by
    show (match x == x with | true => some v | false => _) = _
    rw [beq_self_eq_true]
   rw [List.zip_cons_cons, List.filterMap_cons, e1]
   exact congrArg (List.cons (x, v)) ((fmap_congr fun n hn => congrArg (Option.map (n, ·)) (look_ne (n := n) (m := x) fun q => hx (q ▸ hn))).trans (ih vs h2 (Nat.succ.inj h)))
noncomputable def parOk (p : Arguments) (ns : List Str) : Bool := p.posonlyargs.isEmpty && p.kwonlyargs.isEmpty && p.vararg.isNone && p.kwarg.isNone && (p.args.map (·.arg)) == ns
@[elab_as_elim] theorem parOk_e {p : Arguments} {ns : List Str} {P : Arguments → List Str → Prop} (h : parOk p ns = true) (k : ∀ as kd df, P ⟨[], as, none, [], kd, none, df⟩ (as.map (·.arg))) : P p ns := by
 cases p with
 | mk po as va kw kd ka df =>
 refine an5 (P := P ⟨po, as, va, kw, kd, ka, df⟩ ns) h fun h1 h2 h3 h4 h5 => ?_
 cases List.isEmpty_iff.mp h1
 cases List.isEmpty_iff.mp h2
 cases Option.isNone_iff_eq_none.mp h3
 cases Option.isNone_iff_eq_none.mp h4
 cases eq_of_beq h5
 exact k as kd df
theorem bind_plain0 {fd : FuncData} {ns : List Str} {vs : List Value} (hm : ns.filter (fun n => ((ns.zip vs).lookup n).isNone) = []) (hf : ns.filterMap (fun n => ((ns.zip vs).lookup n).map (n, ·)) = ns.zip vs) (hp : parOk fd.params ns = true) (hdf : fd.defaults = .none) (hl : vs.length = ns.length) : bindArgs fd ⟨vs, []⟩ = pure (ns.zip vs) := by
 obtain ⟨f1, f2, ps, f4, f5, f6, f7, d⟩ := fd
 haveI hdf : d = .none := hdf
 subst hdf
 haveI hp : parOk ps ns = true := hp
 revert hm hf hl
 refine parOk_e (p := ps) hp fun as kd df => ?_
 intro hm hf hl
 haveI c1 : ¬ ((decide (vs.length > (as.map (·.arg)).length) && true) = true) := by rw [hl, decide_eq_false (Nat.lt_irrefl _)]; exact Bool.false_ne_true
 refine Eq.trans (b := if (decide (vs.length > (as.map (·.arg)).length) && true) = true then _ else _) rfl ((if_neg c1).trans ?_)
 haveI e0 : ∀ i, List.drop i ((none : Option (Array Value)).getD #[]).toList = [] := fun i => List.drop_nil
 rw [e0]
 have c2 : ¬ ((!(((as.map (·.arg)).take ((as.map (·.arg)).length - 0)).filter (fun n => (((as.map (·.arg)).zip vs).lookup n).isNone)).isEmpty) = true) := by rw [Nat.sub_zero, List.take_length, hm]; exact Bool.false_ne_true
 refine Eq.trans (b := if (!(((as.map (·.arg)).take ((as.map (·.arg)).length - 0)).filter (fun n => (((as.map (·.arg)).zip vs).lookup n).isNone)).isEmpty) = true then _ else _) rfl ((if_neg c2).trans ?_)
 refine (congrArg (fun l : List (Str × Value) => (Bind.bind (forIn (m := Sem) l _ _) _)) (List.zip_nil_right (l := (as.map (·.arg)).drop ((as.map (·.arg)).length - 0)))).trans ?_
 exact congrArg (pure (f := Sem)) ((congrArg (List.filterMap _) (List.append_nil _)).trans hf)
theorem bind_plain {fd : FuncData} {ns : List Str} {vs : List Value} (hp : parOk fd.params ns = true) (hdf : fd.defaults = .none) (hn : nodupL ns = true) (hl : vs.length = ns.length) : bindArgs fd ⟨vs, []⟩ = pure (ns.zip vs) :=
 bind_plain0 (List.filter_eq_nil_iff.mpr fun n h => by rw [zip_look_some ns vs hl n h]; exact Bool.false_ne_true) (zip_filterMap ns vs hn hl) hp hdf hl
noncomputable def fdChk (K : Frag) (fd : FuncData) (nm ps : List Str) (ir : IS) : Bool := match fd.body with
 | .stmts body => codeIn K fd.code fd.qualname && fd.closure.isEmpty && fd.globals == mainGlobals && fd.builtins == builtinsNs && fd.defaults == .none && fd.scope.kind == .function && !fd.scope.isGenerator && !fd.scope.isCoroutine &&
   parOk fd.params ps && chkKinds fd.scope nm && chkSs fd.scope nm ir body
 | _ => false
noncomputable def fnChk (K : Frag) (a : Addr) (nm ps : List Str) (ir : IS) : Bool := match K.lookup a with
 | some ⟨_, _, .func fd, _⟩ => fdChk K fd nm ps ir
 | _ => false
theorem cells_acc (x : Str) (names : List (Str × NameKind)) : ∀ (n : Nat) (acc : List (Str × Addr)), (∃ c, acc.lookup x = some c) → ∃ c, (cellsFrom n names acc).lookup x = some c := by
 induction names with
 | nil => exact fun _ _ h => h
 | cons p r ih =>
  intro n acc h
  show ∃ c, (if (p.2 == NameKind.cell) = true then cellsFrom (n + 1) r ((p.1, n) :: acc) else cellsFrom n r acc).lookup x = some c
  by_cases q : (p.2 == NameKind.cell) = true
  ·rw [if_pos q]
   refine ih _ _ ?_
   show ∃ c, (match x == p.1 with | true => some n | false => acc.lookup x) = some c
   cases x == p.1 with
   | true => exact ⟨_, rfl⟩
   | false => exact h
  ·rw [if_neg q]; exact ih _ _ h
theorem cells_look (x : Str) (names : List (Str × NameKind)) : ∀ (n : Nat) (acc : List (Str × Addr)), names.lookup x = some .cell → ∃ c, (cellsFrom n names acc).lookup x = some c := by
 induction names with
 | nil => exact fun _ _ h => nsm h
 | cons p r ih =>
  intro n acc
  show (match x == p.1 with | true => some p.2 | false => r.lookup x) = some NameKind.cell → ∃ c, (if (p.2 == NameKind.cell) = true then cellsFrom (n + 1) r ((p.1, n) :: acc) else cellsFrom n r acc).lookup x = some c
  cases q : x == p.1 with
  | true =>
   intro h
   rw [if_pos (by rw [Option.some.inj h]; rfl)]
   exact cells_acc x r _ _ ⟨n, show (match x == p.1 with | true => some n | false => acc.lookup x) = some n by rw [q]⟩
  | false =>
   intro h
   by_cases t : (p.2 == NameKind.cell) = true
   ·rw [if_pos t]; exact ih _ _ h
   ·rw [if_neg t]; exact ih _ _ h
theorem bindL_other (k : Str → Option NameKind) (x : Str) (ns : List Str) : ∀ (vs : List Value) (m : Str → Option Value), x ∉ ns → bindL k (ns.zip vs) m x = m x := by
 induction ns with
 | nil => exact fun _ _ _ => rfl
 | cons y r ih =>
  intro vs m h
  cases vs with
  | nil => rfl
  | cons v vs =>
   refine (ih vs _ fun q => h (.tail _ q)).trans ?_
   by_cases q : k y = some .local
   ·rw [if_pos q]; exact if_neg fun e : x = y => h (e ▸ .head _)
   ·rw [if_neg q]
theorem bindC_other (k : Str → Option NameKind) (x : Str) (ns : List Str) : ∀ (vs : List Value) (m : Str → Option Value), x ∉ ns → bindC k (ns.zip vs) m x = m x := by
 induction ns with
 | nil => exact fun _ _ _ => rfl
 | cons y r ih =>
  intro vs m h
  cases vs with
  | nil => rfl
  | cons v vs =>
   refine (ih vs _ fun q => h (.tail _ q)).trans ?_
   by_cases q : k y = some .local
   ·rw [if_pos q]
   ·rw [if_neg q]; exact if_neg fun e : x = y => h (e ▸ .head _)
theorem nodupL_e {y : Str} {r : List Str} (h : nodupL (y :: r) = true) : y ∉ r ∧ nodupL r = true := by
 obtain ⟨h3, h4⟩ := Bool.and_eq_true_iff.mp (show (!inL y r && nodupL r) = true from h)
 exact ⟨fun q => (by rw [inL_in q] at h3; cases h3), h4⟩
theorem bindL_at (k : Str → Option NameKind) (x : Str) (v : Value) (hk : k x = some .local) (ns : List Str) : ∀ (vs : List Value) (m : Str → Option Value) (i : Nat), nodupL ns = true → ns[i]? = some x → vs[i]? = some v → bindL k (ns.zip vs) m x = some v := by
 induction ns with
 | nil => exact fun _ _ _ _ h => nsm h
 | cons y r ih =>
  intro vs m i hd h1 h2
  cases vs with
  | nil => exact nsm h2
  | cons u vs =>
   obtain ⟨h3, h4⟩ := nodupL_e hd
   cases i with
   | zero =>
    cases h1; cases h2
    refine (bindL_other k _ r vs _ h3).trans ?_
    rw [if_pos hk]; exact if_pos rfl
   | succ i => exact ih vs _ i h4 h1 h2
theorem bindC_at (k : Str → Option NameKind) (x : Str) (v : Value) (hk : k x = some .cell) (ns : List Str) : ∀ (vs : List Value) (m : Str → Option Value) (i : Nat), nodupL ns = true → ns[i]? = some x → vs[i]? = some v → bindC k (ns.zip vs) m x = some v := by
 induction ns with
 | nil => exact fun _ _ _ _ h => nsm h
 | cons y r ih =>
  intro vs m i hd h1 h2
  cases vs with
  | nil => exact nsm h2
  | cons u vs =>
   obtain ⟨h3, h4⟩ := nodupL_e hd
   cases i with
   | zero =>
    cases h1; cases h2
    refine (bindC_other k _ r vs _ h3).trans ?_
    rw [if_neg (by rw [hk]; exact nofun)]; exact if_pos rfl
   | succ i => exact ih vs _ i h4 h1 h2
theorem getS_us (n : Nat) : ∀ i : Nat, getS (us n) i = .u := by
 induction n with
 | zero => exact fun _ => rfl
 | succ n ih =>
  intro i
  cases i with
  | zero => rfl
  | succ i => exact ih i
theorem getS_ofArgs (n : Nat) (args : List V) : ∀ i : Nat, getS (ofArgs n args) i = match args[i]? with | some v => .v v | none => .u := by
 induction args with
 | nil => exact getS_us n
 | cons v r ih =>
  intro i
  cases i with
  | zero => rfl
  | succ i => exact ih i
theorem len_us (n : Nat) : (us n).length = n := by
 induction n with
 | zero => rfl
 | succ n ih => exact congrArg (· + 1) ih
theorem len_ofArgs (n : Nat) (args : List V) : (ofArgs n args).length = n + args.length := by
 induction args with
 | nil => exact len_us n
 | cons v r ih => exact congrArg (· + 1) ih
section
variable {n : Nat} {T : Tab}
theorem fnChk_e {K : Frag} {a : Addr} {nm ps : List Str} {ir : IS} (h : fnChk K a nm ps ir = true) : ∃ oc od fd osl, K.lookup a = some ⟨oc, od, .func fd, osl⟩ ∧ fdChk K fd nm ps ir = true := by
 haveI h : (match K.lookup a with | some ⟨_, _, .func fd, _⟩ => fdChk K fd nm ps ir | _ => false) = true := h
 cases q : K.lookup a with
 | none => rw [q] at h; cases h
 | some o =>
  rw [q] at h
  cases o with
  | mk oc od d osl => cases d <;> first | exact ⟨_, _, _, _, rfl, h⟩ | exact nft h
theorem fdChk_e {K : Frag} {fd : FuncData} {nm ps : List Str} {ir : IS} (h : fdChk K fd nm ps ir = true) : ∃ body, fd.body = .stmts body ∧ (codeIn K fd.code fd.qualname && fd.closure.isEmpty && fd.globals == mainGlobals && fd.builtins == builtinsNs && fd.defaults == .none && fd.scope.kind == .function && !fd.scope.isGenerator && !fd.scope.isCoroutine &&
   parOk fd.params ps && chkKinds fd.scope nm && chkSs fd.scope nm ir body) = true := by
 unfold fdChk at h
 generalize fd.body = b at h ⊢
 cases b <;> first | exact ⟨_, rfl, h⟩ | exact nft h
theorem bnot {b : Bool} (h : (!b) = true) : b = false := by cases b <;> first | rfl | cases h
theorem nodupL_app {xtra ps : List Str} : nodupL (ps ++ xtra) = true → nodupL ps = true := by
 induction ps with
 | nil => exact fun _ => rfl
 | cons x r ih =>
  intro nd
  obtain ⟨h1, h2⟩ := nodupL_e nd
  show (!inL x r && nodupL r) = true
  rw [ih h2]
  cases q : inL x r with
  | false => rfl
  | true => exact (h1 (List.mem_append_left _ (inL_mem q))).elim
theorem call_ok (KK : KF K) (TT : TabOk prog w K mg mb n T) (MM : MgOk mg) {f : Fn} {ps xtra : List Str} {ir : IS} (hc : fnChk K f.addr (ps ++ xtra) ps ir = true) {args : List V} {k : V → Prop} (hl : args.length = ps.length)
  (h : wS T ir (ofArgs xtra.length args) (fun J => k .none) k) : CallOk prog w K mg mb (n + 2) f args k := by
 intro A s Z vs Q E hA G hz zt r hk
 obtain ⟨oc, od, fd, osl, hlook, hc⟩ := (fnChk_e hc)
 obtain ⟨body, hbody, hc⟩ := (fdChk_e hc)
 obtain ⟨hc, c11⟩ := Bool.and_eq_true_iff.mp hc
 obtain ⟨hc, c10⟩ := Bool.and_eq_true_iff.mp hc
 obtain ⟨hc, c9⟩ := (Bool.and_eq_true_iff.mp hc)
 refine an8 hc fun c1 c2 c3 c4 c5 c6 c7 c8 => ?_
 haveI c7 := bnot c7
 haveI c8 := bnot c8
 haveI e3 := eq_of_beq c3
 haveI e4 := eq_of_beq c4
 haveI e5 : fd.defaults = .none := eq_of_beq c5
 haveI e6 : fd.scope.kind = .function := eq_of_beq c6
 obtain ⟨nd, kd⟩ := Bool.and_eq_true_iff.mp (show (nodupL (ps ++ xtra) && (ps ++ xtra).all fun x => isLoc (fd.scope.names.lookup x) || isCell (fd.scope.names.lookup x)) = true from c10)
 haveI ndp : nodupL ps = true := nodupL_app nd
 haveI hvl : vs.length = ps.length := by rw [r.length, hl]
 have kd' : ∀ (i : Nat) x, (ps ++ xtra)[i]? = some x → fd.scope.names.lookup x = some .local ∨ fd.scope.names.lookup x = some .cell := fun i x hx => by
  haveI := List.all_eq_true.mp kd x (List.mem_of_getElem? hx)
  rcases Bool.or_eq_true_iff.mp this with q | q
  ·exact .inl (isLoc_eq q)
  ·exact .inr (isCell_eq q)
 haveI hL := none_at hz (b := s.heap.objs.size) (Nat.le_refl _)
 refine wpAny_call (codeAny_call_cells (fd := fd) (body := body) (binds := ps.zip vs) (by haveI := hA.d; omega) (G.k _ _ hlook) rfl G.nolim (codeRec_of G.k c1) hbody (bind_plain c9 e5 ndp hvl) (List.isEmpty_iff.mp c2) (fun x hx => ?_) (fun s₁ X => ?_) c8 c7 e6)
 ·have hm : x.1 ∈ ps := (List.of_mem_zip hx).1
  obtain ⟨i, hi, e⟩ := List.getElem_of_mem hm
  haveI hx' : (ps ++ xtra)[i]? = some x.1 := by
   rw [List.getElem?_append_left hi, List.getElem?_eq_getElem hi, e]
  rcases kd' i x.1 hx' with q | q
  ·exact .inl q
  ·refine .inr ⟨q, ?_⟩
   obtain ⟨c, hc⟩ := cells_look x.1 fd.scope.names (s.heap.objs.size + 1) [] q
   rw [hc]; rfl
 ·obtain ⟨env, he⟩ : ∃ env, env = callEnvC fd s.heap.objs.size f.addr := ⟨_, rfl⟩
  rw [← he] at X ⊢
  have eL : env.locals = s.heap.objs.size := by rw [he]; rfl
  have eS : env.scope = fd.scope := by rw [he]; rfl
  haveI eC : env.cells = cellsFrom (s.heap.objs.size + 1) fd.scope.names [] := by rw [he]; rfl
  haveI eG : env.globals = mainGlobals := by rw [he]; exact e3
  haveI eB : env.builtins = builtinsNs := by rw [he]; exact e4
  have eK : ∀ x, env.kindOf x = fd.scope.names.lookup x := fun x => by show env.scope.names.lookup x = _; rw [eS]
  have lookC : ∀ x, env.kindOf x = some .cell → ∃ c, env.cells.lookup x = some c := fun x h => by
   rw [eC]; exact cells_look x _ _ _ (by rw [← eK]; exact h)
  haveI cellN : ∀ x c, env.cells.lookup x = some c → s.heap.get? c = none ∧ Z c = none := fun x c h => by
   haveI := X.above x c (PySem.mem_of_lookup h)
   rw [eL] at this
   haveI q := none_at hz (b := c) (Nat.le_of_lt this)
   exact ⟨q.2, q.1⟩
  have ek : EnvOk env := ⟨by rw [eS]; exact e6, eG, eB, lookC, fun x y c h1 h2 => PySem.name_of_addr X.apart (PySem.mem_of_lookup h1) (PySem.mem_of_lookup h2)⟩
  haveI fx : Fx n (A.deeper env) env fd.scope (ps ++ xtra) := by
   refine ⟨⟨ek, fun i x J hx => ?_, fun i j x J J h1 h2 => nodupL_inj nd i j x h1 h2, ?_⟩, hA.deeper env, ⟨fun x h => ?_, fun x h => ?_⟩, ?_, eS⟩
   ·rw [eK]; exact kd' i x hx
   ·rw [ek.kind]; rfl
   ·rw [eK]
    unfold glob at h
    split at h
    ·assumption
    ·cases h
   ·rw [eK]; exact isCell_eq h
   ·unfold Env.blockKind
    rw [ek.kind]; rfl
  obtain ⟨h₁, tk, rfl, kp⟩ := (X.done)
  have F0 : FM K mg mb s Z env (ps ++ xtra) [] Z (ofArgs xtra.length args) (fun J => 0) { s with heap := h₁, toks := tk } := by
   refine ⟨G, ⟨.inr (Nat.le_of_eq eL.symm), zt⟩, Grow.still hz kp id rfl, ⟨_, X.toInCall.ns⟩, ⟨by rw [eL]; exact hL.2, by rw [eL]; exact hL.1, nofun⟩, fun i x J hx hk' => ?_, fun x c hc => ⟨nofun, _, X.cell x c hc⟩, fun i j x h1 h2 J h3 => absurd (nodupL_inj nd i j x h1 h2) h3, nofun, ?_, fun i x V hx hv => ?_, fun i x xs hx hv => ?_, fun i j xs ys hv => ?_⟩
   ·obtain ⟨c, hc⟩ := (lookC x hk')
    exact ⟨c, hc, ⟨_, X.cell x c hc⟩, (cellN x c hc).1, (cellN x c hc).2, nofun⟩
   ·rw [len_ofArgs, List.length_append, hl]; exact Nat.add_comm ..
   ·rw [getS_ofArgs] at hv
    cases ha : args[i]? with
    | none => rw [ha] at hv; cases hv
    | some V' =>
     rw [ha] at hv
     cases hv
     obtain ⟨v, hv, hr⟩ := (r.get ha)
     have hi : i < ps.length := by rw [← hl]; exact (List.getElem?_eq_some_iff.mp ha).1
     rw [List.getElem?_append_left hi] at hx
     refine ⟨v, ?_, hr⟩
     rcases kd' i x (by rw [List.getElem?_append_left hi]; exact hx) with q | q
     ·exact .inl ⟨by rw [eK]; exact q, _, X.toInCall.ns, bindL_at _ x v (by rw [eK]; exact q) ps vs _ i ndp hx hv⟩
     ·obtain ⟨c, hc⟩ := lookC x (by rw [eK]; exact q)
      refine .inr ⟨by rw [eK]; exact q, c, hc, ?_⟩
      haveI := X.cell x c hc
      rw [bindC_at _ x v (by rw [eK]; exact q) ps vs _ i ndp hx hv] at this
      exact this
   ·rw [getS_ofArgs] at hv
    cases ha : args[i]? with
    | none => rw [ha] at hv; cases hv
    | some V' => rw [ha] at hv; cases hv
   ·rw [getS_ofArgs] at hv
    cases ha : args[i]? with
    | none => rw [ha] at hv; cases hv
    | some V' => rw [ha] at hv; cases hv
  refine (psa KK TT MM ir).2 _ _ _ _ _ _ _ _ _ _ _ _ k _ _ _ fx F0 c11 h (fun Z' ρ' ow' s' F' le kr hk' => ?_) (fun v V Z' s' g r hk' => ?_)
  ·exact hk _ _ _ _ F'.gr .none hk'
  ·exact hk _ _ _ _ g r hk'
end
noncomputable def KeepX (wr : List Addr) (h h' : Heap) : Prop := ∀ b o, b ∉ wr → h.get? b = some o → (∀ xs n, o.data ≠ .seq xs n) → h'.get? b = some o
theorem KeepX.of {wr : List Addr} {h h' : Heap} (x : ∀ b o, b ∉ wr → h.get? b = some o → h'.get? b = some o) : KeepX wr h h' := fun b o hb e J => x b o hb e
abbrev Lasts (wr : List Addr) (F : Nat → Value → Heap → Prop) : Prop := ∀ i v h h', F i v h → KeepX wr h h' → F i v h'
structure WalksH (prog : Program) (w : World) (A : Around) (I : Addr) (fp wr : List Addr) (G : Array GenState → Array GenState → Prop) (n : Nat) (P : Nat → Value → Heap → Prop) (St : Nat → Shared → Prop) : Prop where
 sub : ∀ b ∈ wr, b ∈ fp
 grefl : ∀ a, G a a
 gtrans : ∀ a b c, G a b → G b c → G a c
 frame : ∀ i (s : Shared) h' tk, St i s → (∀ b ∈ fp, ∀ o, s.heap.get? b = some o → h'.get? b = some o) → St i { s with heap := h', toks := tk }
 item : ∀ i (s : Shared) (Q : Option Value → Shared → Prop) (E : Value → Shared → Prop), i < n → St i s →
  (∀ v s', P i v s'.heap → St (i + 1) s' → Moved wr G s s' → Q (some v) s') → wpAny (model prog w) A (pyNext (.ref I)) Q E s
 done : ∀ (s : Shared) (Q : Option Value → Shared → Prop) (E : Value → Shared → Prop), St n s → (∀ s', Moved wr G s s' → Q none s') → wpAny (model prog w) A (pyNext (.ref I)) Q E s
 self : ∀ i (s : Shared) (Q : Value → Shared → Prop) (E : Value → Shared → Prop), St i s → Q (.ref I) s → wpAny (model prog w) A (pyIter (.ref I)) Q E s
theorem WalksH.of_in1 {A : Around} {I : Addr} {fp wr : List Addr} {G : Array GenState → Array GenState → Prop} {n : Nat} {P : Nat → Value → Heap → Prop} {St : Nat → Shared → Prop}
  (W : WalksH prog w A.in1 I fp wr G n P St) : WalksH prog w A I fp wr G n P St where
 sub := W.sub
 grefl := W.grefl
 gtrans := W.gtrans
 frame := W.frame
 item := fun i s Q E hi st hQ => wpAny_of_in1 (W.item i s Q E hi st hQ)
 done := fun s Q E st hQ => wpAny_of_in1 (W.done s Q E st hQ)
 self := fun i s Q E st hQ => wpAny_of_in1 (W.self i s Q E st hQ)
noncomputable def ItemsH (P : Nat → Value → Heap → Prop) (acc : List Value) (h : Heap) : Prop := ∀ j v, acc[j]? = some v → P j v h
section
variable {A : Around} {E : Value → Shared → Prop} {s : Shared} {R : Result → Shared → Prop}
variable {I : Addr} {fp wr : List Addr} {G : Array GenState → Array GenState → Prop} {n : Nat} {P : Nat → Value → Heap → Prop} {St : Nat → Shared → Prop}
theorem extend_loopH (W : WalksH prog w A.in1 I fp wr G n P St) (hP : Lasts wr P) (hn : n ≤ 64) (S : Addr) (hSf : S ∉ fp) (res : Value) :
  ∀ (k i : Nat) (s : Shared) (acc : List Value) (c : Nat), n - i = k → i ≤ n → St i s → s.heap.get? S = some (listOf acc.toArray c) → acc.length = i → ItemsH P acc s.heap →
  (∀ s' acc' c', Moved (S :: wr) G s s' → s'.heap.get? S = some (listOf (acc' : List Value).toArray c') → acc'.length = n → ItemsH P acc' s'.heap → R (.ok (.ret res)) s') →
  codeAny (model prog w) A (.builtin "list.extend.loop" ⟨[.ref S, .ref I, res], []⟩) R s := by
 have hSw : S ∉ wr := fun h => hSf (W.sub _ h)
 haveI hsub : ∀ b ∈ wr, b ∈ S :: wr := fun b hb => List.mem_cons_of_mem _ hb
 haveI h64 : 64 ≤ sizeLine := by decide
 intro k
 induction k with
 | zero =>
  intro i s acc c hk hi hst hS hl hacc hR
  haveI hin : i = n := lc2 hk hi
  subst hin
  refine codeAny_builtin F.entry_extend_loop ?_
  rw [Around.under_plainId F.plain_extend_loop _]
  show wpAny _ A.in1 (pyNext (.ref I) >>= _) _ _ s
  refine wpAny_bind (W.done s _ _ hst fun s' hm => ?_)
  exact wpAny_pure (hR s' acc c (hm.mono hsub) (hm.heap S _ hSw hS) hl fun j v hv => hP j v _ _ (hacc j v hv) (.of hm.heap))
 | succ k ih =>
  intro i s acc c hk hi hst hS hl hacc hR
  have hlt : i < n := lc3 hk
  refine codeAny_builtin F.entry_extend_loop ?_
  rw [Around.under_plainId F.plain_extend_loop _]
  show wpAny _ A.in1 (pyNext (.ref I) >>= _) _ _ s
  refine wpAny_bind (W.item i s _ _ hlt hst fun v s' hPv hst' hm => ?_)
  have hS' := hm.heap S _ hSw hS
  have oth : ∀ b o, b ≠ S → s'.heap.get? b = some o → (s'.heap.update S (Obj.mapSeq (·.push v))).get? b = some o := fun b o hb e => (Heap.get?_update_other _ _ (Ne.symm hb)).trans e
  have kx : KeepX wr s'.heap (s'.heap.update S (Obj.mapSeq (·.push v))) := fun b o J e hd => oth b o (fun q => by rw [q, hS'] at e; cases e; exact hd _ _ rfl) e
  show wpAny _ A.in1 (updateSeq S (·.push v) >>= _) _ _ _
  refine wpAny_bind ?_
  refine wpAny_updateSeq hS' rfl (wpAny_pure ⟨plainId_quiet F.plain_extend_loop _, ih (i + 1) _ (acc ++ [v]) (if (acc.toArray.push v).size == acc.toArray.size then c else c + 1) (lc1 hk) hlt (W.frame _ s' _ s'.toks hst' fun b hb o e => oth b o (fun q => hSf (q ▸ hb)) e) ?_ (by simp [hl]) (fun j u hj => ?_) fun s'' acc' c' hm'' hS'' hl' hacc' => ?_⟩)
   (by rw [List.size_toArray, hl]; omega) (by show (acc.toArray.push v).size ≤ sizeLine + 1; rw [Array.size_push, List.size_toArray, hl]; omega)
  ·haveI q := PySem.IsL.update hS' (fun xs => xs.push v)
   rw [show acc.toArray.push v = (acc ++ [v]).toArray by simp] at q ⊢
   exact q
  ·rw [List.getElem?_append] at hj
   split at hj
   ·exact hP j u _ _ (hP j u _ _ (hacc j u hj) (.of hm.heap)) kx
   ·rename_i hge
    have : j - acc.length = 0 := by
     rcases Nat.eq_zero_or_pos (j - acc.length) with h | h
     ·exact h
     ·rw [List.getElem?_eq_none_iff.mpr (by simp; omega)] at hj; cases hj
    rw [this] at hj
    have hji : j = i := by omega
    simp only [List.getElem?_cons_zero, Option.some.injEq] at hj
    subst hj hji
    exact hP _ _ _ _ hPv kx
  ·refine hR s'' acc' c' (Moved.trans W.gtrans ((hm.mono hsub).then_heap (Nat.le_refl _) fun b o hb e => oth b o (fun q => hb (q ▸ List.mem_cons_self)) e) hm'') hS'' hl' hacc'
theorem collectH {Q : List Value → Shared → Prop} (W : WalksH prog w A.in1 I fp wr G n P St) (hP : Lasts wr P) (hT : ∀ i s, St i s → s.TypeIs (.ref I) "generator") (hst : St 0 s) (hfp : ∀ b ∈ fp, b < s.heap.objs.size) (hI : I ∈ fp) (hn : n ≤ 64)
  (hQ : ∀ s' acc, Moved wr G s s' → acc.length = n → ItemsH P acc s'.heap → Q acc s') : wpAny (model prog w) A (collect (.ref I)) Q E s := by
 have hSf : s.heap.objs.size ∉ fp := fun hm => Nat.lt_irrefl _ (hfp _ hm)
 haveI hSI : s.heap.objs.size ≠ I := fun e => hSf (e ▸ hI)
 haveI hSw : s.heap.objs.size ∉ wr := fun h => hSf (W.sub _ h)
 unfold collect
 refine wpAny_bind (wpAny_runValue (codeAny_builtin F.entry_proto_collect ?_))
 rw [Around.under_plainId F.plain_proto_collect _]
 show wpAny _ A.in1 (newList [] >>= fun l => again (.builtin "list.__iadd__" ⟨[l, .ref I], []⟩)) _ _ s
 refine wpAny_bind (wpAny_newObj_type ?_)
 refine wpAny_pure ⟨plainId_quiet F.plain_list_iadd _, codeAny_builtin F.entry_list_iadd ?_⟩
 rw [Around.under_plainId F.plain_list_iadd _]
 generalize hN : s.heap.objs.size = N at *
 haveI hst₁ := W.frame 0 s (s.heap.push { cls := .type "list", data := .seq ([] : List Value).toArray }) s.toks hst fun b J o e => Heap.get?_push_of_some _ e
 show wpAny _ A.in1 (Builtin.List.listExtendWith (.ref N) (.ref I) (.ref N)) _ _ _
 unfold Builtin.List.listExtendWith
 refine wpAny_bind (wpAny_typeOf (hT 0 _ hst₁) ?_)
 haveI h1 : Builtin.List.listSameRef (.ref N) (.ref I) = false := by simp [Builtin.List.listSameRef, hSI]
 haveI h2 : (Value.type "generator" == Value.type "list") = false := by decide
 haveI h3 : (Value.type "generator" == Value.type "tuple") = false := by decide
 simp only [h1, h2, h3, Bool.or_false, Bool.false_eq_true, if_false]
 refine wpAny_bind (W.self 0 _ _ _ hst₁ ?_)
 refine wpAny_bind (wpAny_holding ?_)
 unfold Builtin.List.listLengthHint
 refine wpAny_bind (wpAny_specialOf (hT 0 _ hst₁) F.gen_no_len ?_)
 show wpAny _ A.in1 (specialOf (Value.ref I) (Str.ofString "__length_hint__") >>= _) _ _ _
 refine wpAny_bind (wpAny_specialOf (hT 0 _ hst₁) F.gen_no_hint ?_)
 refine wpAny_pure ?_
 show wpAny _ A.in1 (rule "list.extend.makes-room" >>= fun J => Builtin.List.listTouch (.ref N) >>= fun J =>
  again (.builtin "list.extend.loop" ⟨[.ref N, .ref I, .ref N], []⟩)) _ _ _
 refine wpAny_bind (wpAny_rule ?_)
 haveI hS₁ : (s.heap.push { cls := .type "list", data := .seq ([] : List Value).toArray }).get? N = some (listOf ([] : List Value).toArray 0) := by rw [← hN]; exact Heap.get?_push_size _ rfl
 refine wpAny_bind ?_
 show wpAny _ A.in1 (updateSeq N (·.push .none) >>= fun J => updateSeq N (·.pop)) _ _ _
 refine wpAny_bind (wpAny_updateSeq hS₁ rfl ?_)
 haveI hS₂ := Heap.get?_update_self (Obj.mapSeq (·.push Value.none)) hS₁ rfl
 refine wpAny_updateSeq hS₂ rfl ?_
 haveI hS₃ := Heap.get?_update_self (Obj.mapSeq (·.pop)) hS₂ rfl
 have oth : ∀ b o, b ≠ N → (s.heap.push { cls := .type "list", data := .seq ([] : List Value).toArray }).get? b = some o →
   (((s.heap.push { cls := .type "list", data := .seq ([] : List Value).toArray }).update N (Obj.mapSeq (·.push Value.none))).update N (Obj.mapSeq (·.pop))).get? b = some o :=
  fun b o hb e => (Heap.get?_update_other _ _ (Ne.symm hb)).trans ((Heap.get?_update_other _ _ (Ne.symm hb)).trans e)
 have nN : s.heap.get? N = none := by
  cases q : s.heap.get? N with
  | none => rfl
  | some o => exact absurd (Heap.lt_size q) (by rw [hN]; exact Nat.lt_irrefl _)
 refine wpAny_pure ⟨plainId_quiet F.plain_extend_loop _, extend_loopH W hP hn _ hSf _ n 0 _ [] _ rfl (Nat.zero_le _)
  (W.frame 0 ({ s with heap := s.heap.push { cls := .type "list", data := .seq ([] : List Value).toArray } } : Shared) _ s.toks hst₁ fun b hb o e => oth b o (fun h => hSf (h ▸ hb)) e) hS₃ rfl (fun j v hv => by simp at hv) fun s' acc' c' hm hS' hl' hacc => ?_⟩
 show wpAny _ A (load N >>= _) _ _ s'
 refine wpAny_bind (wpAny_load hS' ?_)
 haveI hm' : Moved wr G s s' := ⟨fun b o hb e => hm.heap b o (fun q => by
   rcases List.mem_cons.mp q with q | q
   ·rw [q, nN] at e; cases e
   ·exact hb q) (oth b o (fun q => by rw [q, nN] at e; cases e) (Heap.get?_push_of_some _ e)), hm.gens, hm.drawn, hm.os, hm.toks⟩
 exact wpAny_pure (hQ s' acc' hm' hl' hacc)
theorem call_tupleH {Q : Value → Shared → Prop} (W : WalksH prog w A.in1.in1.in1 I fp wr G n P St) (hP : Lasts wr P) (hT : ∀ i s, St i s → s.TypeIs (.ref I) "generator") (hst : St 0 s) (hfp : ∀ b ∈ fp, b < s.heap.objs.size) (hI : I ∈ fp) (hn : n ≤ 64)
  (hQ : ∀ s' (acc : List Value), Moved wr G s s' → acc.length = n → ItemsH P acc s'.heap → Q (.ref s'.heap.objs.size) { s' with heap := s'.heap.push { cls := .type "tuple", data := .seq acc.toArray } }) :
  wpAny (model prog w) A (call (.type "tuple") [.ref I]) Q E s := by
 haveI h64 : 64 ≤ sizeLine := by decide
 refine callType_codes (Q₁ := fun obj s₁ => s₁.TypeIs obj "tuple" ∧ Q obj s₁) F.called_tuple (F.typeCall_tuple_1 _) F.entry_object_init ?_ fun obj s₁ h₁ => ?_
 ·refine codeAny_of_tree ?_
  show wpAny _ A.in1.in1 (do checkBuiltinCall "tuple.__new__" ⟨[.type "tuple", .ref I], []⟩; again (.builtin "tuple.__new__" ⟨[.type "tuple", .ref I], []⟩)) _ _ s
  refine wpAny_bind (wpAny_of_eq (F.newCall_tuple_1 _) (wpAny_pure ⟨plainId_quiet F.plain_tuple_new _, codeAny_builtin F.entry_tuple_new ?_⟩))
  rw [Around.under_plainId F.plain_tuple_new _]
  haveI hsub := sub_tuple_self
  haveI hinit := init_tuple_lookup
  haveI hmh := madeHere_tuple
  haveI hTI := hT 0 s hst
  wp_walk using wpAny_typeOf hTI, collectH W hP hT hst hfp hI hn
  intro s' acc hm hl hacc
  show wpAny _ _ (Builtin.Tuple.tupleExact acc.toArray >>= fun v => ret v) _ _ _
  unfold Builtin.Tuple.tupleExact
  refine wpAny_bind (wpAny_newObj_type ?_ (by show acc.toArray.size ≤ sizeLine; rw [List.size_toArray, hl]; omega))
  exact wpAny_pure ⟨⟨_, Heap.get?_push_size _ rfl, rfl⟩, hQ s' acc hm hl hacc⟩
 ·exact ⟨h₁.1, F.args_object_init_2 obj _, object_init_meets F.called_tuple.init.lookup F.called_tuple.made (by decide) prog w A.in1 _ s₁ ⟨h₁.1, rfl, h₁.2⟩⟩
end
noncomputable def gPr (C : Addr) (fp wr : List Addr) (n₀ : Nat) (F : Nat → Value → Heap → Prop) : Protocol := fun m s₀ v s kap =>
 (m < n₀ ∧ F (n₀ - 1 - m) v s.heap) ∧ GenSince C wr s₀ s ∧ ∀ s'' : Shared, (∀ b ∈ C :: fp, ∀ o, s.heap.get? b = some o → s''.heap.get? b = some o) → kap (.send .none) s''
abbrev gEnd (C : Addr) (wr : List Addr) : GenEnd := fun n s₀ r s₁ => r = .ok .next ∧ (n = 0 ∧ GenSince C wr s₀ s₁)
noncomputable def QEl (prog : Program) (w : World) (cenv : Env) (x : Str) (elt : Expr) (fp wr : List Addr) (P : Nat → Value → Prop) (St₀ : Nat → Heap → Prop) (F : Nat → Value → Heap → Prop) (href : Heap) (D U : Nat) : Prop :=
 ∀ (A' : Around) E' i v (s₂ : Shared) m₂, A'.handled = none → A'.depth ≤ D → A'.units ≤ U → P i v → St₀ (i + 1) s₂.heap → s₂.heap.Ns cenv.locals m₂ → m₂ x = some v → (∀ b ∈ fp, b ∉ wr → ∀ o, href.get? b = some o → s₂.heap.get? b = some o) →
  wpAny (model prog w) A' (eval elt cenv) (fun y s₃ => F i y s₃.heap ∧ Keeps s₂ s₃) E' s₂
section
variable {A : Around}
theorem seg_loopH {elt iter : Expr} {x : Str} {px : Pos} {scope : Scope} {pos : Pos} {I : Addr} {fp wr : List Addr} {n₀ : Nat} {P : Nat → Value → Prop} {St₀ : Nat → Heap → Prop} {cenv : Env} {F : Nat → Value → Heap → Prop}
  (hh : A.handled = none) (W₀ : ∀ A' : Around, A'.handled = none → Walks prog w A' I fp wr n₀ P St₀) (href : Heap)
  (hx : cenv.kindOf x = some .local) (hp : (cenv.scope.kind == .class || (cenv.scope.kind == .module && cenv.locals != cenv.globals)) = false)
  (hco : cenv.scope.isCoroutine = false) (hCf : cenv.locals ∉ fp) (hq : QEl prog w cenv x elt fp wr P St₀ F href (A.depth + 1) (A.units + 3)) :
  ∀ (k i : Nat) (s₀ s : Shared) (m : Str → Option Value), n₀ - i = k → i ≤ n₀ → St₀ i s.heap → s.heap.Ns cenv.locals m → GenSince cenv.locals wr s₀ s →
   (∀ b ∈ fp, b ∉ wr → ∀ o, href.get? b = some o → s.heap.get? b = some o) →
   Seg (model prog w) A (gEnd cenv.locals wr) (gPr cenv.locals fp wr n₀ F) (n₀ - i) s₀
    (.compLoop (.GeneratorExp elt [⟨.Name x px, iter, [], 0⟩] scope pos) 0 (.ref I) .none cenv)
    ((model prog w).den (.compLoop (.GeneratorExp elt [⟨.Name x px, iter, [], 0⟩] scope pos) 0 (.ref I) .none cenv)) [] s := by
 haveI hh' : (A.over (.compLoop (.GeneratorExp elt [⟨.Name x px, iter, [], 0⟩] scope pos) 0 (.ref I) .none cenv) []).handled = none := hh
 haveI hdep' : (A.over (.compLoop (.GeneratorExp elt [⟨.Name x px, iter, [], 0⟩] scope pos) 0 (.ref I) .none cenv) []).depth ≤ A.depth + 1 := Nat.le_of_eq rfl
 haveI huni' : (A.over (.compLoop (.GeneratorExp elt [⟨.Name x px, iter, [], 0⟩] scope pos) 0 (.ref I) .none cenv) []).units ≤ A.units + 3 := Nat.le_of_eq rfl
 haveI hCw : cenv.locals ∉ wr := fun h => hCf ((W₀ A hh).sub _ h)
 intro k
 induction k with
 | zero =>
  intro i s₀ s m hk hi hst hn hsince hkp
  haveI hin : i = n₀ := lc2 hk hi
  subst hin
  show Seg _ A _ _ _ s₀ _ ((compTurn (.GeneratorExp elt [⟨.Name x px, iter, [], 0⟩] scope pos) 0 (.ref I) .none cenv).onRaise (leaving cenv)) [] s
  rw [compTurn_gen, Sem.onRaise_eq_wrap]
  refine seg_bind_wrap (wpAny_standAt ?_)
  refine seg_bind_wrap ((W₀ _ hh').done s _ _ hst fun h' tk hk' => ?_)
  exact seg_end (.ok .next) ⟨rfl, Nat.sub_self _, hsince.step fun b o J hw e => hk' b o hw e⟩
 | succ k ih =>
  intro i s₀ s m hk hi hst hn hsince hkp
  have hlt : i < n₀ := lc3 hk
  rw [hk]
  show Seg _ A _ _ _ s₀ _ ((compTurn (.GeneratorExp elt [⟨.Name x px, iter, [], 0⟩] scope pos) 0 (.ref I) .none cenv).onRaise (leaving cenv)) [] s
  rw [compTurn_gen, Sem.onRaise_eq_wrap]
  refine seg_bind_wrap (wpAny_standAt ?_)
  refine seg_bind_wrap ((W₀ _ hh').item i s _ _ hlt hst fun v h₁ tk₁ hPv hst₁ hk₁ => ?_)
  refine seg_bind_wrap (wpAny_of_eq (rfl : letOwnedTupleGo (.Name x px) (.ref I) v = pure ()) ?_)
  refine seg_bind_wrap (wpAny_assign_Name (wpAny_storeName_local hx (hn.at' fun o e => hk₁ _ o hCw e) (fun h₂ hn₂ hs₂ => ?_) hp))
  have up₂ : ∀ b o, b ≠ cenv.locals → b ∉ wr → s.heap.get? b = some o → h₂.get? b = some o := fun b o hbC hbw e => hs₂.extBut b o hbC (hk₁ b o hbw e)
  haveI hst₂ : St₀ (i + 1) h₂ := (W₀ A hh).frame _ _ _ hst₁ fun b hb o e => hs₂.extBut b o (fun h => hCf (h ▸ hb)) e
  haveI hkp₂ : ∀ b ∈ fp, b ∉ wr → ∀ o, href.get? b = some o → h₂.get? b = some o := fun b hb hbw o e => up₂ b o (fun h => hCf (h ▸ hb)) hbw (hkp b hb hbw o e)
  refine seg_bind_wrap (wpAny_tests_nil ?_)
  simp only [if_true]
  haveI hy : ∀ v, yieldOut cenv v = yieldValue v := fun v => by simp only [yieldOut, hco, Bool.false_eq_true, if_false]
  simp only [hy]
  rw [Sem.bind_eq_wrap', Sem.bind_eq_wrap', Sem.wrap_wrap, Sem.wrap_wrap]
  refine seg_wrap (wpAny_mono (hq _ _ i v _ _ hh' hdep' huni' hPv hst₂ hn₂ (by simp) hkp₂) (fun y s₄ h₄ => ?_) fun J J e => e)
  obtain ⟨hFy, h₄, tk₄, rfl, hk₄⟩ := (h₄)
  haveI hsince₄ : GenSince cenv.locals wr s₀ { s with heap := h₄, toks := tk₄ } := hsince.step fun b o hbC hbw e => hk₄ b o (up₂ b o hbC hbw e)
  refine seg_at (seg_yield rfl rfl rfl ⟨⟨by omega, by rw [show n₀ - 1 - k = i from lc4 hk]; exact hFy⟩, hsince₄, fun s'' hal => ?_⟩)
  haveI := ih (i + 1) s'' s'' _ (lc1 hk) hlt ((W₀ A hh).frame _ _ _ hst₂ fun b hb o e => hal b (List.mem_cons_of_mem _ hb) o (hk₄ b o e))
   ((hn₂.keeps hk₄).at' fun o e => hal _ (List.mem_cons_self ..) o e) (GenSince.refl _ _ _) fun b hb hbw o e => hal b (List.mem_cons_of_mem _ hb) o (hk₄ b o (hkp₂ b hb hbw o e))
  rw [lc1 hk] at this
  exact seg_again rfl this
theorem seg_startH {elt iter : Expr} {x : Str} {px : Pos} {scope : Scope} {pos : Pos} {I : Addr} {fp wr : List Addr} {n₀ : Nat} {P : Nat → Value → Prop} {St₀ : Nat → Heap → Prop} {cenv : Env} {F : Nat → Value → Heap → Prop}
  (hh : A.handled = none) (W₀ : ∀ A' : Around, A'.handled = none → Walks prog w A' I fp wr n₀ P St₀) (href : Heap)
  (hx : cenv.kindOf x = some .local) (hp : (cenv.scope.kind == .class || (cenv.scope.kind == .module && cenv.locals != cenv.globals)) = false)
  (hco : cenv.scope.isCoroutine = false) (hCf : cenv.locals ∉ fp) (hq : QEl prog w cenv x elt fp wr P St₀ F href (A.depth + 1) (A.units + 3))
  (s₀ s : Shared) (m : Str → Option Value) (hst : St₀ 0 s.heap) (hn : s.heap.Ns cenv.locals m) (hsince : GenSince cenv.locals wr s₀ s)
  (hkp : ∀ b ∈ fp, b ∉ wr → ∀ o, href.get? b = some o → s.heap.get? b = some o) :
  Seg (model prog w) A (gEnd cenv.locals wr) (gPr cenv.locals fp wr n₀ F) n₀ s₀
   (.compStart (.GeneratorExp elt [⟨.Name x px, iter, [], 0⟩] scope pos) 0 (.ref I) .none cenv)
   ((model prog w).den (.compStart (.GeneratorExp elt [⟨.Name x px, iter, [], 0⟩] scope pos) 0 (.ref I) .none cenv)) [] s := by
 haveI hh' : (A.over (.compStart (.GeneratorExp elt [⟨.Name x px, iter, [], 0⟩] scope pos) 0 (.ref I) .none cenv) []).handled = none := hh
 haveI loop := seg_loopH (iter := iter) (px := px) (scope := scope) (pos := pos) hh W₀ href hx hp hco hCf hq n₀ 0 s₀ s m (Nat.sub_zero _) (Nat.zero_le _) hst hn hsince hkp
 show Seg _ A _ _ _ s₀ _ ((compStart (.GeneratorExp elt [⟨.Name x px, iter, [], 0⟩] scope pos) 0 (.ref I) .none cenv).onRaise (leaving cenv)) [] s
 unfold compStart
 rw [Sem.onRaise_eq_wrap]
 show Seg _ A _ _ _ s₀ _ ((ask >>= _).wrap _ _ _ _) [] s
 refine seg_bind_wrap (wpAny_askSetting ?_)
 split
 ·exact seg_again rfl loop
 ·first
   | exact seg_bind_wrap (wpAny_rule (seg_bind_wrap (wpAny_standAt (seg_bind_wrap ((W₀ _ hh').self 0 s _ _ hst (seg_again rfl loop))))))
   | (refine seg_bind_wrap (wpAny_rule ?_); show Seg _ A _ _ _ s₀ _ ((standAt iter.pos >>= _).wrap _ _ _ _) [] s; exact seg_bind_wrap (wpAny_standAt (seg_bind_wrap ((W₀ _ hh').self 0 s _ _ hst (seg_again rfl loop)))))
noncomputable def GAt (prog : Program) (w : World) (A : Around) (a : Addr) (g : Nat) (C : Addr) (fp wr : List Addr) (n₀ : Nat) (F : Nat → Value → Heap → Prop) (j : Nat) (s : Shared) : Prop :=
 s.heap.IsGen a g ∧ s.heap.NoLimit ∧ ∃ gs, s.gens[g]? = some gs ∧ ∀ s'' : Shared, (∀ b ∈ C :: fp, ∀ o, s.heap.get? b = some o → s''.heap.get? b = some o) →
  gs.Goes (model prog w) A.in1 (gEnd C wr) (gPr C fp wr n₀ F) (n₀ - j) (.send .none) s''
theorem walksG (hh : A.handled = none) (a : Addr) (g : Nat) (C : Addr) (fp wr : List Addr) (n₀ : Nat) (F : Nat → Value → Heap → Prop) (haC : a ≠ C) (haf : a ∉ fp) (hsub : ∀ b ∈ wr, b ∈ fp)
  (hroom : A.depth < recursionLimit) (hcs : cStatics ∈ fp) (hcC : cStatics ≠ C) (hcw : cStatics ∉ wr) :
  WalksH prog w A a (a :: C :: fp) (C :: wr) (GenOnlyQ g) n₀ F (GAt prog w A a g C fp wr n₀ F) where
 sub := fun b hb => by
  rcases List.mem_cons.mp hb with rfl | hb
  ·simp
  ·exact List.mem_cons_of_mem _ (List.mem_cons_of_mem _ (hsub b hb))
 grefl := fun J => .inl rfl
 gtrans := fun J J J x y => x.trans y
 frame := fun j s h' tk st hk =>
  ⟨st.1.elim fun o p => p.elim fun nm p => p.elim fun qn p => ⟨o, nm, qn, hk a (.head _) o p.1, p.2⟩,
   ((st.2.1).elim fun mc p => ⟨mc, p.1.at' fun o e => hk cStatics (List.mem_cons_of_mem _ (List.mem_cons_of_mem _ hcs)) o e, p.2⟩),
   (st.2.2).elim fun gs p => ⟨gs, p.1, fun s'' hal => p.2 s'' fun b hb o e => hal b hb o (hk b (List.mem_cons_of_mem _ hb) o e)⟩⟩
 item := fun j s Q E hj st hQ => by
  obtain ⟨hg, hl, gs, hgs, hgo⟩ := (st)
  obtain ⟨m, hm⟩ : ∃ m, n₀ - j = m + 1 := ⟨n₀ - j - 1, lc5 hj⟩
  rw [hm] at hgo
  refine wpAny_with_toks (Nat.le_refl s.toks) ?_
  refine wpAny_pyNext_genexpQ (P := fun n s₀ s₁ => n = 0 ∧ GenSince C wr s₀ s₁) hh hl hroom hg hgs (hgo _ fun J J J e => e) (fun v s₁ gs' hb hv => ?_) (fun s₁ hp h' hk => ?_)
  ·obtain ⟨⟨hi, hF⟩, ⟨h₁, tk₁, rfl, hk₁⟩, hkap⟩ := (hv)
   have hidx : n₀ - 1 - (m + 1 - 1) = j := lc4 hm
   rw [hidx] at hF
   haveI haw : a ∉ wr := fun h => haf (hsub a h)
   intro htk
   refine hQ v _ hF ⟨hg.elim fun o p => p.elim fun nm p => p.elim fun qn p => ⟨o, nm, qn, hk₁ a o haC haw p.1, p.2⟩, ((hl).elim fun mc p => ⟨mc, p.1.at' fun o e => hk₁ cStatics o hcC hcw e, p.2⟩), gs', setGen_self (gs := .running) (setGen_self hgs), fun s'' hal => ?_⟩
    ⟨fun b o hb e => hk₁ b o (fun h => hb (h ▸ List.mem_cons_self ..)) (fun h => hb (List.mem_cons_of_mem _ h)) e, GenOnlyQ.of ((GenOnly.setGen s g .running).trans (GenOnly.setGen _ g gs')) (setGen_self (gs := .running) (setGen_self hgs)) hb, rfl, rfl, htk⟩
   haveI e : n₀ - (j + 1) = m := lc1 hm
   rw [e]
   exact hkap s'' hal
  ·exact absurd hp.1 (Nat.succ_ne_zero m)
 done := fun s Q E st hQ => by
  obtain ⟨hg, hl, gs, hgs, hgo⟩ := st
  rw [Nat.sub_self] at hgo
  refine wpAny_with_toks (Nat.le_refl s.toks) ?_
  refine wpAny_pyNext_genexpQ (P := fun n s₀ s₁ => n = 0 ∧ GenSince C wr s₀ s₁) hh hl hroom hg hgs (hgo _ fun J J J e => e) (fun v s₁ gs' hb hv => ?_) (fun s₁ hp h' hk => ?_)
  ·obtain ⟨_, _, hkap⟩ := (hv)
   exact False.elim (hkap s₁ fun J J J e => e)
  ·obtain ⟨_, h₁, tk₁, rfl, hk₁⟩ := (hp)
   intro htk
   exact hQ _ ⟨fun b o hb e => hk b o (hk₁ b o (fun h => hb (h ▸ List.mem_cons_self ..)) (fun h => hb (List.mem_cons_of_mem _ h)) e), GenOnlyQ.of ((GenOnly.setGen s g .running).trans (GenOnly.setGen _ g .finished)) (setGen_self (gs := .running) (setGen_self hgs)) rfl, rfl, rfl, htk⟩
 self := fun J J J J st hQ => wpAny_pyIter_gen st.1 hQ
end
section
variable {A : Around} {E : Value → Shared → Prop} {s : Shared}
theorem gen_make {env : Env} {elt iter : Expr} {x : Str} {px : Pos} {scope : Scope} {cl : List (Str × Addr)} {pos : Pos} {Q : Value → Shared → Prop}
  (hh : A.handled = none) (hco : scope.isCoroutine = false) (hclos : closureFor scope env = pure cl) (hcell : ∀ y ∈ scope.names, y.2 ≠ .cell) (h0 : scope.names.lookup (".0" : Str) = some NameKind.local)
  (hx : scope.names.lookup x = some .local) (hkind : scope.kind = .function) (hroom : A.depth < recursionLimit)
  (h : wpAny (model prog w) A (eval iter env) (fun xv s₁ => wpAny (model prog w) A (pyIter xv) (fun it s₂ => s₂.heap.NoLimit ∧
   wpAny (model prog w) A (genexprCode env pos (env.qual ++ "<genexpr>") scope) (fun code s₃ => wpAny (model prog w) A (builtinsFor env.globals env.builtins) (fun bi s₄ =>
    ∃ I fp wr n₀ P St₀ F, it = .ref I ∧ (∀ A' : Around, A'.handled = none → Walks prog w A' I fp wr n₀ P St₀) ∧ St₀ 0 s₄.heap ∧ (∀ b ∈ fp, b < s₄.heap.objs.size) ∧ s₄.heap.NoLimit ∧ cStatics ∉ wr ∧
     (∀ href : Heap, (∀ b o, s₄.heap.get? b = some o → href.get? b = some o) →
      QEl prog w (genEnv scope cl s₄.heap.objs.size code bi env) x elt (List.range s₄.heap.objs.size) wr P St₀ F href (A.depth + 1) (A.units + 8)) ∧
     (∀ a h₅ tk gs, gs.bare = true → s₄.heap.objs.size < a → h₅.objs.size = a + 1 → (∀ b o, s₄.heap.get? b = some o → h₅.get? b = some o) →
      WalksH prog w A.in4 a (a :: s₄.heap.objs.size :: List.range s₄.heap.objs.size) (s₄.heap.objs.size :: wr) (GenOnlyQ s₄.gens.size) n₀ F (GAt prog w A.in4 a s₄.gens.size s₄.heap.objs.size (List.range s₄.heap.objs.size) wr n₀ F) →
      GAt prog w A.in4 a s₄.gens.size s₄.heap.objs.size (List.range s₄.heap.objs.size) wr n₀ F 0 { s₄ with gens := s₄.gens.push gs, toks := tk, heap := h₅ } →
      Q (.ref a) { s₄ with gens := s₄.gens.push gs, toks := tk, heap := h₅ })) E s₃) E s₂) E s₁) E s)
  (hs : ∀ x, genFold iter env x = pure x) :
  wpAny (model prog w) A (eval (.GeneratorExp elt [⟨.Name x px, iter, [], 0⟩] scope pos) env) Q E s := by
 refine wpAny_GeneratorExp_make hco hclos hcell h0 hkind hroom (wpAny_mono h (fun xv s₁ h₁ => wpAny_mono h₁ (fun it s₂ h₂ => ⟨h₂.1, wpAny_mono h₂.2 (fun code s₃ h₃ => wpAny_mono h₃ (fun bi s₄ h₄ => ?_)
  fun J J e => e) fun J J e => e⟩) fun J J e => e) fun J J e => e) hs
 obtain ⟨I, fp, wr, n₀, P, St₀, F, rfl, W₀, hst, hfp, hl₄, hcw, hq, hQ⟩ := (h₄)
 haveI hclt : cStatics < s₄.heap.objs.size := hl₄.elim fun _ p => p.1.lt
 intro h' hn' hs'
 haveI hsz : h'.objs.size = s₄.heap.objs.size + 1 := by rw [hs'.1, Heap.size_push]
 haveI keep' : ∀ b o, s₄.heap.get? b = some o → h'.get? b = some o := fun b o e => hs'.extBut b o (Nat.ne_of_lt (Heap.lt_size e)) (Heap.get?_push_of_some _ e)
 haveI hsub : ∀ b ∈ wr, b ∈ List.range s₄.heap.objs.size := fun b hb => List.mem_range.mpr (hfp b ((W₀ A hh).sub b hb))
 haveI haC : h'.objs.size ≠ s₄.heap.objs.size := by rw [hsz]; exact Nat.succ_ne_self _
 haveI haf : h'.objs.size ∉ List.range s₄.heap.objs.size := fun hm => by haveI := List.mem_range.mp hm; omega
 have keep₅ : ∀ b o, s₄.heap.get? b = some o → (h'.push { cls := .type "generator", data := .fields #[.int s₄.gens.size 0, .str "<genexpr>" (s₄.toks + 1), .str (env.qual ++ "<genexpr>") (s₄.toks + 1 + 1)] }).get? b = some o :=
  fun b o e => Heap.get?_push_of_some _ (keep' b o e)
 refine hQ _ _ _ _ rfl (by omega) (by rw [Heap.size_push]) keep₅ (walksG (A := A.in4) hh _ _ _ _ wr n₀ F haC haf hsub hroom (List.mem_range.mpr hclt) (Nat.ne_of_lt hclt) hcw) ?_
 refine ⟨⟨_, _, _, Heap.get?_push_size _ rfl, rfl, rfl, rfl⟩, hl₄.keeps keep₅, _, Array.getElem?_push_size .., fun s'' hal => ⟨rfl, ?_⟩⟩
 refine seg_startH (A := A.in4.in1) (cenv := genEnv scope cl s₄.heap.objs.size code bi env) (m := fun y => if y = ".0" then some (.ref I) else none) hh
  (fun A' hA => (W₀ A' hA).mono_fp fun b hb => List.mem_range.mpr (hfp b hb)) _ hx (by simp [genEnv, hkind]) hco
  (fun hm => Nat.lt_irrefl _ (List.mem_range.mp hm)) (hq _ keep₅) s'' s'' ((W₀ A hh).frame _ _ _ hst fun b hb o e => hal b (List.mem_cons_of_mem _ (List.mem_range.mpr (hfp b hb))) o (keep₅ b o e)) ((hn'.push _).at' fun o e => hal _ (List.mem_cons_self ..) o e) (GenSince.refl _ _ _) fun b hb J o e => hal b (List.mem_cons_of_mem _ hb) o e
end
section
open Builtin Builtin.ObjectAttr
set_option backward.match.sparseCases true
structure KI (K : Frag) : Prop where
 over : ∀ c : Cl, plainOver K c.addr = true
 taker : ∀ (c : Cl) (f : Fld), takerIn K c.addr f.str = some none
 sa : ∀ c : Cl, findIn K (.ref c.addr) "__setattr__" = some (some (.builtin "object.__setattr__"))
 makes : ∀ c : Cl, makesIn K c.addr = true
section
variable {A : Around} {E : Value → Shared → Prop} {s : Shared}
theorem putName_new {name : Str} {h : Int} {key v : Value} {es : List DictEntry} {n : Nat} (hn : es.find? (·.key.isStr name) = none) : Obj.putName name h key v (dictOf es n) = dictOf (es ++ [⟨h, key, v⟩]) (n + 1) := by
 rw [Obj.putName_eq]
 unfold Obj.putNameByArray
 haveI e : es.toArray.findIdx? (fun x => x.key.isStr name) = none := by
  rw [Array.findIdx?_eq_none_iff]
  intro x hx
  exact Bool.eq_false_iff.mpr (by simpa using List.find?_eq_none.mp hn x (by simpa using hx))
 show (match es.toArray.findIdx? (fun x => x.key.isStr name) with | some i => _ | none => _) = _
 rw [e]
 simp
theorem osa_put {x dx C : Addr} {name : Str} {tk : Tok} {v : Value} {es : List DictEntry} {n : Nat} {R : Result → Shared → Prop} (X : K.In s.heap) (hx : s.heap.get? x = some (instObj C dx)) (hd : s.heap.get? dx = some (dictOf es n))
  (hn : es.find? (·.key.isStr name) = none) (hr : es.any (·.refKey) = false) (hp : plainOver K C = true) (ht : takerIn K C name = some none) (hh : hasDictIn K C = true) (hz : es.length ≤ 1000)
  (hQ : ∀ hs t h' tk, Heap.SameBut dx s.heap h' → h'.get? dx = some (dictOf (es ++ [⟨hs, .str name t, v⟩]) (n + 1)) → R (.ok (.ret .none)) { s with heap := h', toks := tk }) :
  codeAny (model prog w) A (.call (.builtin "object.__setattr__") ⟨[.ref x, .str name tk, v], []⟩) R s := by
 haveI I : W.InstAt s.heap x (instObj C dx) C (some (dictOf es n)) := ⟨hx, rfl, rfl, hd⟩
 haveI hx' : s.heap.get? x = some ⟨.ref C, some dx, .plain, #[]⟩ := hx
 refine osa_open X I hp ht fun b => ?_
 obtain ⟨cd, hc, hd'⟩ := (any_some hh)
 refine wpAny_bind (wpAny_pure (wpAny_bind (wpAny_bind (wpAny_loadPart hx' (wpAny_bind ((looks_clsIn X hc).here ?_))))))
 rw [hd']
 refine wpAny_pure (a := some dx) (wpAny_bind (wpAny_pure (wpAny_bind ?_)))
 unfold nsSet
 refine wpAny_bind (wpAny_bind (wpAny_askSetting (wpAny_pure (wpAny_bind (wpAny_mkText (wpAny_bind (wpAny_loadPart hd ?_)))))))
 dsimp only
 haveI c : (!es.toArray.any (·.key.isStr name) && es.toArray.any (·.refKey)) = false := by
  rw [← Array.any_toList, ← Array.any_toList]
  simp only [hr, Bool.and_false]
 rw [aRefKeyMayBeTheName_at, c]
 refine wpAny_updatePart hd ?_
 haveI D' := Heap.get?_update_self (fun o => Obj.putName name (PyData.keyHash w.params name) (.str name s.toks) v o) hd (by rw [putName_new hn]; rfl)
 rw [putName_new hn] at D'
 refine wpAny_bind (wpAny_lookBehind D' (by exact pastItsLine_dict (by rw [List.size_toArray, sizeLine_eq, List.length_append, List.length_singleton]; omega)) ?_)
 exact wpAny_pure (hQ _ _ _ _ (Heap.SameBut.update ..) D')
theorem put_fld {x dx C : Addr} {name : Str} {v : Value} {es : List DictEntry} {n : Nat} {Q : Unit → Shared → Prop} (X : K.In s.heap) (hx : s.heap.get? x = some (instObj C dx)) (hd : s.heap.get? dx = some (dictOf es n))
  (hn : es.find? (·.key.isStr name) = none) (hr : es.any (·.refKey) = false) (hp : plainOver K C = true) (ht : takerIn K C name = some none) (hh : hasDictIn K C = true) (hs : findIn K (.ref C) "__setattr__" = some (some (.builtin "object.__setattr__"))) (hz : es.length ≤ 1000)
  (hQ : ∀ hs t h' tk, Heap.SameBut dx s.heap h' → h'.get? dx = some (dictOf (es ++ [⟨hs, .str name t, v⟩]) (n + 1)) → Q () { s with heap := h', toks := tk }) : wpAny (model prog w) A (setAttr (.ref x) name v) Q E s := by
 have I : W.InstAt s.heap x (instObj C dx) C (some (dictOf es n)) := ⟨hx, rfl, rfl, hd⟩
 exact set_plain X I hs (osa_put (s := { s with toks := s.toks + 1 }) X hx hd hn hr hp ht hh hz fun hs t h' tk hsb e => hQ hs t h' tk hsb e)
end
structure Ent (K : Frag) (mg mb : Str → Option Value) (fd : FuncData) (nm : List Str) (ps : List Str) (vs : List Value) (s : Shared) (env : Env) (s₁ : Shared) : Prop where
 e : EnvOk env
 sc : env.scope = fd.scope
 so : ScOk fd.scope env
 cd : env.code = fd.code
 loc : env.locals = s.heap.objs.size
 ex : ∃ h tk, s₁ = { s with heap := h, toks := tk } ∧ ∀ b o, s.heap.get? b = some o → h.get? b = some o
 ns : ∃ m, s₁.heap.Ns env.locals m
 at_ : ∀ (i : Nat) (y : Str) (v : Value), ps[i]? = some y → vs[i]? = some v → At env s₁.heap y v
 cel : ∀ y c, env.cells.lookup y = some c → ∃ v, s₁.heap.IsCell c v
section
noncomputable def fdIn (K : Frag) (a : Addr) (nm ps : List Str) (fd : FuncData) (body : List Stmt) : Bool :=
 codeIn K fd.code fd.qualname && fd.closure.isEmpty && fd.globals == mainGlobals && fd.builtins == builtinsNs && fd.defaults == .none && fd.scope.kind == .function && !fd.scope.isGenerator && !fd.scope.isCoroutine &&
   parOk fd.params ps && chkKinds fd.scope nm
theorem enter_any {A : Around} {s : Shared} {a : Addr} {fd : FuncData} {body : List Stmt} {ps xtra : List Str} {vs : List Value} {R : Result → Shared → Prop} (G : Gd K mg mb s) (hd : A.depth < recursionLimit) {oc : Value} {od : Option Addr} {osl : Array (Option Value)}
  (hlook : K.lookup a = some ⟨oc, od, .func fd, osl⟩) (hbody : fd.body = .stmts body) (hc : fdIn K a (ps ++ xtra) ps fd body = true) (hvl : vs.length = ps.length)
  (h : ∀ env s₁, Ent K mg mb fd (ps ++ xtra) ps vs s env s₁ → wpAny (model prog w) (A.deeper env) (execs body env) (fun f s' => R (.ok (.ret (match f with | .ret v => v | _ => .none))) s') (fun J J => False) s₁) :
  codeAny (model prog w) A (.call (.ref a) ⟨vs, []⟩) R s := by
 unfold fdIn at hc
 simp only [Bool.and_eq_true, Bool.not_eq_true'] at hc
 obtain ⟨⟨⟨⟨⟨⟨⟨⟨⟨c1, c2⟩, c3⟩, c4⟩, c5⟩, c6⟩, c7⟩, c8⟩, c9⟩, c10⟩ := hc
 haveI e3 := eq_of_beq c3
 haveI e4 := eq_of_beq c4
 haveI e5 : fd.defaults = .none := eq_of_beq c5
 haveI e6 : fd.scope.kind = .function := eq_of_beq c6
 obtain ⟨nd, kd⟩ := (Bool.and_eq_true_iff.mp (show (nodupL (ps ++ xtra) && (ps ++ xtra).all fun x => isLoc (fd.scope.names.lookup x) || isCell (fd.scope.names.lookup x)) = true from c10))
 have ndp : nodupL ps = true := by
  clear c9 c10 kd hvl h
  induction ps with
  | nil => rfl
  | cons x r ih =>
   obtain ⟨h1, h2⟩ := Bool.and_eq_true_iff.mp (show (!inL x (r ++ xtra) && nodupL (r ++ xtra)) = true from nd)
   show (!inL x r && nodupL r) = true
   rw [ih h2]
   cases q : inL x r with
   | false => rfl
   | true => rw [inL_iff.mpr (List.mem_append_left _ (inL_iff.mp q))] at h1; cases h1
 have kd' : ∀ (i : Nat) x, (ps ++ xtra)[i]? = some x → fd.scope.names.lookup x = some .local ∨ fd.scope.names.lookup x = some .cell := fun i x hx => by
  haveI := List.all_eq_true.mp kd x (List.mem_of_getElem? hx)
  rcases Bool.or_eq_true_iff.mp this with q | q
  ·exact .inl (isLoc_eq q)
  ·exact .inr (isCell_eq q)
 refine codeAny_call_cells (fd := fd) (body := body) (binds := ps.zip vs) hd (G.k _ _ hlook) rfl G.nolim (codeRec_of G.k c1) hbody (bind_plain c9 e5 ndp hvl) (List.isEmpty_iff.mp c2) (fun x hx => ?_) (fun s₁ X => ?_) c8 c7 e6
 ·have hm : x.1 ∈ ps := (List.of_mem_zip hx).1
  obtain ⟨i, hi, e⟩ := List.getElem_of_mem hm
  haveI hx' : (ps ++ xtra)[i]? = some x.1 := by
   rw [List.getElem?_append_left hi, List.getElem?_eq_getElem hi, e]
  rcases kd' i x.1 hx' with q | q
  ·exact .inl q
  ·refine .inr ⟨q, ?_⟩
   obtain ⟨c, hc⟩ := cells_look x.1 fd.scope.names (s.heap.objs.size + 1) [] q
   rw [hc]; rfl
 ·obtain ⟨env, he⟩ : ∃ env, env = callEnvC fd s.heap.objs.size a := ⟨_, rfl⟩
  rw [← he] at X ⊢
  haveI eL : env.locals = s.heap.objs.size := by rw [he]; rfl
  have eS : env.scope = fd.scope := by rw [he]; rfl
  haveI eC : env.cells = cellsFrom (s.heap.objs.size + 1) fd.scope.names [] := by rw [he]; rfl
  have eK : ∀ x, env.kindOf x = fd.scope.names.lookup x := fun x => by show env.scope.names.lookup x = _; rw [eS]
  have lookC : ∀ x, env.kindOf x = some .cell → ∃ c, env.cells.lookup x = some c := fun x h => by
   rw [eC]; exact cells_look x _ _ _ (by rw [← eK]; exact h)
  haveI ek : EnvOk env := ⟨by rw [eS]; exact e6, by rw [he]; exact e3, by rw [he]; exact e4, lookC, fun x y c h1 h2 => PySem.name_of_addr X.apart (PySem.mem_of_lookup h1) (PySem.mem_of_lookup h2)⟩
  refine wpAny_mono (h env s₁ ⟨ek, eS, ⟨fun x h => ?_, fun x h => ?_⟩, by rw [he]; rfl, eL, X.done, ⟨_, X.toInCall.ns⟩, fun i y v hy hv => ?_, fun y c hc => ⟨_, X.cell y c hc⟩⟩) (fun J J q => q) fun J J q => q.elim
  ·rw [eK]
   unfold glob at h
   split at h
   ·assumption
   ·cases h
  ·rw [eK]; exact isCell_eq h
  ·haveI hi : i < ps.length := (List.getElem?_eq_some_iff.mp hy).1
   rcases kd' i y (by rw [List.getElem?_append_left hi]; exact hy) with q | q
   ·exact .inl ⟨by rw [eK]; exact q, _, X.toInCall.ns, bindL_at _ y v (by rw [eK]; exact q) ps vs _ i ndp hy hv⟩
   ·obtain ⟨c, hc⟩ := lookC y (by rw [eK]; exact q)
    refine .inr ⟨by rw [eK]; exact q, c, hc, ?_⟩
    haveI := X.cell y c hc
    rw [bindC_at _ y v (by rw [eK]; exact q) ps vs _ i ndp hy hv] at this
    exact this
end
end
structure IM (K : Frag) (mg mb : Str → Option Value) (s₀ : Shared) (Z₀ : ZM) (env : Env) (nm : List Str) (c : Cl) (x dx : Addr) (Z : ZM) (σ : List (Option V)) (fs : List (Fld × V)) (s : Shared) : Prop where
 gd0 : Gd K mg mb s₀
 zt0 : ∀ b, isT b → Z₀ b = none
 ab : s₀.heap.objs.size ≤ env.locals
 gr : Grow Z₀ s₀ Z s
 loc : ∃ m, s.heap.Ns env.locals m
 vars : ∀ i y V, getO σ i = some V → nm[i]? = some y → ∃ v, At env s.heap y v ∧ Rep Z v V
 len : σ.length = nm.length
 self : At env s.heap "self" (.ref x)
 cells : ∀ y c, env.cells.lookup y = some c → ∃ v, s.heap.IsCell c v
 hx : s.heap.get? x = some (instObj c.addr dx)
 hd : ∃ es n, s.heap.get? dx = some (dictOf es n) ∧ RepF Z es fs
 zx : Z x = none ∧ Z dx = none
 x0 : s₀.heap.get? x = none ∧ s₀.heap.get? dx = none
 ne : x ≠ dx
 ld : env.locals ≠ dx
structure Ix (n : Nat) (A : Around) (env : Env) (sc : Scope) : Prop where
 e : EnvOk env
 a : OkA A (n + 1)
 so : ScOk sc env
 es : env.scope = sc
section
variable {n : Nat} {A : Around} {E : Value → Shared → Prop} {s₀ s s' : Shared} {Z₀ Z Z' : ZM} {env : Env} {nm : List Str} {sc : Scope} {c : Cl} {x dx : Addr} {σ : List (Option V)} {fs : List (Fld × V)}
theorem IM.gd (F : IM K mg mb s₀ Z₀ env nm c x dx Z σ fs s) : Gd K mg mb s := F.gd0.keep F.gr.keep F.gr.bare
theorem IM.hf (F : IM K mg mb s₀ Z₀ env nm c x dx Z σ fs s) : HasFr K s := F.loc.elim fun m hm =>
 ⟨hideAll s₀.heap [308, 422], env.locals, m, ⟨hm, fun b o e => F.gr.keep.atT (of_hideAll _ e) (hid_notT e), Nat.le_trans (Nat.le_of_eq (hideAll_size _ _)) F.ab⟩, fun b o e => hideAll_get _ (F.gd0.k b o e) (notT_mem (F.gd0.kt b o e)), fun x o e => hid_notT e⟩
theorem IM.cx (F : IM K mg mb s₀ Z₀ env nm c x dx Z σ fs s) (X : Ix n A env sc) : Cx K mg mb n A env sc nm Z σ s :=
 ⟨X.a, X.e, X.so, F.gd, F.hf, F.gr.sub, zt_grow F.gd0 F.zt0 F.gr, F.vars, F.len, F.cells⟩
theorem IM.grow (F : IM K mg mb s₀ Z₀ env nm c x dx Z σ fs s) (g : Grow Z s Z' s') : IM K mg mb s₀ Z₀ env nm c x dx Z' σ fs s' := by
 haveI zn : ∀ b o, s.heap.get? b = some o → Z b = none → Z' b = none := fun b o e z => by
  cases q : Z' b with
  | none => rfl
  | some o' =>
   rcases g.fresh b o' q with h | h
   ·rw [z] at h; cases h
   ·rw [e] at h; cases h
 obtain ⟨es, k, hd, r⟩ := (F.hd)
 obtain ⟨m, hm⟩ := F.loc
 exact ⟨F.gd0, F.zt0, F.ab, F.gr.trans g, ⟨m, g.keep.ns hm⟩, fun i y V h e => (F.vars i y V h e).elim fun v p => ⟨v, p.1.keep g.keep, p.2.mono g.le⟩, F.len, F.self.keep g.keep, fun y d h => (F.cells y d h).elim fun v q => ⟨v, g.keep.cell q⟩,
  g.keep.at F.hx rfl, ⟨es, k, g.keep.at hd rfl, r.mono g.le⟩, ⟨zn _ _ F.hx F.zx.1, zn _ _ hd F.zx.2⟩, F.x0, F.ne, F.ld⟩
noncomputable def hasF : List (Fld × V) → Fld → Bool
 | [], _ => false
 | (g, _) :: r, f => (g.str == f.str) || hasF r f
theorem RepF.free {f : Fld} {es : List DictEntry} {fs : List (Fld × V)} (r : RepF Z es fs) (hn : hasF fs f = false) : es.find? (·.key.isStr f.str) = none := by
 refine RepF.ind (P := fun es fs => hasF fs f = false → es.find? (·.key.isStr f.str) = none) (fun J => rfl) (fun {hs t v g x es fs} h r ih hn => ?_) r hn
 obtain ⟨h1, h2⟩ := (Bool.or_eq_false_iff.mp (show ((g.str == f.str) || hasF fs f) = false from hn))
 rw [List.find?_cons, key_str, h1]
 exact ih h2
theorem RepF.len {es : List DictEntry} {fs : List (Fld × V)} (r : RepF Z es fs) : es.length = fs.length := RepF.ind rfl (fun J J q => congrArg (· + 1) q) r
theorem RepF.snoc {f : Fld} {V : V} {v : Value} {hs : Int} {t : Tok} (hv : Rep Z v V) {es : List DictEntry} {fs : List (Fld × Mine.V)} (r : RepF Z es fs) : RepF Z (es ++ [⟨hs, .str f.str t, v⟩]) (fs ++ [(f, V)]) :=
 RepF.ind (P := fun es fs => RepF Z (es ++ [⟨hs, .str f.str t, v⟩]) (fs ++ [(f, V)])) (.cons hv .nil) (fun h J q => .cons h q) r
theorem IM.put (KK : KF K) (KI' : KI K) (F : IM K mg mb s₀ Z₀ env nm c x dx Z σ fs s) {f : Fld} {v : Value} {V : V} {Q : Unit → Shared → Prop} (hr : Rep Z v V) (hn : hasF fs f = false) (hl : fs.length ≤ 900)
  (h : ∀ s', IM K mg mb s₀ Z₀ env nm c x dx Z σ (fs ++ [(f, V)]) s' → Q () s') : wpAny (model prog w) A (setAttr (.ref x) f.str v) Q E s := by
 obtain ⟨es, k, hd, r⟩ := F.hd
 refine put_fld F.gd.k F.hx hd (r.free hn) r.noref (KI'.over c) (KI'.taker c f) (KK.hd c) (KI'.sa c) (by rw [r.len]; omega) fun hs t h' tk hsb e => h _ ?_
 have kp : ∀ b o, b ≠ dx → s.heap.get? b = some o → h'.get? b = some o := fun b o hb e => hsb.extBut b o hb e
 haveI g : Grow Z₀ s₀ Z { s with heap := h', toks := tk } := ⟨fun b o e => (F.gr.keep b o e).elim fun o' p => ⟨o', kp b o' (off F.x0.2 e) p.1, p.2⟩, F.gr.le, fun b o e => kp b o (off F.zx.2 e) (F.gr.sub b o e), F.gr.fresh, F.gr.bare, F.gr.os⟩
 have nsd : ∀ {a m}, s.heap.Ns a m → a ≠ dx → h'.Ns a m := fun hm ha => hm.sameBut hsb ha
 have dd : ∀ {a v}, s.heap.IsCell a v → h'.IsCell a v := fun {a v} hc => hc.sameBut hsb fun q => by
  obtain ⟨o, e1, e2⟩ := hc
  rw [q, hd] at e1; cases e1; cases e2
 obtain ⟨m, hm⟩ := F.loc
 haveI ld : env.locals ≠ dx := F.ld
 have at' : ∀ y u, At env s.heap y u → At env h' y u := by
  intro y u a
  rcases a with ⟨a1, m', a2, a3⟩ | ⟨a1, d, a2, a3⟩
  ·exact .inl ⟨a1, m', nsd a2 ld, a3⟩
  ·exact .inr ⟨a1, d, a2, dd a3⟩
 exact ⟨F.gd0, F.zt0, F.ab, g, ⟨m, nsd hm ld⟩, fun i y V h e => (F.vars i y V h e).elim fun v p => ⟨v, at' y v p.1, p.2⟩, F.len, at' _ _ F.self, fun y d h => (F.cells y d h).elim fun v q => ⟨v, dd q⟩, kp _ _ F.ne F.hx, ⟨_, _, e, r.snoc hr⟩, F.zx, F.x0, F.ne, F.ld⟩
end
section
variable {A : Around} {E : Value → Shared → Prop} {s sb : Shared} {env : Env} {sc : Scope}
theorem ldA (e : EnvOk env) {y : Str} {v : Value} {p : Pos} {Q : Value → Shared → Prop} (ha : At env s.heap y v) (hd : (y == ("__debug__" : Str)) = false) (h : Q v s) : wpAny (model prog w) A (eval (.Name y p) env) Q E s := by
 refine wpAny_Name ?_ hd
 rcases ha with ⟨a1, m, a2, a3⟩ | ⟨a1, c, a2, a3⟩
 ·exact wpAny_loadName_local e.kind a1 a2 a3 h
 ·exact wpAny_loadName_cell e.kind a1 a2 a3 h
theorem ldG (MM : MgOk mg) (e : EnvOk env) (so : ScOk sc env) (G : Gd K mg mb s) {f : Fn} {y : Str} {p : Pos} {Q : Value → Shared → Prop} (hx : y = gname f) (hg : glob sc y = true) (hn : (gname f == "") = false) (hd : (y == ("__debug__" : Str)) = false) (h : Q (.ref f.addr) s) :
  wpAny (model prog w) A (eval (.Name y p) env) Q E s := by
 subst hx
 exact Name_function_global e.kind (so.glob _ hg) (loadGlobal_global (by rw [e.glob]; exact G.g) (MM.fn f hn) h) hd
theorem ldB (MM : MgOk mg) (e : EnvOk env) (so : ScOk sc env) (G : Gd K mg mb s) {y : Str} {v : Value} {p : Pos} {Q : Value → Shared → Prop} (hx : nbOk y = true) (hg : glob sc y = true) (hb : bootBuiltins y = some v) (h : Q v s) :
  wpAny (model prog w) A (eval (.Name y p) env) Q E s :=
 Name_function_global e.kind (so.glob _ hg) (loadGlobal_builtin (by rw [e.glob]; exact G.g) (MM.bi y (nb hx).1) (by rw [e.blt]; exact G.b) ((G.bi y (nb hx).2.1).trans hb) h) (nb hx).2.2
noncomputable def FqD (p m : Int) (d : Obj) : Prop := ∃ h1 t1 t2 h2 t3 t4 n, d = dictOf [⟨h1, .str (Fld.str .fm) t1, .int p t2⟩, ⟨h2, .str (Fld.str .n) t3, .int m t4⟩] n
theorem FqD.noseq {p m : Int} {d : Obj} (F : FqD p m d) (xs : Array Value) (n : Nat) : d.data ≠ .seq xs n := by
 obtain ⟨_, _, _, _, _, _, _, rfl⟩ := F
 intro q; cases q
noncomputable def FqAt (h : Heap) (x : Addr) (p m : Int) : Prop := ∃ dx d, FqD p m d ∧ x ≠ dx ∧ h.get? x = some (instObj (Cl.addr .fq) dx) ∧ h.get? dx = some d
noncomputable def QArg (h : Heap) (v : Value) (p m : Int) : Prop := (∃ i t, v = .int i t ∧ 0 < p ∧ m = i % p) ∨ ∃ a q, v = .ref a ∧ FqAt h a q m
theorem FqAt.keep {h h' : Heap} {x : Addr} {p m : Int} (F : FqAt h x p m) (k : ∀ b o, h.get? b = some o → h'.get? b = some o) : FqAt h' x p m := by
 obtain ⟨dx, d, e, a, b, c⟩ := (F)
 exact ⟨dx, d, e, a, k _ _ b, k _ _ c⟩
theorem QArg.keep {h h' : Heap} {v : Value} {p m : Int} (F : QArg h v p m) (k : ∀ b o, h.get? b = some o → h'.get? b = some o) : QArg h' v p m := by
 rcases F with F | ⟨a, q, e, F⟩
 ·exact .inl F
 ·exact .inr ⟨a, q, e, F.keep k⟩
structure QM (sb : Shared) (env : Env) (L : List (Str × Value)) (C x dx : Addr) (es : List DictEntry) (s : Shared) : Prop where
 kp : Keeps sb s
 at_ : ∀ q ∈ L, At env s.heap q.1 q.2
 hx : s.heap.get? x = some (instObj C dx)
 hd : ∃ n, s.heap.get? dx = some (dictOf es n)
 ld : env.locals ≠ dx
 ne : x ≠ dx
 new : sb.heap.get? x = none ∧ sb.heap.get? dx = none
theorem QM.gd {L : List (Str × Value)} {C x dx : Addr} {es : List DictEntry} (G : Gd K mg mb sb) (F : QM sb env L C x dx es s) : Gd K mg mb s := by
 obtain ⟨h, tk, rfl, k⟩ := F.kp
 exact G.keep (.of k) id
theorem QM.toks {L : List (Str × Value)} {C x dx : Addr} {es : List DictEntry} (F : QM sb env L C x dx es s) (t : Nat) : QM sb env L C x dx es { s with toks := t } := by
 obtain ⟨h, tk, rfl, k⟩ := (F.kp)
 exact ⟨⟨h, t, rfl, k⟩, F.at_, F.hx, F.hd, F.ld, F.ne, F.new⟩
theorem at_but {dx : Addr} {h h' : Heap} {es : List DictEntry} {n : Nat} (hd : h.get? dx = some (dictOf es n)) (hs : Heap.SameBut dx h h') (hl : env.locals ≠ dx) {y : Str} {v : Value} (a : At env h y v) : At env h' y v := by
 rcases a with ⟨a1, m', a2, a3⟩ | ⟨a1, d, a2, a3⟩
 ·exact .inl ⟨a1, m', a2.sameBut hs hl, a3⟩
 ·refine .inr ⟨a1, d, a2, a3.sameBut hs fun q => ?_⟩
  obtain ⟨o, e1, e2⟩ := a3
  rw [q, hd] at e1; cases e1; cases e2
theorem QM.put (KK : KF K) (KI' : KI K) {L : List (Str × Value)} {c : Cl} {x dx : Addr} {es : List DictEntry} {f : Fld} {v : Value} {Q : Unit → Shared → Prop} (G : Gd K mg mb sb) (F : QM sb env L c.addr x dx es s)
  (hn : es.find? (·.key.isStr f.str) = none) (hr : es.any (·.refKey) = false) (hz : es.length ≤ 1000)
  (h : ∀ hs t s', QM sb env L c.addr x dx (es ++ [⟨hs, .str f.str t, v⟩]) s' → Q () s') : wpAny (model prog w) A (setAttr (.ref x) f.str v) Q E s := by
 obtain ⟨n, hd⟩ := F.hd
 refine put_fld (F.gd G).k F.hx hd hn hr (KI'.over c) (KI'.taker c f) (KK.hd c) (KI'.sa c) hz fun hs t h' tk hsb e => h hs t _ ?_
 obtain ⟨h0, tk0, rfl, k⟩ := (F.kp)
 exact ⟨⟨h', tk, rfl, fun b o q => hsb.extBut b o (off F.new.2 q) (k b o q)⟩, fun q hq => at_but hd hsb F.ld (F.at_ q hq), hsb.extBut _ _ F.ne F.hx, ⟨_, e⟩, F.ld, F.ne, F.new⟩
theorem self_get (KK : KF K) {c : Cl} {x dx : Addr} {es : List DictEntry} {n : Nat} {f : Fld} {v : Value} {b : Bool} {Q : Value → Shared → Prop} (X : K.In s.heap) (hx : s.heap.get? x = some (instObj c.addr dx)) (hd : s.heap.get? dx = some (dictOf es n))
  (hf : findIn K (.ref c.addr) f.str = some none) (hg : PySem.W.getL f.str es = some (some v)) (hh : handedIn v = true) (h : Q v { s with toks := s.toks + 1 }) : wpAny (model prog w) A (getAttr (.ref x) f.str b) Q E s :=
 get_value X (show W.InstAt s.heap x (instObj c.addr dx) c.addr (some (dictOf es n)) from ⟨hx, rfl, rfl, hd⟩) (plainGet_of (KK.pg c)).1 (findObj_own (KK.hd c) hf rfl hg) hh h
noncomputable def isV (x : Str) (e : Expr) : Bool := onNm e fun y => y == x
@[elab_as_elim] theorem isV_e {x : Str} {e : Expr} {P : Expr → Prop} (h : isV x e = true) (f : ∀ p, P (.Name x p)) : P e :=
 onNm_e h fun y p h => by cases eq_of_beq h; exact f p
noncomputable def selfAt (a : Str) (e : Expr) : Bool := onAttr e fun o x J => x == a && isV "self" o
@[elab_as_elim] theorem selfAt_e {a : Str} {e : Expr} {P : Expr → Prop} (h : selfAt a e = true) (f : ∀ p q, P (.Attribute (.Name "self" p) a q)) : P e :=
 onAttr_e h fun o x q h => an2 h fun h0 h1 => by
  cases eq_of_beq h0
  exact isV_e (P := fun o => P (.Attribute o _ q)) h1 fun p => f p q
noncomputable def isMod : Operator → Bool | .Mod => true | _ => false
theorem isMod_e {o : Operator} (h : isMod o = true) : o = .Mod := by
 cases o <;> first | rfl | exact (Bool.false_ne_true h).elim
noncomputable def chkSt (f : Fld) (el : Expr → Bool) (st : Stmt) : Bool := onAsg st fun ts e => un1 ts fun t => selfAt f.str t && el e
@[elab_as_elim] theorem chkSt_e {f : Fld} {el : Expr → Bool} {st : Stmt} {P : Stmt → Prop} (h : chkSt f el st = true) (g : ∀ p1 p2 e p3, el e = true → P (.Assign [.Attribute (.Name "self" p1) f.str p2] e p3)) : P st :=
 onAsg_e h fun ts e p3 h => un1_e (P := fun ts => P (.Assign ts e p3)) h fun t h => an2 h fun h0 h => selfAt_e (P := fun t => P (.Assign [t] e p3)) h0 fun p1 p2 => g p1 p2 e p3 h
noncomputable def chkGl (sc : Scope) (c : Str) (e : Expr) : Bool := onNm e fun x => x == c && glob sc x
@[elab_as_elim] theorem chkGl_e {sc : Scope} {c : Str} {e : Expr} {P : Expr → Prop} (h : chkGl sc c e = true) (f : ∀ p, glob sc c = true → P (.Name c p)) : P e :=
 onNm_e h fun y p h => an2 h fun h0 h1 => by cases eq_of_beq h0; exact f p h1
noncomputable def chkQ (sc : Scope) (body : List Stmt) : Bool := un2 body fun a b => chkSt .fm (isV "field_modulus") a && onSIf b fun c t f =>
 bi2 sc "isinstance" c (fun x y => isV "val" x && chkGl sc "FQ" y) && un1 t (chkSt .n fun v => onAttr v fun o a J => a == Fld.str .n && isV "val" o) && un1 f fun s => onSIf s fun c t f =>
  bi2 sc "isinstance" c (fun x y => isV "val" x && chkGl sc "int" y) && un1 t (chkSt .n fun v => onBin v fun l o r => isV "val" l && isMod o && selfAt (Fld.str .fm) r)
theorem fq_nm (h1 h2 : Int) (t1 t2 t3 t4 : Tok) (p m : Int) : PySem.W.getL (Fld.str .n) [⟨h1, .str (Fld.str .fm) t1, .int p t2⟩, ⟨h2, .str (Fld.str .n) t3, .int m t4⟩] = some (some (.int m t4)) := by
 unfold PySem.W.getL; rfl
theorem fq_fm (h1 : Int) (t1 t2 : Tok) (p : Int) (r : List DictEntry) : PySem.W.getL (Fld.str .fm) (⟨h1, .str (Fld.str .fm) t1, .int p t2⟩ :: r) = some (some (.int p t2)) := by
 unfold PySem.W.getL; rfl
theorem fq_body (KK : KF K) (KI' : KI K) (MM : MgOk mg) (hc : ∀ f : Fld, findIn K (.ref (Cl.addr .fq)) f.str = some none) {body : List Stmt} (hb : chkQ sc body = true) (e : EnvOk env) (so : ScOk sc env) (hA : A.handled = none) (hu : True) {x dx : Addr} {v : Value} {p m : Int} {t : Tok} {Q : Flow → Shared → Prop} (G : Gd K mg mb sb)
  (F : QM sb env [("self", .ref x), ("val", v), ("field_modulus", .int p t)] (Cl.addr .fq) x dx [] s) (hv : QArg sb.heap v p m)
  (h : ∀ h1 t1 t2 h2 t3 t4 s', QM sb env [("self", .ref x), ("val", v), ("field_modulus", .int p t)] (Cl.addr .fq) x dx [⟨h1, .str (Fld.str .fm) t1, .int p t2⟩, ⟨h2, .str (Fld.str .n) t3, .int m t4⟩] s' → Q .next s') :
  wpAny (model prog w) A (execs body env) Q E s := by
 refine un2_e hb fun s1 s2 hb => an2 hb fun hb1 hb2 => chkSt_e hb1 fun q1 q2 v1 q3 hb1 => isV_e hb1 fun q4 => onSIf_e hb2 fun c2 t2 f2 q5 hb => an3 hb fun hb3 hb4 hb5 => ?_
 refine bi2_e hb3 fun x3 y3 q6 q7 g1 J J hb => an2 hb fun h6 h7 => isV_e h6 fun q8 => chkGl_e h7 fun q9 g2 => un1_e hb4 fun s4 hb => chkSt_e hb fun q10 q11 v4 q12 hb => onAttr_e hb fun o4 a4 q13 hb => an2 hb fun h8 h9 => ?_
 cases eq_of_beq h8
 refine isV_e h9 fun q14 => un1_e hb5 fun s5 hb => onSIf_e hb fun c5 t5 f5 q15 hb => an2 hb fun ha hb => ?_
 refine bi2_e ha fun x6 y6 q16 q17 g4 J J ha => an2 ha fun h6 h7 => isV_e h6 fun q18 => chkGl_e h7 fun q19 g3 => un1_e hb fun s6 hb => chkSt_e hb fun q20 q21 v6 q22 hb => onBin_e hb fun l6 o6 r6 q23 hb => an3 hb fun h10 h11 h12 => ?_
 cases isMod_e h11
 refine isV_e h10 fun q24 => selfAt_e h12 fun q25 q26 => ?_
 have dS : (("self" : Str) == "__debug__") = false := by decide +kernel
 have dV : (("val" : Str) == "__debug__") = false := by decide +kernel
 haveI dF : (("field_modulus" : Str) == "__debug__") = false := by decide +kernel
 have sw : ∀ (v o : Expr) (a : Str) (p : Pos) (l : Nat), swapsWith v (some (.Attribute o a p)) l env = pure false := fun v o a p l => by cases v <;> rfl
 have aS : ∀ {es s}, QM sb env [("self", .ref x), ("val", v), ("field_modulus", .int p t)] (Cl.addr .fq) x dx es s → At env s.heap "self" (.ref x) := fun F => F.at_ ("self", .ref x) (by simp)
 have aV : ∀ {es s}, QM sb env [("self", .ref x), ("val", v), ("field_modulus", .int p t)] (Cl.addr .fq) x dx es s → At env s.heap "val" v := fun F => F.at_ ("val", v) (by simp)
 have aF : ∀ {es s}, QM sb env [("self", .ref x), ("val", v), ("field_modulus", .int p t)] (Cl.addr .fq) x dx es s → At env s.heap "field_modulus" (.int p t) := fun F => F.at_ ("field_modulus", .int p t) (by simp)
 refine wpAny_execs_cons (plainObj_wpAny_Assign_Attribute (ldA e (aF F) dF (ldA e (aS F) dS (F.put (f := .fm) KK KI' G rfl rfl (by simp) fun h1 t1 s1 F1 => ?_))) (sw _ _ _ _ _))
 dsimp only
 have isi : ∀ {c : Str} {s : Shared} {Q : Value → Shared → Prop} {tv : Value} {pq p1 p2 p3 : Pos}, Gd K mg mb s → At env s.heap "val" v → (∀ {Q : Value → Shared → Prop}, Q tv s → wpAny (model prog w) A (eval (.Name c p2) env) Q E s) →
   wpAny (model prog w) A (call (.builtin "isinstance") [v, tv]) Q E s → wpAny (model prog w) A (eval (.Call (.Name "isinstance" p3) [.Name "val" p1, .Name c p2] [] pq) env) Q E s := fun {c s Q tv pq p1 p2 p3} G ha hl hcall =>
  Call_ (ldB MM e so G nbIsi g1 Boot.«isinstance» (call_bi (plain2 rfl rfl) (spl2 rfl rfl (ldA e ha dV (hl hcall)))))
 have hnl : ∀ {x : Addr}, Value.ref x ≠ .builtin "__main__.__loader__#opaque" := by intro x q; cases q
 have G1 := F1.gd G
 refine wpAny_execs_cons (wpAny_If (isTrue_plain rfl (isi (tv := .ref (Cl.addr .fq)) G1 (aV F1) (fun hq => ldG MM e so G1 (f := .cFQ) rfl g2 gn_ne.1 gn_dbg.1 hq) ?_)))
 rcases hv with ⟨i, ti, rfl, hp, rfl⟩ | ⟨a, q, rfl, hfq⟩
 ·refine isn_call (P := fun J => True) G1.k (fun J => Looks.of_pure rfl) KK.isN (by intro q; cases q) trivial int_cls ?_
  refine wpAny_truthy_bool ?_
  simp only [Bool.false_eq_true, if_false]
  have F2 := F1.toks (s1.toks + 1)
  have G2 := F2.gd G
  refine wpAny_execs_cons (wpAny_If (isTrue_plain rfl (isi (tv := .type "int") G2 (aV F2) (fun hq => ldB MM e so G2 nbInt g3 Boot.«int» hq) ?_)))
  refine call_isinstance_yes (typeIs_int _ _ _) ty_type sub_int ?_
  refine wpAny_truthy_bool ?_
  simp only [if_true]
  obtain ⟨n2, hd2⟩ := F2.hd
  refine wpAny_execs_cons (plainObj_wpAny_Assign_Attribute (wpAny_BinOp (ldA e (aV F2) dV (Attribute_any_ (ldA e (aS F2) dS (self_get KK (c := .fq) (f := .fm) G2.k F2.hx hd2 (hc .fm) (fq_fm ..) rfl (mod_int' (by omega) ?_)))))) (sw _ _ _ _ _))
  haveI F3 := (F2.toks (s1.toks + 1 + 1)).toks (s1.toks + 1 + 1 + 1)
  rw [fmod_pos hp]
  refine ldA e (aS F3) dS (F3.put (f := .n) KK KI' G rfl rfl (by simp) fun h2 t3 s4 F4 => ?_)
  exact wpAny_execs_nil (wpAny_execs_nil (wpAny_execs_nil (h _ _ _ _ _ _ _ F4)))
 ·obtain ⟨da, od, ⟨k1, u1, u2, k2, u3, u4, nn, rfl⟩, hne, ha, hda⟩ := (hfq)
  obtain ⟨h0, tk0, rfl, kp⟩ := (F1.kp)
  refine isi_call G1.k (fun M => InstAt.type (show W.InstAt h0 a (instObj (Cl.addr .fq) da) (Cl.addr .fq) (some _) from ⟨kp _ _ ha, rfl, rfl, kp _ _ hda⟩)) (KK.isT .fq .fq (.inl rfl)) hnl ?_
  refine wpAny_truthy_bool ?_
  simp only [if_true]
  refine wpAny_execs_cons (plainObj_wpAny_Assign_Attribute (Attribute_any_ (ldA e (aV F1) dV (self_get KK (c := .fq) (f := .n) G1.k (kp _ _ ha) (kp _ _ hda) (hc .n) (fq_nm ..) rfl ?_))) (sw _ _ _ _ _))
  haveI F3 := F1.toks (tk0 + 1)
  refine ldA e (aS F3) dS (F3.put (f := .n) KK KI' G rfl rfl (by simp) fun h2 t3 s4 F4 => ?_)
  exact wpAny_execs_nil (wpAny_execs_nil (h _ _ _ _ _ _ _ F4))
end
section
structure InitF (K : Frag) (c : Cl) (fi : Addr) (xtra ps : List Str) (chk : Scope → List Stmt → Bool) : Prop where
 hi : findIn K (.ref c.addr) "__init__" = some (some (.ref fi))
 hf : typeIn K (.ref fi) = some (.type "function")
 fd : ∃ oc od fd osl body, K.lookup fi = some ⟨oc, od, .func fd, osl⟩ ∧ fd.body = .stmts body ∧ fdIn K fi (ps ++ xtra) ps fd body = true ∧ chk fd.scope body = true
noncomputable def initChk (K : Frag) (c : Cl) (fi : Addr) (xtra ps : List Str) (chk : Scope → List Stmt → Bool) : Bool :=
 (findIn K (.ref c.addr) "__init__" == some (some (.ref fi))) && (typeIn K (.ref fi) == some (.type "function")) && (match K.lookup fi with
  | some ⟨_, _, .func fd, _⟩ => (match fd.body with | .stmts body => fdIn K fi (ps ++ xtra) ps fd body && chk fd.scope body | _ => false)
  | _ => false)
set_option tactic.hygienic true in
theorem initF_of {c : Cl} {fi : Addr} {xtra ps : List Str} {chk : Scope → List Stmt → Bool} (h : initChk K c fi xtra ps chk = true) : InitF K c fi xtra ps chk := by
 unfold initChk at h
 simp only [Bool.and_eq_true] at h
 obtain ⟨⟨h1, h2⟩, h3⟩ := (h)
 refine ⟨eq_of_beq h1, eq_of_beq h2, ?_⟩
 split at h3
 ·rename_i oc od fd osl hl
  split at h3
  ·rename_i body hb
   obtain ⟨h4, h5⟩ := (Bool.and_eq_true_iff.mp h3)
   exact ⟨oc, od, fd, osl, body, hl, hb, h4, h5⟩
  ·cases h3
 ·cases h3
structure BodyF (K : Frag) (fi : Addr) (xtra ps : List Str) (chk : Scope → List Stmt → Bool) : Prop where
 fd : ∃ oc od fd osl body, K.lookup fi = some ⟨oc, od, .func fd, osl⟩ ∧ fd.body = .stmts body ∧ fdIn K fi (ps ++ xtra) ps fd body = true ∧ chk fd.scope body = true
noncomputable def bodyChk (K : Frag) (fi : Addr) (xtra ps : List Str) (chk : Scope → List Stmt → Bool) : Bool := (match K.lookup fi with
  | some ⟨_, _, .func fd, _⟩ => (match fd.body with | .stmts body => fdIn K fi (ps ++ xtra) ps fd body && chk fd.scope body | _ => false)
  | _ => false)
set_option tactic.hygienic true in
theorem bodyF_of {fi : Addr} {xtra ps : List Str} {chk : Scope → List Stmt → Bool} (h3 : bodyChk K fi xtra ps chk = true) : BodyF K fi xtra ps chk := by
 unfold bodyChk at h3
 refine ⟨?_⟩
 split at h3
 ·rename_i oc od fd osl hl
  split at h3
  ·rename_i body hb
   obtain ⟨h4, h5⟩ := Bool.and_eq_true_iff.mp h3
   exact ⟨oc, od, fd, osl, body, hl, hb, h4, h5⟩
  ·cases h3
 ·cases h3
theorem under_ok {A : Around} {n : Nat} (a : OkA A (n + 1)) (C : Addr) (vs : List Value) : OkA (A.under (.builtin "type.__call__" ⟨.ref C :: vs, []⟩)) n := by
 haveI hw : (Code.builtin "type.__call__" ⟨.ref C :: vs, []⟩).weight = 1 := by kernel_rfl
 haveI hu : (Code.builtin "type.__call__" ⟨.ref C :: vs, []⟩).cUnits = 1 := by kernel_rfl
 exact ⟨a.h, by haveI := a.d; show A.depth + (Code.builtin "type.__call__" ⟨.ref C :: vs, []⟩).weight + _ + _ < _; rw [hw]; omega, by haveI := a.u; show A.units + (Code.builtin "type.__call__" ⟨.ref C :: vs, []⟩).cUnits + _ + _ < _; omega⟩
end
noncomputable def qPs : List Str := ["self", "val", "field_modulus"]
structure QF (K : Frag) : Prop where
 i : InitF K .fq 166 [] qPs chkQ
 no : ∀ (c : Cl) (f : Fld), findIn K (.ref c.addr) f.str = some none
section
variable {A : Around} {n : Nat} {E : Value → Shared → Prop} {s : Shared}
theorem make_any (KK : KF K) (KI' : KI K) {c : Cl} {fi : Addr} {xtra ps : List Str} {chk : Scope → List Stmt → Bool} (IF : InitF K c fi xtra ps chk) (hA : OkA A (n + 2)) (G : Gd K mg mb s) {vs : List Value} (hvl : vs.length + 1 = ps.length) {Q : Value → Shared → Prop}
  (h : ∀ fd body env s₁, K.lookup fi = some fd → chk env.scope body = true → EnvOk env → ScOk env.scope env → OkA (A.under (.builtin "type.__call__" ⟨.ref c.addr :: vs, []⟩) |>.deeper env) n →
   (∃ fd' oc od osl, fd = ⟨oc, od, .func fd', osl⟩ ∧ env.code = fd'.code) →
   Keeps s s₁ → (∃ m, s₁.heap.Ns env.locals m) → s.heap.objs.size + 2 = env.locals → (∀ (i : Nat) (y : Str) (v : Value), ps[i]? = some y → (Value.ref (s.heap.objs.size + 1) :: vs)[i]? = some v → At env s₁.heap y v) → (∀ y d, env.cells.lookup y = some d → ∃ v, s₁.heap.IsCell d v) →
   s₁.heap.get? (s.heap.objs.size + 1 : Nat) = some (instObj c.addr s.heap.objs.size) → s₁.heap.get? s.heap.objs.size = some (dictOf [] 0) →
   (∀ y, (ps ++ xtra).contains y = true → env.scope.names.lookup y = some .local ∨ env.scope.names.lookup y = some .cell) →
   wpAny (model prog w) (A.under (.builtin "type.__call__" ⟨.ref c.addr :: vs, []⟩) |>.deeper env) (execs body env) (fun f s' => f = .next ∧ Q (.ref (s.heap.objs.size + 1 : Nat)) s') (fun J J => False) s₁) :
  wpAny (model prog w) A (call (.ref c.addr) vs) Q E s := by
 obtain ⟨oc, od, fd, osl, body, hlook, hbody, hfd, hchk⟩ := (IF.fd)
 obtain ⟨hh, g, d, t0, os⟩ := s
 refine wpAny_call (make_core (makes_of G.k (KI'.makes c)) (looks_findIn G.k IF.hi) (fun self => bind_fn G.k self IF.hf) (.inl rfl) ?_)
 haveI hU := under_ok (A := A) (n := n + 1) hA c.addr vs
 haveI kp : ∀ b o, hh.get? b = some o → ((hh.push emptyDict).push (instObj c.addr hh.objs.size)).get? b = some o := fun b o e => push_keep _ _ _ _ (push_keep _ _ _ _ e)
 haveI G2 : Gd K mg mb ⟨(hh.push emptyDict).push (instObj c.addr hh.objs.size), g, d, t0, os⟩ := G.keep (s' := ⟨(hh.push emptyDict).push (instObj c.addr hh.objs.size), g, d, t0, os⟩) (.of kp) id
 haveI hsz : ((hh.push emptyDict).push (instObj c.addr hh.objs.size)).objs.size = hh.objs.size + 2 := by rw [Heap.size_push, Heap.size_push]
 refine enter_any G2 (by haveI := hU.d; omega) hlook hbody hfd (by simpa using hvl) fun env s₁ En => ?_
 obtain ⟨h1, tk1, rfl, k1⟩ := (En.ex)
 haveI hx : ((hh.push emptyDict).push (instObj c.addr hh.objs.size)).get? (hh.objs.size + 1 : Nat) = some (instObj c.addr hh.objs.size) := by
  haveI := Heap.get?_push_size (hh.push emptyDict) (o := instObj c.addr hh.objs.size) rfl
  rwa [Heap.size_push] at this
 haveI hd : ((hh.push emptyDict).push (instObj c.addr hh.objs.size)).get? hh.objs.size = some (dictOf [] 0) := push_keep _ _ _ _ (Heap.get?_push_size _ rfl)
 haveI := h _ body env _ hlook (by rw [En.sc]; exact hchk) En.e (by rw [En.sc]; exact En.so) (hU.deeper env) ⟨fd, oc, od, osl, rfl, En.cd⟩ ⟨h1, tk1, rfl, fun b o e => k1 b o (kp b o e)⟩ En.ns (by rw [En.loc]; exact hsz.symm) (fun i y v hy hv => En.at_ i y v hy hv) En.cel (k1 _ _ hx) (k1 _ _ hd) (fun y hy => by
  have hm : y ∈ ps ++ xtra := by simpa using hy
  unfold fdIn at hfd
  simp only [Bool.and_eq_true] at hfd
  haveI kd := (Bool.and_eq_true_iff.mp (show (nodupL (ps ++ xtra) && (ps ++ xtra).all fun x => isLoc (fd.scope.names.lookup x) || isCell (fd.scope.names.lookup x)) = true from hfd.2)).2
  haveI := List.all_eq_true.mp kd y hm
  rw [En.sc]
  rcases Bool.or_eq_true_iff.mp this with q | q
  ·exact .inl (isLoc_eq q)
  ·exact .inr (isCell_eq q))
 refine wpAny_mono this (fun f s' hq => ?_) fun J J q => q.elim
 obtain ⟨rfl, hq⟩ := (hq)
 exact ⟨rfl, hq⟩
noncomputable def FqNew (s : Shared) (h' : Heap) (x : Addr) (p m : Int) : Prop := ∃ dx d, FqD p m d ∧ x ≠ dx ∧ s.heap.get? x = none ∧ s.heap.get? dx = none ∧ h'.get? x = some (instObj (Cl.addr .fq) dx) ∧ h'.get? dx = some d
theorem size_none (h : Heap) (k : Nat) : h.get? (h.objs.size + k : Nat) = none := by
 cases q : h.get? (h.objs.size + k : Nat) with
 | none => rfl
 | some o => exact absurd (Heap.lt_size q) (Nat.not_lt.mpr (Nat.le_add_right _ _))
theorem fq_make (KK : KF K) (KI' : KI K) (MM : MgOk mg) (QF' : QF K) (hA : OkA A (n + 2)) (G : Gd K mg mb s) {v : Value} {p m : Int} {t : Tok} (hv : QArg s.heap v p m) {Q : Value → Shared → Prop}
  (h : ∀ x h' tk, (∀ b o, s.heap.get? b = some o → h'.get? b = some o) → FqNew s h' x p m → Q (.ref x) { s with heap := h', toks := tk }) : wpAny (model prog w) A (call (.ref (Cl.addr .fq)) [v, .int p t]) Q E s := by
 refine make_any KK KI' QF'.i hA G rfl fun fd body env s₁ hl hchk e so hO hcode kp ns hloc hat hcel hx hd hnames => ?_
 haveI F : QM s env [("self", .ref (s.heap.objs.size + 1 : Nat)), ("val", v), ("field_modulus", .int p t)] (Cl.addr .fq) (s.heap.objs.size + 1 : Nat) s.heap.objs.size [] s₁ := by
  refine ⟨kp, fun q hq => ?_, hx, ⟨0, hd⟩, by rw [← hloc]; show (s.heap.objs.size + 2 : Nat) ≠ s.heap.objs.size; omega, by show (s.heap.objs.size + 1 : Nat) ≠ s.heap.objs.size; omega, size_none _ 1, size_none _ 0⟩
  rcases List.mem_cons.mp hq with rfl | hq
  ·exact hat 0 _ _ rfl rfl
  ·rcases List.mem_cons.mp hq with rfl | hq
   ·exact hat 1 _ _ rfl rfl
   ·rw [List.mem_singleton.mp hq]; exact hat 2 _ _ rfl rfl
 refine fq_body KK KI' MM (QF'.no .fq) hchk e so hO.h trivial G F hv fun h1 t1 t2 h2 t3 t4 s' F' => ⟨rfl, ?_⟩
 obtain ⟨h', tk', rfl, k'⟩ := (F'.kp)
 obtain ⟨nn, hd'⟩ := F'.hd
 exact h _ h' tk' k' ⟨_, _, ⟨h1, t1, t2, h2, t3, t4, nn, rfl⟩, F'.ne, F'.new.1, F'.new.2, F'.hx, hd'⟩
theorem fq_rep {Z : ZM} {x : Addr} {p m : Int} {h' : Heap} {tk : Nat} (hz : ∀ b o, Z b = some o → s.heap.get? b = some o) (k : ∀ b o, s.heap.get? b = some o → h'.get? b = some o) (F : FqNew s h' x p m) : ∃ Z', Grow Z s Z' { s with heap := h', toks := tk } ∧ Rep Z' (.ref x) (.fq m p) := by
 obtain ⟨dx, d, hd, ne, nx, nd, ex, ed⟩ := (F)
 haveI zx := none_z hz nx
 haveI zd := none_z hz nd
 have hz' : ∀ b o, zAdd Z dx d b = some o → h'.get? b = some o := fun b o e => by
  unfold zAdd at e
  split at e
  ·rename_i q; cases e; rw [q]; exact ed
  ·exact k b o (hz b o e)
 refine ⟨zAdd (zAdd Z dx d) x (instObj (Cl.addr .fq) dx), ⟨.of k, ?_, fun b o e => ?_, fun b o e => ?_, id, rfl⟩, ?_⟩
 ·refine (zAdd_le zd).trans (zAdd_le ?_)
  unfold zAdd
  rw [if_neg ne]; exact zx
 ·unfold zAdd at e
  split at e
  ·rename_i q; cases e; rw [q]; exact ex
  ·exact hz' b o e
 ·unfold zAdd at e
  split at e
  ·rename_i q; rw [q]; exact .inr nx
  ·split at e
   ·rename_i q; rw [q]; exact .inr nd
   ·exact .inl e
 ·obtain ⟨h1, t1, t2, h2, t3, t4, n, rfl⟩ := hd
  refine .inst (c := .fq) (fs := [(.fm, .int p), (.n, .int m)]) rfl (zAdd_self ..) (es := [⟨h1, .str (Fld.str .fm) t1, .int p t2⟩, ⟨h2, .str (Fld.str .n) t3, .int m t4⟩]) (n := n) ?_ (.cons (.int _ _) (.cons (.int _ _) .nil))
  unfold zAdd
  rw [if_neg (Ne.symm ne), if_pos rfl]
theorem qarg_rep {Z : ZM} (hz : ∀ b o, Z b = some o → s.heap.get? b = some o) {v : Value} {m q p : Int} (r : Rep Z v (.fq m q)) : QArg s.heap v p m := by
 obtain ⟨a, dx, es, n, fs, rfl, hf, h1, h2, rf⟩ := r.inst_inv (c := .fq) rfl
 cases hf
 cases rf with
 | cons r1 rf =>
  cases rf with
  | cons r2 rf =>
   cases rf
   obtain ⟨t1, rfl⟩ := r1.int_inv
   obtain ⟨t2, rfl⟩ := r2.int_inv
   refine .inr ⟨a, q, rfl, dx, _, ⟨_, _, _, _, _, _, n, rfl⟩, fun e => ?_, hz _ _ h1, hz _ _ h2⟩
   subst e
   rw [h1] at h2; cases h2
theorem call_cFQ (KK : KF K) (KI' : KI K) (MM : MgOk mg) (QF' : QF K) {V : V} {p m : Int} {k : Mine.V → Prop} (hV : (∃ i, V = .int i ∧ 0 < p ∧ m = i % p) ∨ ∃ q, V = .fq m q) (hk : k (.fq m p)) : CallOk prog w K mg mb (n + 2) .cFQ [V, .int p] k := by
 intro A s Z vs Q E hA G hz zt r hQ
 cases r with
 | cons rv r =>
  cases r with
  | cons rp r =>
   cases r
   obtain ⟨t, rfl⟩ := rp.int_inv
   haveI hv : ∀ {v : Value}, Rep Z v V → QArg s.heap v p m := fun rv => by
    rcases hV with ⟨i, rfl, h0, h1⟩ | ⟨q, rfl⟩
    ·obtain ⟨t', rfl⟩ := rv.int_inv
     exact .inl ⟨i, t', rfl, h0, h1⟩
    ·exact qarg_rep hz rv
   refine fq_make KK KI' MM QF' hA G (hv rv) fun x h' tk kp F => ?_
   obtain ⟨Z', g, r⟩ := (fq_rep (tk := tk) hz kp F)
   exact hQ _ _ _ _ g r hk
noncomputable def chkFqc (sc : Scope) (body : List Stmt) : Bool := un1 body fun s => onRet s fun o => onS o fun e => bi2 sc "FQ" e fun v a => isV "val" v && selfAt (Fld.str .fm) a
theorem fqc_raw (KK : KF K) (KI' : KI K) (MM : MgOk mg) (QF' : QF K) (BF : BodyF K 327 [] ["self", "val"] chkFqc) (hA : OkA A (n + 4)) (G : Gd K mg mb s) {c : Cl} {x dx : Addr} {es : List DictEntry} {nn : Nat} {h0 : Int} {t0 t1 : Tok} {v : Value} {p m : Int}
  (hx : s.heap.get? x = some (instObj c.addr dx)) (hd : s.heap.get? dx = some (dictOf (⟨h0, .str (Fld.str .fm) t0, .int p t1⟩ :: es) nn)) (hv : QArg s.heap v p m) {Q : Value → Shared → Prop}
  (h : ∀ y h' tk, (∀ b o, s.heap.get? b = some o → h'.get? b = some o) → FqNew s h' y p m → Q (.ref y) { s with heap := h', toks := tk }) : wpAny (model prog w) A (call (.ref 327) [.ref x, v]) Q E s := by
 obtain ⟨oc, od, fd, osl, body, hlook, hbody, hfd, hchk⟩ := (BF.fd)
 refine wpAny_call (enter_any G (by haveI := hA.d; omega) hlook hbody hfd rfl fun env s₁ En => ?_)
 haveI hD := (hA.less (m := n + 3 + 1) (by omega)).deeper env
 refine un1_e hchk fun s0 hc => onRet_e hc fun o q0 hc => onS_e hc fun e0 hc => bi2_e hc fun v0 a0 q1 q2 g1 J J hc => an2 hc fun h1 h2 => isV_e h1 fun q3 => selfAt_e h2 fun q4 q5 => ?_
 have dS : (("self" : Str) == "__debug__") = false := by decide +kernel
 haveI dV : (("val" : Str) == "__debug__") = false := by decide +kernel
 haveI aS := En.at_ 0 "self" (.ref x) rfl rfl
 haveI aV := En.at_ 1 "val" v rfl rfl
 obtain ⟨h1, tk1, rfl, k1⟩ := En.ex
 have G1 : Gd K mg mb { s with heap := h1, toks := tk1 } := G.keep (s' := { s with heap := h1, toks := tk1 }) (.of k1) id
 refine wpAny_execs_cons (wpAny_Return_some (Call_ (ldG MM En.e En.so G1 (f := .cFQ) rfl g1 gn_ne.1 gn_dbg.1 (callWith_any (plain2 rfl rfl) (KK.keepFn .cFQ) (spl2 rfl rfl (ldA En.e aV dV (Attribute_any_ (ldA En.e aS dS (self_get KK (c := c) (f := .fm) G1.k (k1 _ _ hx) (k1 _ _ hd) (QF'.no c .fm) (fq_fm ..) rfl ?_)))))))))
 refine ⟨G1.k, ?_⟩
 refine fq_make (n := n) (s := { s with heap := h1, toks := tk1 + 1 }) KK KI' MM QF' (hD.less (by omega)) (G1.keep (s' := { s with heap := h1, toks := tk1 + 1 }) .refl id) (hv.keep k1) fun y h' tk k2 F => ?_
 refine h y h' tk (fun b o e => k2 b o (k1 b o e)) ?_
 obtain ⟨dx', d, hd, ne, nx, nd, ex, ed⟩ := (F)
 exact ⟨dx', d, hd, ne, (KeepH.of k1).none nx, (KeepH.of k1).none nd, ex, ed⟩
end
noncomputable def chkG (sc sc' : Scope) (x : Str) : Bool := sc'.kind == .function && !sc'.isCoroutine && isLoc (sc'.names.lookup (".0" : Str)) && isLoc (sc'.names.lookup x) &&
 sc'.names.all (fun y => match y.2 with | .cell => false | .free => isCell (sc.names.lookup y.1) | _ => true) && isFree (sc'.names.lookup ("self" : Str))
structure GEnv (sc' : Scope) (xn : Str) (x : Addr) (v : Value) (cenv : Env) (s₂ : Shared) : Prop where
 sc : cenv.scope = sc'
 kind : sc'.kind = .function
 glob : cenv.globals = mainGlobals
 blt : cenv.builtins = builtinsNs
 loc : cenv.kindOf xn = some .local
 ns : ∃ m, s₂.heap.Ns cenv.locals m ∧ m xn = some v
 self : ∃ cs, cenv.kindOf "self" = some .free ∧ cenv.cells.lookup ("self" : Str) = some cs ∧ s₂.heap.IsCell cs (some (.ref x))
section
variable {n : Nat} {A : Around} {E : Value → Shared → Prop} {s₀ s s' : Shared} {Z₀ Z Z' : ZM} {env : Env} {nm : List Str} {sc : Scope} {c : Cl} {x dx : Addr} {σ : List (Option V)} {fs : List (Fld × V)}
theorem isCode_of (G : Gd K mg mb s) {cc P : Addr} (hcd : codeHdIn K cc P = true) (hP : isT P) : ∃ ps, s.heap.IsCode cc P ps ∧ s.heap.TableAt cc P ps := by
 obtain ⟨op, e, ps, hd, ht⟩ := (G.tabs P hP)
 obtain ⟨o, vs, file, tf, flags, tg, inF, text, tt, e1, e2, e3, e4, f3, f4, f5, f6, f7, f11⟩ := (codeHd_of_K G.k hcd)
 exact ⟨ps, ⟨o, vs, file, tf, flags, tg, inF, text, tt, op, e1, e3, f3, f4, f5, f6, f7, e, by rw [hd], ht, f11⟩, ⟨o, vs, e1, e2, e3, e4⟩, by rw [e, hd]⟩
theorem IsCode_tri {h : Heap} {cc P : Addr} {ps : Array Value} (a : h.IsCode cc P ps) : TriplesOk ps.toList := by
 obtain ⟨_, _, _, _, _, _, _, _, _, op, _, _, _, _, _, _, _, e1, d1, t1, _⟩ := (a)
 exact t1
theorem code_keep {cc P : Addr} {ps ps' : Array Value} {h h' : Heap} (hP : isT P) (x : Heap.ExtBut P h h') (a : h.IsCode cc P ps) (ta : h.TableAt cc P ps) (b : h'.IsCode cc P ps') (tb : h'.TableAt cc P ps') : KeepH h h' := fun q o e => by
 by_cases hq : q = P
 ·subst hq
  have e1 := ta.2
  rw [e] at e1; cases e1
  exact ⟨_, tb.2, .inr ⟨hP, ⟨ps, rfl, IsCode_tri a⟩, ⟨ps', rfl, IsCode_tri b⟩⟩⟩
 ·exact ⟨o, x q o hq e, .inl rfl⟩
theorem genex_code {cc P : Addr} {pos : Pos} {qual : Str} {scope : Scope} (G : Gd K mg mb s) (hcd : codeHdIn K cc P = true) (hP : isT P) (hcode : env.code = .ref cc) {Q : Value → Shared → Prop}
  (hQ : ∀ code h' tk, KeepH s.heap h' → Heap.ExtBut P s.heap h' → Q code { s with heap := h', toks := tk }) : wpAny (model prog w) A (genexprCode env pos qual scope) Q E s := by
 obtain ⟨ps, hi, ht⟩ := isCode_of G hcd hP
 cases hc : codeAmong pos ps.toList with
 | some cv => exact wpAny_genexprCode_hit hcode hi hc (hQ cv s.heap s.toks .refl (Heap.ExtBut.refl _ _))
 | none => exact wpAny_genexprCodeX hcode hi ht hc fun c' h' tk hx J J hi' J ht' J => hQ _ h' tk (code_keep hP hx hi ht hi' ht') hx
theorem gen_fold (iter : Expr) (h : isNm iter = true) (env : Env) (x : Value) : genFold iter env x = pure x := by
 cases iter <;> first | rfl | cases h
theorem iter_walks {v : Value} {V : V} {P : List Mine.V → Prop} (hh : A.handled = none) (hz : ∀ b o, Z b = some o → s.heap.get? b = some o) (r : Rep Z v V) (h : onItems V P) {Q : Value → Shared → Prop}
  (hQ : ∀ (l : Addr) (vs : List Value) (xs : List Mine.V) (St₀ : Nat → Heap → Prop) (o : Obj), P xs → xs.length ≤ 64 → RepL Z vs xs → l ≠ s.heap.objs.size → s.heap.get? l = some o → (∀ A' : Around, A'.handled = none → Walks prog w A' s.heap.objs.size [s.heap.objs.size, l] [s.heap.objs.size] vs.length (fun i u => vs[i]? = some u) St₀) →
   (∀ i h, St₀ i h → ∃ o, h.get? s.heap.objs.size = some o) → isF o.data = false → ∀ io : Obj, io.isFreed = false → St₀ 0 (s.heap.push io) → Q (.ref s.heap.objs.size) { s with heap := s.heap.push io }) : wpAny (model prog w) A (pyIter v) Q E s := by
 obtain ⟨a, o, vs, k, xs, Ty, rfl, ho, hc, hT, hd, hl, rl, hx, e⟩ := (r.items_inv h)
 rcases e with rfl | rfl
 ·obtain ⟨l, us, k', e, ho', hl', r'⟩ := (r.lst_inv)
  cases e
  haveI hne : a ≠ s.heap.objs.size := Nat.ne_of_lt (Heap.lt_size (hz _ _ ho'))
  haveI hL : s.heap.IsList a us.toArray := ⟨_, hz _ _ ho', rfl, _, rfl⟩
  refine wpAny_pyIter_list hL (hQ a us xs (fun i h => h.IsListIter s.heap.objs.size a i ∧ h.IsList a us.toArray) _ hx hl' r' hne (hz _ _ ho') (fun A' hA => ?_) (fun i h st => ?_) rfl _ rfl ⟨⟨_, Heap.get?_push_size _ rfl, rfl, rfl⟩, hL.push _⟩)
  ·haveI W := Walks.list (prog := prog) (w := w) (A := A') hA s.heap.objs.size a hne us.toArray
   haveI e : (fun i v => us.toArray[i]? = some v) = fun (i : Nat) v => us[i]? = some v := by funext i v; simp
   rw [List.size_toArray] at W
   rw [e] at W
   exact W
  ·obtain ⟨⟨o, e, _⟩, _⟩ := (st); exact ⟨o, e⟩
 ·obtain ⟨l, o', us, k', e, ho', hc', hd', hl', r'⟩ := (r.tup_inv)
  cases e
  haveI hne : a ≠ s.heap.objs.size := Nat.ne_of_lt (Heap.lt_size (hz _ _ ho'))
  haveI hL : s.heap.IsTuple a us.toArray := ⟨_, hz _ _ ho', hc', _, hd'⟩
  refine wpAny_pyIter_tuple hL (hQ a us xs (fun i h => h.IsTupleIter s.heap.objs.size a i ∧ h.IsTuple a us.toArray) _ hx hl' r' hne (hz _ _ ho') (fun A' hA => ?_) (fun i h st => ?_) (by rw [hd']; rfl) _ rfl ⟨⟨_, Heap.get?_push_size _ rfl, rfl, rfl⟩, hL.push _⟩)
  ·haveI W := Walks.tuple (prog := prog) (w := w) (A := A') hA s.heap.objs.size a hne us.toArray
   haveI e : (fun i v => us.toArray[i]? = some v) = fun (i : Nat) v => us[i]? = some v := by funext i v; simp
   rw [List.size_toArray] at W
   rw [e] at W
   exact W
  ·obtain ⟨⟨o, e, _⟩, _⟩ := (st); exact ⟨o, e⟩
noncomputable def zAll (Z : ZM) (s s' : Shared) : ZM := fun b => match s.heap.get? b with | none => s'.heap.get? b | some _ => Z b
theorem zAll_grow (hz : ∀ b o, Z b = some o → s.heap.get? b = some o) (zt : ∀ b, isT b → Z b = none) (k : KeepH s.heap s'.heap) (hb : AllBare s.gens → AllBare s'.gens) (ho : s'.os = s.os) : Grow Z s (zAll Z s s') s' := by
 refine ⟨k, fun b o e => ?_, fun b o e => ?_, fun b o e => ?_, hb, ho⟩
 ·unfold zAll; rw [hz b o e]; exact e
 ·unfold zAll at e
  split at e
  ·exact e
  ·refine k.atT (hz b o e) fun q => ?_
   rw [zt b q] at e; cases e
 ·unfold zAll at e
  split at e
  ·exact .inr (by assumption)
  ·exact .inl e
theorem gen_tuple (MM : MgOk mg) (X : Ix n A env sc) (F : IM K mg mb s₀ Z₀ env nm c x dx Z σ fs s) {i : Nat} {y xn : Str} {py px p1 p2 p3 : Pos} {elt : Expr} {sc' : Scope} {V : V} {xs : List Mine.V} {cc P : Addr} (hv : getO σ i = some V) (hy : nm[i]? = some y) (hdy : (y == ("__debug__" : Str)) = false) (hV : onItems V (fun l => l = xs))
  (hcode : env.code = .ref cc) (hcd : codeHdIn K cc P = true) (hP : isT P) (hG : chkG sc sc' xn = true) (ht : glob sc "tuple" = true) (El : List Addr → Nat → Value → Heap → Prop) (hL : ∀ wr, Lasts wr (El wr))
  (hEl : ∀ (A' : Around) (E' : Value → Shared → Prop) (j : Nat) (v : Value) (U : Mine.V) (s₂ : Shared) (wr : List Addr) (cenv : Env), A'.handled = none → A'.depth ≤ A.depth + 1 → A'.units ≤ A.units + 8 → xs[j]? = some U → Rep Z v U → GEnv sc' xn x v cenv s₂ → KeepH s.heap s₂.heap → (∀ b ∈ wr, ∃ o, s₂.heap.get? b = some o) →
   wpAny (model prog w) A' (eval elt cenv) (fun u s₃ => El wr j u s₃.heap ∧ Keeps s₂ s₃) E' s₂)
  {Q : Value → Shared → Prop} (hQ : ∀ (acc : List Value) (wr : List Addr) (s' : Shared) (T : Addr) (k : Nat), KeepH s.heap s'.heap → (AllBare s.gens → AllBare s'.gens) → s'.os = s.os → acc.length = xs.length → xs.length ≤ 64 → (∀ j u, acc[j]? = some u → El wr j u s'.heap) → s.heap.get? T = none →
   s'.heap.get? T = some { cls := .type "tuple", data := .seq acc.toArray k } → Q (.ref T) s') :
  wpAny (model prog w) A (eval (.Call (.Name "tuple" p1) [.GeneratorExp elt [⟨.Name xn px, .Name y py, [], 0⟩] sc' p2] [] p3) env) Q E s := by
 unfold chkG at hG
 simp only [Bool.and_eq_true, List.all_eq_true, Bool.not_eq_true'] at hG
 obtain ⟨⟨⟨⟨⟨g1, g2⟩, g3⟩, g4⟩, g5⟩, g6⟩ := hG
 haveI gk : sc'.kind = .function := eq_of_beq g1
 haveI gf : ∀ z ∈ sc'.names, (z.2 == NameKind.free) = true → ∃ d, env.cells.lookup z.1 = some d := fun z hz hf => by
  haveI := g5 z hz
  rw [eq_of_beq hf] at this
  exact X.e.cells z.1 (X.so.cell z.1 this)
 obtain ⟨cl, hclos, c2, c3⟩ := ((closure_of (env := env) (scope := sc') gf))
 obtain ⟨cs, hcs⟩ := (c3 ("self", .free) (lookup_mem (isFree_eq g6)) rfl)
 haveI hself := F.self
 haveI hcell : ∃ d, env.cells.lookup ("self" : Str) = some d ∧ s.heap.IsCell d (some (.ref x)) := by
  rcases hself with ⟨a1, _⟩ | ⟨a1, d, a2, a3⟩
  ·have := X.so.cell "self" (by
    haveI := g5 ("self", .free) (lookup_mem (isFree_eq g6))
    exact this)
   rw [this] at a1; cases a1
  ·exact ⟨d, a2, a3⟩
 obtain ⟨d, hd1, hd2⟩ := (hcell)
 haveI hcsd : cs = d := by haveI := c2 _ _ hcs; rw [hd1] at this; exact (Option.some.inj this).symm
 subst hcsd
 obtain ⟨v, hav, rv⟩ := (F.vars i y V hv hy)
 have G := F.gd
 have dep : A.depth < recursionLimit := by haveI := X.a.d; omega
 refine Call_ (ldB MM X.e X.so G nbTuple ht Boot.«tuple» (call_ty (plain1 rfl) (spl1 rfl ?_)))
 refine gen_make X.a.h g2 hclos (fun z hz q => by haveI := g5 z hz; rw [q] at this; cases this) (isLoc_eq g3) (isLoc_eq g4) gk dep ?_ (gen_fold _ rfl env)
 refine ldA X.e hav hdy (iter_walks X.a.h F.gr.sub rv hV fun l vs xs' St₀ ol hxs hxl rl hne hol W₀ live hdF io hio st0 => ?_)
 subst hxs
 have k1 : KeepH s.heap (s.heap.push io) := .of (push_keep _ _)
 haveI G1 : Gd K mg mb { s with heap := s.heap.push io } := G.up k1
 refine ⟨G1.nolim, ?_⟩
 refine genex_code (s := { s with heap := s.heap.push io }) G1 hcd hP hcode fun code h3 tk3 k2 hx3 => ?_
 haveI k3 : KeepH s.heap h3 := k1.trans k2
 have G3 : Gd K mg mb { s with heap := h3, toks := tk3 } := G1.up k2
 obtain ⟨bm, ob, b1, b2, b3, b4, b5, b6⟩ := (G3.bm)
 refine wpAny_builtinsFor (by rw [X.e.glob]; exact G3.g) b1 b2 b3 b4 b5 b6 ?_
 haveI hIn : (s.heap.push io).get? s.heap.objs.size = some io := Heap.get?_push_size _ hio
 haveI hIT : ¬ isT s.heap.objs.size := G.notT (size_none _ 0)
 haveI hI3 : h3.get? s.heap.objs.size = some io := k2.atT hIn hIT
 haveI hlT : ¬ isT l → h3.get? l = some ol := fun q => k3.atT hol q
 have hol3 : ∀ o, (s.heap.push io).get? l = some o → h3.get? l = some o := fun o e => by
  have e' : s.heap.get? l = some o := by
   have := push_keep s.heap io l _ hol
   rw [this] at e; cases e; exact hol
  rw [hol] at e'; cases e'
  exact k3.at hol hdF
 haveI st3 : St₀ 0 h3 := (W₀ A X.a.h).frame _ _ _ st0 fun b hb o e => by
  rcases List.mem_cons.mp hb with rfl | hb
  ·rw [hIn] at e; cases e; exact hI3
  ·rw [List.mem_singleton.mp hb] at e ⊢; exact hol3 o e
 haveI lt : ∀ {b o}, h3.get? b = some o → b < h3.objs.size := fun e => Heap.lt_size e
 refine ⟨s.heap.objs.size, [s.heap.objs.size, l], [s.heap.objs.size], vs.length, _, St₀, El (h3.objs.size :: [s.heap.objs.size]), rfl, W₀, st3, fun b hb => ?_, G3.nolim, fun hb => ?_, fun href hk => ?_, fun a h5 tk gs hgs hlt hsz k5 W hst => ?_⟩
 ·rcases List.mem_cons.mp hb with rfl | hb
  ·exact lt hI3
  ·rw [List.mem_singleton.mp hb]; exact lt (hol3 _ (push_keep _ _ _ _ hol))
 ·obtain ⟨mc, ⟨oc, ec, pc, ex, _⟩, _⟩ := (G.nolim)
  rw [← List.mem_singleton.mp hb] at hIn
  haveI := size_none s.heap 0
  rw [show s.heap.objs.size + 0 = s.heap.objs.size from rfl, ← List.mem_singleton.mp hb, ex] at this
  cases this
 ·intro A' E' j u s₂ m₂ hA' hd' hu' hPu hst₂ hns hmx hkp
  haveI kS : ∀ b o, h3.get? b = some o → b ≠ s.heap.objs.size → s₂.heap.get? b = some o := fun b o e hb => hkp b (List.mem_range.mpr (lt e)) (fun q => hb (List.mem_singleton.mp q)) o (hk b o e)
  haveI kH : KeepH s.heap s₂.heap := fun b o e => by
   obtain ⟨o', e', ev⟩ := (k3 b o e)
   exact ⟨o', kS b o' e' (Nat.ne_of_lt (Heap.lt_size e)), ev⟩
  haveI hj : ∃ U, xs'[j]? = some U ∧ Rep Z u U := by
   have hlt : j < xs'.length := by rw [← rl.length]; exact (List.getElem?_eq_some_iff.mp hPu).1
   obtain ⟨v', e1, e2⟩ := ((rl.get (List.getElem?_eq_getElem hlt)))
   rw [hPu] at e1; cases e1
   exact ⟨_, List.getElem?_eq_getElem hlt, e2⟩
  obtain ⟨U, hU, hrU⟩ := (hj)
  refine hEl A' E' j u U s₂ _ _ hA' hd' hu' hU hrU ⟨rfl, gk, X.e.glob, rfl, isLoc_eq g4, ⟨m₂, hns, hmx⟩, cs, isFree_eq g6, hcs, kH.cell hd2⟩ kH fun b hb => ?_
  rcases List.mem_cons.mp hb with rfl | hb
  ·obtain ⟨o, _, _, e, _⟩ := (hns); exact ⟨o, e⟩
  ·rw [List.mem_singleton.mp hb]; exact live _ _ hst₂
 ·haveI k5' : KeepH s.heap h5 := k3.trans (.of k5)
  refine call_tupleH W.of_in1 (hL _) (fun i s st => st.1.typeIs) hst (fun b hb => ?_) (List.mem_cons_self ..) (by rw [rl.length]; exact hxl) fun s6 acc hm hal hacc => ?_
  ·rw [hsz]
   rcases List.mem_cons.mp hb with rfl | hb
   ·exact Nat.lt_succ_self _
   ·rcases List.mem_cons.mp hb with rfl | hb
    ·exact Nat.lt_succ_of_lt hlt
    ·exact Nat.lt_succ_of_lt (Nat.lt_trans (List.mem_range.mp hb) hlt)
  ·haveI old6 : ∀ b o, h5.get? b = some o → b ≠ h3.objs.size → b ≠ s.heap.objs.size → s6.heap.get? b = some o := fun b o e h1 h2 => hm.heap b o (fun q => by
    rcases List.mem_cons.mp q with q | q
    ·exact h1 q
    ·exact h2 (List.mem_singleton.mp q)) e
   haveI k6 : KeepH s.heap s6.heap := fun b o e => by
    obtain ⟨o', e', ev⟩ := (k5' b o e)
    refine ⟨o', old6 b o' e' (fun q => ?_) (Nat.ne_of_lt (Heap.lt_size e)), ev⟩
    obtain ⟨o3, e3, _⟩ := (k3 b o e)
    rw [q] at e3
    exact absurd (Heap.lt_size e3) (Nat.lt_irrefl _)
   haveI nT : s.heap.get? s6.heap.objs.size = none := k6.none (size_none _ 0)
   refine hQ acc _ _ s6.heap.objs.size 0 (k6.trans (.of (push_keep _ _))) (fun hb => hm.gens.bare (fun z hz => ?_)) hm.os (by rw [hal, rl.length]) hxl (fun j u hu => hL _ j u _ _ (hacc j u hu) (.of fun b o J e => push_keep _ _ _ _ e)) nT (Heap.get?_push_size _ rfl)
   rcases Array.mem_push.mp hz with q | q
   ·exact hb z q
   ·rw [q]; exact hgs
end
abbrev T0 : Tab := fun J J J => False
noncomputable def iPs : List Str := ["self", "coeffs", "modulus_coeffs", "field_modulus"]
section
variable {n : Nat} {A : Around} {E : Value → Shared → Prop} {s₀ s s' : Shared} {Z₀ Z Z' : ZM} {env : Env} {nm : List Str} {sc : Scope} {c : Cl} {x dx : Addr} {σ : List (Option V)} {fs : List (Fld × V)}
theorem tab0 : TabOk prog w K mg mb n T0 := fun J J J h => h.elim
theorem sw_attr (v o : Expr) (a : Str) (p : Pos) (l : Nat) : swapsWith v (some (.Attribute o a p)) l env = pure false := by cases v <;> rfl
theorem dbg_self : (("self" : Str) == "__debug__") = false := by decide +kernel
theorem im_store (KK : KF K) (KI' : KI K) (X : Ix n A env sc) (F : IM K mg mb s₀ Z₀ env nm c x dx Z σ fs s) {f : Fld} {e : Expr} {p1 p2 p3 : Pos} {r : List Stmt} {Q : Flow → Shared → Prop} (hn : hasF fs f = false) (hl : fs.length ≤ 900) {P : V → Prop}
  (he : ∀ {Q' : Value → Shared → Prop}, (∀ v V Z' s', IM K mg mb s₀ Z₀ env nm c x dx Z' σ fs s' → Rep Z' v V → P V → Q' v s') → wpAny (model prog w) A (eval e env) Q' E s)
  (h : ∀ V Z' s', P V → IM K mg mb s₀ Z₀ env nm c x dx Z' σ (fs ++ [(f, V)]) s' → wpAny (model prog w) A (execs r env) Q E s') :
  wpAny (model prog w) A (execs (.Assign [.Attribute (.Name "self" p1) f.str p2] e p3 :: r) env) Q E s := by
 refine wpAny_execs_cons (plainObj_wpAny_Assign_Attribute (he fun v V Z' s' F R hP => ?_) (sw_attr _ _ _ _ _))
 exact ldA X.e F.self dbg_self (F.put KK KI' R hn hl fun s'' F' => h V Z' s'' hP F')
theorem im_set (KK : KF K) (KI' : KI K) (X : Ix n A env sc) (F : IM K mg mb s₀ Z₀ env nm c x dx Z σ fs s) {ie : IE} (hp : PE prog w K mg mb n T0 ie) {f : Fld} {e : Expr} (hc : chkE sc nm ie e = true) {p1 p2 p3 : Pos} {r : List Stmt} {Q : Flow → Shared → Prop} (hn : hasF fs f = false) (hl : fs.length ≤ 900) {k : V → Prop}
  (hw : wE T0 ie σ k) (h : ∀ V Z' s', k V → IM K mg mb s₀ Z₀ env nm c x dx Z' σ (fs ++ [(f, V)]) s' → wpAny (model prog w) A (execs r env) Q E s') :
  wpAny (model prog w) A (execs (.Assign [.Attribute (.Name "self" p1) f.str p2] e p3 :: r) env) Q E s :=
 im_store KK KI' X F hn hl (fun hQ => hp _ _ _ _ _ _ _ _ _ _ _ (F.cx X) hc hw fun v V Z' s' g R hk => hQ v V Z' s' (F.grow g) R hk) h
theorem im_if (X : Ix n A env sc) (F : IM K mg mb s₀ Z₀ env nm c x dx Z σ fs s) {ie : IE} (hp : PC prog w K mg mb n T0 ie) {e : Expr} (hc : chkE sc nm ie e = true) {p1 : Pos} {tb fb r : List Stmt} {Q : Flow → Shared → Prop} {k : Bool → Prop} (hw : wC T0 ie σ k)
  (h : ∀ b Z' s', k b → IM K mg mb s₀ Z₀ env nm c x dx Z' σ fs s' → (if b = true then wpAny (model prog w) A (execs tb env) (fun f s'' => f = .next ∧ wpAny (model prog w) A (execs r env) Q E s'') E s' else wpAny (model prog w) A (execs fb env) (fun f s'' => f = .next ∧ wpAny (model prog w) A (execs r env) Q E s'') E s')) :
  wpAny (model prog w) A (execs (.If e tb fb p1 :: r) env) Q E s := by
 refine wpAny_execs_cons (wpAny_If (hp _ _ _ _ _ _ _ _ _ _ _ (F.cx X) hc hw fun b Z' s' g hk => ?_))
 haveI := h b Z' s' hk (F.grow g)
 cases b with
 | true =>
  rw [if_pos rfl] at this ⊢
  refine wpAny_mono this (fun f s'' hq => ?_) fun J J q => q
  obtain ⟨rfl, hq⟩ := (hq)
  exact hq
 | false =>
  rw [if_neg Bool.false_ne_true] at this ⊢
  refine wpAny_mono this (fun f s'' hq => ?_) fun J J q => q
  obtain ⟨rfl, hq⟩ := (hq)
  exact hq
theorem im_len (KK : KF K) (MM : MgOk mg) (X : Ix n A env sc) (F : IM K mg mb s₀ Z₀ env nm c x dx Z σ fs s) {p1 p2 p3 p4 : Pos} {f : Fld} {xs : List V} (hg : glob sc "len" = true) (hno : findIn K (.ref c.addr) f.str = some none) (hin : (fs.find? fun p => p.1.str == f.str) = some (f, V.tup xs))
  {Q : Value → Shared → Prop} (h : ∀ v Z' s', IM K mg mb s₀ Z₀ env nm c x dx Z' σ fs s' → Rep Z' v (.int xs.length) → Q v s') :
  wpAny (model prog w) A (eval (.Call (.Name "len" p1) [.Attribute (.Name "self" p2) f.str p3] [] p4) env) Q E s := by
 obtain ⟨es, k, hd, r⟩ := (F.hd)
 obtain ⟨v, hget, hv⟩ := (r.getL hin)
 haveI G := F.gd
 refine Call_ (ldB MM X.e X.so G nbLen hg Boot.«len» (call_bi (plain1 rfl) (spl1 rfl (Attribute_any_ (ldA X.e F.self dbg_self ?_)))))
 refine self_get KK (c := c) (f := f) G.k F.hx hd hno hget (by obtain ⟨a, _, _, _, rfl, _⟩ := (hv.tup_inv); rfl) ?_
 refine op_len (Z := Z) (P := fun ys => ys = xs) (k := fun V => V = .int xs.length) (s := { s with toks := s.toks + 1 }) F.gr.sub hv rfl (fun ys e => by rw [e]) fun v' V' Z' s' g R e => ?_
 subst e
 exact h v' Z' s' (F.grow ((Grow.toks F.gr.sub _).trans g)) R
theorem el_mod (KK : KF K) {c : Cl} (QF' : QF K) (F : IM K mg mb s₀ Z₀ env nm c x dx Z σ fs s) {p : Int} {sc' : Scope} {xn : Str} {p1 p2 p3 p4 : Pos} (hfs : (fs.find? fun p => p.1.str == (Fld.str .fm)) = some (.fm, V.int p)) (hd : (xn == ("__debug__" : Str)) = false) (hp : 0 < p) {A' : Around} {E' : Value → Shared → Prop}
  {v : Value} {i : Int} {s₂ : Shared} {cenv : Env} {Z : ZM} (R : Rep Z v (.int i)) (GE : GEnv sc' xn x v cenv s₂) (kH : KeepH s.heap s₂.heap) {Q : Value → Shared → Prop} (hQ : ∀ t tk, Q (.int (i % p) t) { s₂ with toks := tk }) :
  wpAny (model prog w) A' (eval (.BinOp (.Name xn p1) .Mod (.Attribute (.Name "self" p2) (Fld.str .fm) p3) p4) cenv) Q E' s₂ := by
 obtain ⟨es, k, hd', r⟩ := (F.hd)
 obtain ⟨u, hget, hu⟩ := (r.getL hfs)
 obtain ⟨t0, rfl⟩ := hu.int_inv
 obtain ⟨t1, rfl⟩ := R.int_inv
 obtain ⟨m, hns, hm⟩ := (GE.ns)
 obtain ⟨cs, k1, k2, k3⟩ := (GE.self)
 haveI kd : cenv.scope.kind = .function := by rw [GE.sc]; exact GE.kind
 haveI G2 : Gd K mg mb s₂ := F.gd.up kH
 refine wpAny_BinOp (wpAny_Name (wpAny_loadName_local kd GE.loc hns hm ?_) hd)
 refine Attribute_any_ (wpAny_Name (wpAny_loadName_free kd k1 k2 k3 ?_) dbg_self)
 refine self_get KK (c := c) (f := .fm) G2.k (kH.at F.hx rfl) (kH.at hd' rfl) (QF'.no c .fm) hget rfl ?_
 refine mod_int' (by omega) ?_
 rw [fmod_pos hp]
 exact hQ _ _
noncomputable def FqN (h0 : Heap) (wr : List Addr) (h : Heap) (x : Addr) (p m : Int) : Prop := ∃ dx d, FqD p m d ∧ x ∉ wr ∧ dx ∉ wr ∧ h0.get? x = none ∧ h0.get? dx = none ∧ h.get? x = some (instObj (Cl.addr .fq) dx) ∧ h.get? dx = some d
theorem FqN.keep {h0 : Heap} {wr : List Addr} {h h' : Heap} {x : Addr} {p m : Int} (F : FqN h0 wr h x p m) (k : KeepX wr h h') : FqN h0 wr h' x p m := by
 obtain ⟨dx, o, q, b, c, f, g, d, e⟩ := (F)
 exact ⟨dx, o, q, b, c, f, g, k _ _ b d (fun J J q => by cases q), k _ _ c e q.noseq⟩
theorem FqN.rep {h0 : Heap} {wr : List Addr} {h : Heap} {Z : ZM} {x : Addr} {p m : Int} (F : FqN h0 wr h x p m) (hz : ∀ b o, h.get? b = some o → h0.get? b = none → Z b = some o) : Rep Z (.ref x) (.fq m p) := by
 obtain ⟨dx, d, ⟨h1, t1, t2, h2, t3, t4, n, rfl⟩, b, c, f, g, ex, ed⟩ := (F)
 exact .inst (c := .fq) (fs := [(.fm, .int p), (.n, .int m)]) rfl (hz _ _ ex f) (hz _ _ ed g) (.cons (.int _ _) (.cons (.int _ _) .nil))
theorem FqNew.toN {s : Shared} {h0 h' : Heap} {wr : List Addr} {x : Addr} {p m : Int} (F : FqNew s h' x p m) (k : KeepH h0 s.heap) (hw : ∀ b ∈ wr, ∃ o, s.heap.get? b = some o) : FqN h0 wr h' x p m := by
 obtain ⟨dx, d, hd, ne, a, b, ex, ed⟩ := (F)
 haveI na : x ∉ wr := fun q => by obtain ⟨o, e⟩ := hw _ q; rw [a] at e; cases e
 haveI nb : dx ∉ wr := fun q => by obtain ⟨o, e⟩ := hw _ q; rw [b] at e; cases e
 exact ⟨dx, d, hd, na, nb, k.none a, k.none b, ex, ed⟩
theorem el_fqc (KK : KF K) (KI' : KI K) (MM : MgOk mg) (QF' : QF K) (BF : BodyF K 327 [] ["self", "val"] chkFqc) (F : IM K mg mb s₀ Z₀ env nm .fp x dx Z σ fs s) {p : Int} {sc' : Scope} {xn : Str} {p1 p2 p3 p4 : Pos} {gs : List (Fld × V)} (hfs : fs = (.fm, V.int p) :: gs) (hd : (xn == ("__debug__" : Str)) = false) (hl : p3.endLine = p4.line) {A' : Around} {E' : Value → Shared → Prop}
  (hA : OkA A' (n + 4)) {v : Value} {m : Int} {s₂ : Shared} {cenv : Env} (hv : QArg s₂.heap v p m) (GE : GEnv sc' xn x v cenv s₂) (kH : KeepH s.heap s₂.heap) {Q : Value → Shared → Prop}
  (hQ : ∀ y h' tk, (∀ b o, s₂.heap.get? b = some o → h'.get? b = some o) → FqNew s₂ h' y p m → Q (.ref y) { s₂ with heap := h', toks := tk }) :
  wpAny (model prog w) A' (eval (.Call (.Attribute (.Name "self" p2) "FQP_corresponding_FQ_class" p3) [.Name xn p1] [] p4) cenv) Q E' s₂ := by
 obtain ⟨es, k, hd', r⟩ := (F.hd)
 subst hfs
 cases r with
 | cons hu r =>
  obtain ⟨t0, rfl⟩ := hu.int_inv
  obtain ⟨ml, hns, hm⟩ := (GE.ns)
  obtain ⟨cs, k1, k2, k3⟩ := (GE.self)
  have kd : cenv.scope.kind = .function := by rw [GE.sc]; exact GE.kind
  haveI G2 : Gd K mg mb s₂ := F.gd.up kH
  haveI hx2 := kH.at F.hx rfl
  haveI hd2 := kH.at hd' rfl
  refine methCall rfl hl (show 1 < 30 by decide) (plain1 rfl) (wpAny_Name (wpAny_loadName_free kd k1 k2 k3 fun pl => ?_) dbg_self)
  refine method_fn G2.k (show W.InstAt s₂.heap x (instObj (Cl.addr .fp) dx) (Cl.addr .fp) (some (dictOf _ k)) from ⟨hx2, rfl, rfl, hd2⟩) (plainGet_of (KK.pg .fp)).1 (plainGet_of (KK.pg .fp)).2 (KK.meth .fp .fqc .fFqc rfl) (beq_iff_eq.mp (not_cls rfl KK)) (by
   show (lookIn (Mt.str .fqc) (dictOf _ k)).map _ = _
   rw [lookIn_dict, (RepF.cons hu r).getL_none]; rfl) ?_
  refine callWith_any (plain1 rfl) (KK.keepFn .fFqc) (spl1 rfl (wpAny_Name (wpAny_loadName_local kd GE.loc hns hm ?_) hd))
  exact ⟨G2.k, fqc_raw (n := n) KK KI' MM QF' BF hA G2 (c := .fp) hx2 hd2 hv hQ⟩
end
noncomputable def codeF (K : Frag) (fi cc P : Addr) : Bool := codeHdIn K cc P && (match K.lookup fi with | some ⟨_, _, .func fd, _⟩ => fd.code == .ref cc | _ => false)
noncomputable def ieLens : IE := .cmp .NotEq (.bi .len (.va 1)) (.bi .len (.va 2))
noncomputable def chkGen (sc : Scope) (el : Expr → Str → Bool) (e : Expr) : Bool := onCall e fun t as => un1 as fun g => t == "tuple" && glob sc t && onGE g fun elt gs sc' => onGen gs fun tg it ifs => un0 ifs (isV "coeffs" it && onNm tg fun x => !(x == "__debug__") && chkG sc sc' x && el elt x)
noncomputable def elF (e : Expr) (x : Str) : Bool := onMet e fun o m ap as cp => m == "FQP_corresponding_FQ_class" && isV "self" o && decide (ap.endLine = cp.line) && un1 as (isV x)
noncomputable def elO (e : Expr) (x : Str) : Bool := onBin e fun l o r => isV x l && isMod o && selfAt (Fld.str .fm) r
noncomputable def chkLen (sc : Scope) (e : Expr) : Bool := bi1 sc "len" e (selfAt (Fld.str .mcs))
noncomputable def chkIf (sc : Scope) (ie : IE) (tb fb : List Stmt → Bool) (st : Stmt) : Bool := onSIf st fun c t f => chkE sc iPs ie c && tb t && fb f
noncomputable def chkFI (sc : Scope) (ss : List Stmt) : Bool := onCo ss fun a r => onCo r fun b r => un3 r fun c d e =>
 chkSt .fm (chkE sc iPs (.va 3)) a && chkIf sc ieLens (fun J => true) (fun l => un0 l true) b && chkSt .cs (chkGen sc elF) c && chkSt .mcs (chkE sc iPs (.tupOf (.va 2))) d && chkSt .deg (chkLen sc) e
@[elab_as_elim] theorem chkIf_e {sc : Scope} {ie : IE} {tb fb : List Stmt → Bool} {st : Stmt} {P : Stmt → Prop} (h : chkIf sc ie tb fb st = true) (g : ∀ c t f p, chkE sc iPs ie c = true → tb t = true → fb f = true → P (.If c t f p)) : P st :=
 onSIf_e h fun c t f p h => an3 h (g c t f p)
@[elab_as_elim] theorem chkGen_e {sc : Scope} {el : Expr → Str → Bool} {e : Expr} {P : Expr → Prop} (h : chkGen sc el e = true) (f : ∀ p1 elt xn px py sc' p2 p3, glob sc "tuple" = true → (xn == ("__debug__" : Str)) = false → chkG sc sc' xn = true → el elt xn = true → P (.Call (.Name "tuple" p1) [.GeneratorExp elt [⟨.Name xn px, .Name "coeffs" py, [], 0⟩] sc' p2] [] p3)) : P e :=
 onCall_e h fun t as p1 p3 h => un1_e (P := fun as => P (.Call (.Name t p1) as [] p3)) h fun g h => an3 h fun h0 h1 h2 => by
  cases eq_of_beq h0
  exact onGE_e (P := fun g => P (.Call (.Name "tuple" p1) [g] [] p3)) h2 fun elt gs sc' p2 h => onGen_e (P := fun gs => P (.Call (.Name "tuple" p1) [.GeneratorExp elt gs sc' p2] [] p3)) h fun tg it ifs h =>
   un0_e (P := fun ifs => P (.Call (.Name "tuple" p1) [.GeneratorExp elt [⟨tg, it, ifs, 0⟩] sc' p2] [] p3)) h fun h => an2 h fun h2 h => isV_e (P := fun it => P (.Call (.Name "tuple" p1) [.GeneratorExp elt [⟨tg, it, [], 0⟩] sc' p2] [] p3)) h2 fun py =>
    onNm_e (P := fun tg => P (.Call (.Name "tuple" p1) [.GeneratorExp elt [⟨tg, .Name "coeffs" py, [], 0⟩] sc' p2] [] p3)) h fun xn px h => an3 h fun h3 h4 h5 => f _ _ _ _ _ _ _ _ h1 (not_e h3) h4 h5
@[elab_as_elim] theorem chkLen_e {sc : Scope} {e : Expr} {P : Expr → Prop} (h : chkLen sc e = true) (f : ∀ p1 p2 p3 p4, glob sc "len" = true → P (.Call (.Name "len" p1) [.Attribute (.Name "self" p2) (Fld.str .mcs) p3] [] p4)) : P e :=
 bi1_e h fun a p q h1 J h => selfAt_e (P := fun a => P (.Call (.Name "len" p) [a] [] q)) h fun p2 p3 => f _ _ _ _ h1
section
variable {n : Nat} {A : Around} {E : Value → Shared → Prop} {s₀ s s' : Shared} {Z₀ Z Z' : ZM} {env : Env} {nm : List Str} {sc : Scope} {c : Cl} {x dx : Addr} {σ : List (Option V)} {fs : List (Fld × V)}
theorem IM.done (F : IM K mg mb s₀ Z₀ env nm c x dx Z σ fs s) {W : V} (hf : flds W = some (c, fs)) : ∃ Z', Grow Z₀ s₀ Z' s ∧ Rep Z' (.ref x) W := by
 obtain ⟨es, n, hd, r⟩ := (F.hd)
 haveI le : ZLe Z (zAdd (zAdd Z dx (dictOf es n)) x (instObj c.addr dx)) := (zAdd_le F.zx.2).trans (zAdd_le (by unfold zAdd; rw [if_neg F.ne]; exact F.zx.1))
 refine ⟨zAdd (zAdd Z dx (dictOf es n)) x (instObj c.addr dx), ⟨F.gr.keep, F.gr.le.trans le, fun b o e => ?_, fun b o e => ?_, F.gr.bare, F.gr.os⟩, ?_⟩
 ·unfold zAdd at e
  split at e
  ·rename_i q; cases e; rw [q]; exact F.hx
  ·split at e
   ·rename_i q; cases e; rw [q]; exact hd
   ·exact F.gr.sub b o e
 ·unfold zAdd at e
  split at e
  ·rename_i q; rw [q]; exact .inr F.x0.1
  ·split at e
   ·rename_i q; rw [q]; exact .inr F.x0.2
   ·exact F.gr.fresh b o e
 ·refine .inst (n := n) hf (zAdd_self ..) (dx := dx) (es := es) ?_ (r.mono le)
  unfold zAdd
  rw [if_neg (Ne.symm F.ne), if_pos rfl]
theorem ieLens_k {V1 V2 : V} {xs ys : List V} {a d : Option V} (h1 : onItems V1 (· = xs)) (h2 : onItems V2 (· = ys)) (hl : xs.length = ys.length) : wC T0 ieLens [a, some V1, some V2, d] (fun b => b = false) := by
 have e1 : ∀ {k : V → Prop}, k (.int xs.length) → onItems V1 fun l => k (.int l.length) := fun {k} hk => by
  unfold onItems at h1 ⊢
  split at h1
  ·subst h1; exact hk
  ·subst h1; exact hk
  ·exact h1.elim
 have e2 : ∀ {k : V → Prop}, k (.int ys.length) → onItems V2 fun l => k (.int l.length) := fun {k} hk => by
  unfold onItems at h2 ⊢
  split at h2
  ·subst h2; exact hk
  ·subst h2; exact hk
  ·exact h2.elim
 show onItems V1 (fun xs' => onItems V2 fun ys' => wCmp T0 .NotEq (.int xs'.length) (.int ys'.length) (fun v => Mine.truthy v (fun b => b = false)))
 refine e1 (k := fun a => onItems V2 fun ys' => wCmp T0 .NotEq a (.int ys'.length) (fun v => Mine.truthy v (fun b => b = false))) (e2 (k := fun b => wCmp T0 .NotEq (.int xs.length) b (fun v => Mine.truthy v (fun b => b = false))) ?_)
 show (!decide ((xs.length : Int) = (ys.length : Int))) = false
 rw [hl]; simp
theorem im_start (G : Gd K mg mb s) (hz : ∀ b o, Z b = some o → s.heap.get? b = some o) (zt : ∀ b, isT b → Z b = none) {s₁ : Shared} {vs : List Value} {Vs : List V} (r : RepL Z vs Vs) (hVs : Vs.length = 3) (kp : Keeps s s₁) (ns : ∃ m, s₁.heap.Ns env.locals m) (hloc : s.heap.objs.size + 2 = env.locals)
  (hat : ∀ (i : Nat) (y : Str) (v : Value), iPs[i]? = some y → (Value.ref (s.heap.objs.size + 1 : Nat) :: vs)[i]? = some v → At env s₁.heap y v) (hcel : ∀ y d, env.cells.lookup y = some d → ∃ v, s₁.heap.IsCell d v)
  (hx : s₁.heap.get? (s.heap.objs.size + 1 : Nat) = some (instObj c.addr s.heap.objs.size)) (hd : s₁.heap.get? s.heap.objs.size = some (dictOf [] 0)) :
  IM K mg mb s Z env iPs c (s.heap.objs.size + 1 : Nat) s.heap.objs.size Z (none :: Vs.map some) [] s₁ := by
 obtain ⟨h', tk, rfl, k⟩ := (kp)
 haveI hn : ∀ {q : Nat}, Z (s.heap.objs.size + q : Nat) = none := fun {q} => none_z hz (size_none _ q)
 refine ⟨G, zt, by rw [← hloc]; exact Nat.le_add_right _ _, Grow.still hz k id rfl, ns, fun i y V hV hy => ?_, by simp [hVs, iPs], hat 0 _ _ rfl rfl, hcel, hx, ⟨[], 0, hd, .nil⟩, ⟨hn (q := 1), hn (q := 0)⟩, ⟨size_none _ 1, size_none _ 0⟩, by show (s.heap.objs.size + 1 : Nat) ≠ s.heap.objs.size; omega, by rw [← hloc]; show (s.heap.objs.size + 2 : Nat) ≠ s.heap.objs.size; omega⟩
 cases i with
 | zero => cases hV
 | succ i =>
  haveI hV' : Vs[i]? = some V := by
   haveI : ∀ (l : List Mine.V) (i : Nat), getO (l.map some) i = some V → l[i]? = some V := by
    intro l
    induction l with
    | nil => intro i h; cases h
    | cons a l ih =>
     intro i h
     cases i with
     | zero => cases h; rfl
     | succ i => simpa using ih i h
   exact this _ _ hV
  obtain ⟨v, hv, hr⟩ := (r.get hV')
  exact ⟨v, hat (i + 1) y v hy (by simpa using hv), hr⟩
end
noncomputable def QV (U : V) (p m : Int) : Prop := (∃ i, U = .int i ∧ 0 < p ∧ m = i % p) ∨ ∃ q, U = .fq m q
noncomputable def ieMct : IE := .comp [] ["i", "c"] [4, 5] (.enum (.va 2)) (.va 5) (.tup (.ac (.va 4) (.ac (.va 5) .an)))
noncomputable def ieIsInt : IE := .isi (.idx (.va 1) (.int 0)) [.int]
noncomputable def chkOI (sc : Scope) (ss : List Stmt) : Bool := onCo ss fun a r => onCo r fun b r => onCo r fun c r => un3 r fun d e f =>
 chkSt .fm (chkE sc iPs (.va 3)) a && chkSt .mct (chkE sc iPs ieMct) b && chkIf sc ieLens (fun J => true) (fun l => un0 l true) c &&
   chkIf sc ieIsInt (fun t => un1 t (chkSt .cs (chkGen sc elO))) (fun J => true) d && chkSt .mcs (chkE sc iPs (.tupOf (.va 2))) e && chkSt .deg (chkLen sc) f
section
variable {n : Nat} {A : Around} {E : Value → Shared → Prop} {s₀ s s' : Shared} {Z₀ Z Z' : ZM} {env : Env} {nm : List Str} {sc : Scope} {c : Cl} {x dx : Addr} {σ : List (Option V)} {fs : List (Fld × V)}
theorem codeF_e {fi cc P : Addr} {fd : Obj} (h : codeF K fi cc P = true) (hl : K.lookup fi = some fd) (hc : ∃ fd' oc od osl, fd = ⟨oc, od, .func fd', osl⟩ ∧ env.code = fd'.code) : env.code = .ref cc ∧ codeHdIn K cc P = true := by
 obtain ⟨fd', oc, od, osl, rfl, hc⟩ := (hc)
 unfold codeF at h
 rw [hl] at h
 obtain ⟨h1, h2⟩ := (Bool.and_eq_true_iff.mp h)
 exact ⟨hc.trans (eq_of_beq h2), h1⟩
theorem dbg_coeffs : (("coeffs" : Str) == "__debug__") = false := by decide +kernel
theorem IM.zt (F : IM K mg mb s₀ Z₀ env nm c x dx Z σ fs s) (b : Addr) (h : isT b) : Z b = none := zt_grow F.gd0 F.zt0 F.gr b h
theorem len2 {α : Type} {l : List α} (h : l.length = 2) : ∃ a b, l = [a, b] := by
 cases l with
 | nil => cases h
 | cons a l => cases l with
  | nil => cases h
  | cons b l => cases l with
   | nil => exact ⟨a, b, rfl⟩
   | cons c l => cases h
theorem call_cFP (KK : KF K) (KI' : KI K) (MM : MgOk mg) (QF' : QF K) (BF : BodyF K 327 [] ["self", "val"] chkFqc) (IF : InitF K .fp 313 [] iPs chkFI) (hcf : codeF K 313 312 308 = true) {V1 : V} {xs : List V} {p : Int} {m : Nat → Int} {k : V → Prop} (h1 : onItems V1 (· = xs)) (hl : xs.length = 2) (hq : ∀ j U, xs[j]? = some U → QV U p (m j))
  (hk : k (.fp ⟨m 0, m 1⟩ p)) : CallOk prog w K mg mb (n + 8) .cFP [V1, .tup [.int 1, .int 0], .int p] k := by
 intro A s Z vs Q E hA G hz zt r hQ
 refine make_any (n := n + 6) (c := .fp) KK KI' IF hA G (by rw [r.length]; rfl) fun fd body env s₁ hlook hchk e so hO hcode kp ns hloc hat hcel hx hd hnames => ?_
 obtain ⟨hc1, hc2⟩ := (codeF_e hcf hlook hcode)
 haveI F0 := im_start (c := .fp) G hz zt r rfl kp ns hloc hat hcel hx hd
 have X : Ix (n + 5) _ env env.scope := ⟨e, hO, so, rfl⟩
 refine onCo_e hchk fun s1 ss hc => onCo_e hc fun s2 ss hc => un3_e hc fun s3 s4 s5 hc => an5 hc fun ca cb cc cd ce => ?_
 refine chkSt_e ca fun J J e1 J k1 => chkIf_e cb fun c2 t2 f2 J k2 J k2' => un0_e k2' fun J => chkSt_e cc fun J J e3 J k3 => chkSt_e cd fun J J e4 J k4 => chkSt_e ce fun J J e5 J k5 => ?_
 refine chkGen_e k3 fun J elt xn J J sc' J J g1 g2 g3 g4 => chkLen_e k5 fun J J J J g5 => ?_
 refine im_set KK KI' X F0 (pe_var 3) k1 rfl (Nat.le_of_ble_eq_true rfl) (k := (· = .int p)) rfl fun V Z1 s1 hV F1 => ?_
 subst hV
 refine im_if X F1 (pc_cmp KK tab0 (pe_bi KK tab0 MM (pe_var 1)) (pe_bi KK tab0 MM (pe_var 2))) k2 (k := (· = false)) (ieLens_k h1 rfl hl) fun b Z2 s2 hb F2 => ?_
 subst hb
 rw [if_neg Bool.false_ne_true]
 refine wpAny_execs_nil ⟨rfl, ?_⟩
 haveI hz2 : ∀ {s₂ : Shared}, KeepH s2.heap s₂.heap → ∀ b o, Z2 b = some o → s₂.heap.get? b = some o := fun kH b o q => kH.atT (F2.gr.sub b o q) fun t => by rw [F2.zt b t] at q; cases q
 refine im_store KK KI' X F2 (P := (· = .tup [.fq (m 0) p, .fq (m 1) p])) rfl (Nat.le_of_ble_eq_true rfl) (fun {Q'} hQ' => ?_) fun V Z3 s3 hV F3 => ?_
 ·refine onMet_e g4 fun o m ap as cp g4 => an4 g4 fun h0 h3 h4 h5 => ?_
  cases eq_of_beq h0
  haveI g4 := of_decide_eq_true h4
  refine isV_e h3 fun q1 => un1_e h5 fun v h5 => isV_e h5 fun q2 => ?_
  refine gen_tuple MM X F2 (i := 1) (y := "coeffs") rfl rfl dbg_coeffs h1 hc1 hc2 (.inl rfl) g3 g1 (fun wr j u h => ∃ y, u = .ref y ∧ FqN s2.heap wr h y p (m j)) (fun wr i v h h' ⟨y, a, q⟩ kx => ⟨y, a, q.keep kx⟩)
   (fun A' E' j v U s₂ wr cenv hA' hd' hu' hU R GE kH hwr => ?_) fun acc wr s' T kk kH hb ho hal hxl hacc hTn hT => ?_
  ·haveI hO' : OkA A' (n + 4) := ⟨hA', by have := X.a.d; omega, by have := X.a.u; omega⟩
   refine el_fqc KK KI' MM QF' BF F2 rfl g2 g4 hO' (m := m j) ?_ GE kH fun y h' tk kp' N => ⟨⟨y, rfl, N.toN kH hwr⟩, h', tk, rfl, kp'⟩
   rcases hq j U hU with ⟨i, rfl, a1, a2⟩ | ⟨q, rfl⟩
   ·obtain ⟨t, rfl⟩ := R.int_inv
    exact .inl ⟨i, t, rfl, a1, a2⟩
   ·exact qarg_rep (hz2 kH) R
  ·haveI g := zAll_grow F2.gr.sub (fun b t => F2.zt b t) kH hb ho
   have zz : ∀ b o, s'.heap.get? b = some o → s2.heap.get? b = none → zAll Z2 s2 s' b = some o := fun b o q1 q2 => by unfold zAll; rw [q2]; exact q1
   refine hQ' _ _ (zAll Z2 s2 s') s' (F2.grow g) ?_ rfl
   rw [hl] at hal
   obtain ⟨u0, u1, rfl⟩ := len2 hal
   obtain ⟨y0, rfl, N0⟩ := (hacc 0 u0 rfl)
   obtain ⟨y1, rfl, N1⟩ := (hacc 1 u1 rfl)
   exact .tup (n := kk) (zz _ _ hT hTn) rfl rfl (Nat.le_of_ble_eq_true rfl) (.cons (N0.rep zz) (.cons (N1.rep zz) .nil))
 subst hV
 refine im_set KK KI' X F3 (pe_tupOf MM (pe_var 2)) k4 rfl (Nat.le_of_ble_eq_true rfl) (k := (· = .tup [.int 1, .int 0])) rfl fun V Z4 s4 hV F4 => ?_
 subst hV
 refine im_store KK KI' X F4 (P := (· = .int 2)) rfl (Nat.le_of_ble_eq_true rfl) (fun {Q'} hQ' => im_len KK MM X F4 g5 (QF'.no .fp .mcs) (xs := [.int 1, .int 0]) rfl fun v Z' s' F' R => hQ' v _ Z' s' F' R rfl) fun V Z5 s5 hV F5 => ?_
 subst hV
 refine wpAny_execs_nil ⟨rfl, ?_⟩
 obtain ⟨Z', g, R⟩ := (F5.done (W := .fp ⟨m 0, m 1⟩ p) rfl)
 exact hQ _ _ _ _ g R hk
theorem call_opt (KK : KF K) (KI' : KI K) (MM : MgOk mg) (QF' : QF K) {c : Cl} {fn : Fn} (hfn : fn.addr = c.addr) (IF : InitF K c 425 [] iPs chkOI) (hcf : codeF K 425 424 422 = true) {V1 : V} {is : List Int} {mcs mct : List V} {p : Int} {W : V} {k : V → Prop} (h1 : onItems V1 (· = is.map .int)) (hl : is.length = mcs.length) (h0 : 0 < is.length) (h64 : is.length ≤ 64) (hp : 0 < p)
  (hmct : wE T0 ieMct [none, some V1, some (.tup mcs), some (.int p)] (· = .lst mct)) (hW : flds W = some (c, [(.fm, .int p), (.mct, .lst mct), (.cs, .tup ((is.map (· % p)).map .int)), (.mcs, .tup mcs), (.deg, .int mcs.length)]))
  (hk : k W) : CallOk prog w K mg mb (n + 4) fn [V1, .tup mcs, .int p] k := by
 intro A s Z vs Q E hA G hz zt r hQ
 rw [hfn]
 refine make_any (n := n + 2) (c := c) KK KI' IF hA G (by rw [r.length]; rfl) fun fd body env s₁ hlook hchk e so hO hcode kp ns hloc hat hcel hx hd hnames => ?_
 obtain ⟨hc1, hc2⟩ := (codeF_e hcf hlook hcode)
 haveI F0 := im_start (c := c) G hz zt r rfl kp ns hloc hat hcel hx hd
 have X : Ix (n + 1) _ env env.scope := ⟨e, hO, so, rfl⟩
 refine onCo_e hchk fun s1 ss hc => onCo_e hc fun s2 ss hc => onCo_e hc fun s3 ss hc => un3_e hc fun s4 s5 s6 hc => an6 hc fun ca cm cb cc cd ce => ?_
 refine chkSt_e ca fun J J e1 J k1 => chkSt_e cm fun J J em J km => chkIf_e cb fun c2 t2 f2 J k2 J k2' => un0_e k2' fun J => chkIf_e cc fun c3 t3 f3 J k3 k3' J => un1_e k3' fun s7 k3' => chkSt_e k3' fun J J eg J kg => chkSt_e cd fun J J e4 J k4 => chkSt_e ce fun J J e5 J k5 => ?_
 refine chkGen_e kg fun J elt xn J J sc' J J g1 g2 g3 g4 => chkLen_e k5 fun J J J J g5 => ?_
 refine im_set KK KI' X F0 (pe_var 3) k1 rfl (Nat.le_of_ble_eq_true rfl) (k := (· = .int p)) rfl fun V Z1 s1 hV F1 => ?_
 subst hV
 refine im_set KK KI' X F1 (pe_comp (pi_enum MM (pe_var 2)) pc_var (pe_tup (pes_cons (pe_var 4) (pes_cons (pe_var 5) pes_nil)))) km rfl (Nat.le_of_ble_eq_true rfl) (k := (· = .lst mct)) hmct fun V Z1' s1' hV F1' => ?_
 subst hV
 refine im_if X F1' (pc_cmp KK tab0 (pe_bi KK tab0 MM (pe_var 1)) (pe_bi KK tab0 MM (pe_var 2))) k2 (k := (· = false)) (ieLens_k h1 rfl (by simpa using hl)) fun b Z2 s2 hb F2 => ?_
 subst hb
 rw [if_neg Bool.false_ne_true]
 refine wpAny_execs_nil ⟨rfl, ?_⟩
 refine im_if X F2 (pc_isi KK MM (pe_idx (pe_var 1) (pe_int 0))) k3 (k := (· = true)) ?_ fun b Z2' s2' hb F2' => ?_
 ·obtain ⟨i0, is', rfl⟩ : ∃ i0 is', is = i0 :: is' := by cases is with | nil => cases h0 | cons a b => exact ⟨a, b, rfl⟩
  unfold onItems at h1
  split at h1
  ·subst h1; exact (rfl : true = true)
  ·subst h1; exact (rfl : true = true)
  ·exact h1.elim
 subst hb
 rw [if_pos rfl]
 refine im_store KK KI' X F2' (P := (· = .tup ((is.map (· % p)).map .int))) rfl (Nat.le_of_ble_eq_true rfl) (fun {Q'} hQ' => ?_) fun V Z3 s3 hV F3 => ?_
 ·refine onBin_e g4 fun l o r q1 g4 => an3 g4 fun h3 h4 h5 => ?_
  cases isMod_e h4
  refine isV_e h3 fun q2 => selfAt_e h5 fun q3 q4 => ?_
  refine gen_tuple MM X F2' (i := 1) (y := "coeffs") rfl rfl dbg_coeffs h1 hc1 hc2 (.inr rfl) g3 g1 (fun wr j u h => ∃ i t, is[j]? = some i ∧ u = .int (i % p) t) (fun wr i v h h' q kx => q)
   (fun A' E' j v U s₂ wr cenv hA' hd' hu' hU R GE kH hwr => ?_) fun acc wr s' T kk kH hb ho hal hxl hacc hTn hT => ?_
  ·rw [List.getElem?_map] at hU
   obtain ⟨i, hi, rfl⟩ := (Option.map_eq_some_iff.mp hU)
   exact el_mod KK QF' F2' (p := p) rfl g2 hp R GE kH fun t tk => ⟨⟨i, t, hi, rfl⟩, _, tk, rfl, fun J J q => q⟩
  ·haveI g := zAll_grow F2'.gr.sub (fun b t => F2'.zt b t) kH hb ho
   haveI zz : ∀ b o, s'.heap.get? b = some o → s2'.heap.get? b = none → zAll Z2' s2' s' b = some o := fun b o q1 q2 => by unfold zAll; rw [q2]; exact q1
   refine hQ' _ _ (zAll Z2' s2' s') s' (F2'.grow g) ?_ rfl
   refine .tup (n := kk) (zz _ _ hT hTn) rfl rfl (by simpa using h64) ?_
   haveI : ∀ (acc : List Value) (is : List Int), acc.length = is.length → (∀ (j : Nat) (u : Value), acc[j]? = some u → ∃ (i : Int) (t : Tok), is[j]? = some i ∧ u = Value.int (i % p) t) → RepL (zAll Z2' s2' s') acc ((is.map (· % p)).map V.int) := by
    intro acc
    induction acc with
    | nil => intro is hl _; cases is with | nil => exact .nil | cons => cases hl
    | cons u acc ih =>
     intro is hl hacc
     cases is with
     | nil => cases hl
     | cons i is =>
      obtain ⟨i', t, e1, e2⟩ := (hacc 0 u rfl)
      cases e1
      rw [e2]
      exact .cons (.int _ _) (ih is (by simpa using hl) fun j u hj => by simpa using hacc (j + 1) u (by simpa using hj))
   exact this acc is (by simpa using hal) hacc
 subst hV
 refine wpAny_execs_nil ⟨rfl, ?_⟩
 refine im_set KK KI' X F3 (pe_tupOf MM (pe_var 2)) k4 rfl (Nat.le_of_ble_eq_true rfl) (k := (· = .tup mcs)) rfl fun V Z4 s4 hV F4 => ?_
 subst hV
 refine im_store KK KI' X F4 (P := (· = .int mcs.length)) rfl (Nat.le_of_ble_eq_true rfl) (fun {Q'} hQ' => im_len KK MM X F4 g5 (QF'.no c .mcs) (xs := mcs) rfl fun v Z' s' F' R => hQ' v _ Z' s' F' R rfl) fun V Z5 s5 hV F5 => ?_
 subst hV
 refine wpAny_execs_nil ⟨rfl, ?_⟩
 obtain ⟨Z', g, R⟩ := (F5.done hW)
 exact hQ _ _ _ _ g R hk
end
noncomputable def primes : List Nat := [7, 11, 19, 23, 31, 43, 59, 67, 103, 127, 211, 251]
noncomputable def Pr (p : Int) : Prop := ∃ n ∈ primes, p = (n : Nat)
theorem Pr.pos {p : Int} (h : Pr p) : 0 < p := by
 obtain ⟨n, hn, rfl⟩ := h
 have : ∀ n ∈ primes, 0 < n := by decide
 have := this n hn
 omega
theorem Pr.ge {p : Int} (h : Pr p) : 7 ≤ p ∧ p ≤ 251 := by
 obtain ⟨n, hn, rfl⟩ := h
 have : ∀ n ∈ primes, 7 ≤ n ∧ n ≤ 251 := by decide
 have := this n hn
 omega
structure Q (p : Int) where
 x : F
 h : x.a % p = x.a ∧ x.b % p = x.b
theorem F.ext {f g : F} (h1 : f.a = g.a) (h2 : f.b = g.b) : f = g := by cases f; cases g; cases h1; cases h2; rfl
theorem Q.ext {p : Int} {x y : Q p} (h : x.x = y.x) : x = y := by cases x; cases y; cases h; rfl
noncomputable def mk' {p : Int} (f : F) : Q p := ⟨⟨f.a % p, f.b % p⟩, Int.emod_emod f.a p, Int.emod_emod f.b p⟩
theorem mk_self {p : Int} (x : Q p) : mk' x.x = x := Q.ext (F.ext x.h.1 x.h.2)
noncomputable def fAdd (f g : F) : F := ⟨f.a + g.a, f.b + g.b⟩
noncomputable def fSub (f g : F) : F := ⟨f.a - g.a, f.b - g.b⟩
noncomputable def fMul (f g : F) : F := ⟨f.a * g.a - f.b * g.b, f.a * g.b + f.b * g.a⟩
noncomputable def fNeg (f : F) : F := ⟨-f.a, -f.b⟩
noncomputable def fInt (i : Int) : F := ⟨i, 0⟩
noncomputable def qAdd {p : Int} (x y : Q p) : Q p := mk' (fAdd x.x y.x)
noncomputable def qSub {p : Int} (x y : Q p) : Q p := mk' (fSub x.x y.x)
noncomputable def qMul {p : Int} (x y : Q p) : Q p := mk' (fMul x.x y.x)
noncomputable def qNeg {p : Int} (x : Q p) : Q p := mk' (fNeg x.x)
noncomputable def qInt {p : Int} (i : Int) : Q p := mk' (fInt i)
noncomputable def qPow {p : Int} (x : Q p) : Nat → Q p
 | 0 => qInt 1
 | n + 1 => qMul (qPow x n) x
noncomputable def fNorm (f : F) : Int := f.a * f.a + f.b * f.b
noncomputable def nInv (p : Int) (n : Int) : Int := n ^ (p - 2).toNat % p
noncomputable def qInv {p : Int} (x : Q p) : Q p := mk' ⟨x.x.a * nInv p (fNorm x.x), -x.x.b * nInv p (fNorm x.x)⟩
noncomputable def qDiv {p : Int} (x y : Q p) : Q p := qMul x (qInv y)
noncomputable def qZpow {p : Int} (x : Q p) : Int → Q p
 | .ofNat n => qPow x n
 | .negSucc n => qInv (qPow x (n + 1))
section
variable {p : Int}
theorem mk_add (f g : F) : qAdd (mk' f) (mk' g) = (mk' (fAdd f g) : Q p) := Q.ext (F.ext (by show (f.a % p + g.a % p) % p = (f.a + g.a) % p; rw [← Int.add_emod]) (by show (f.b % p + g.b % p) % p = (f.b + g.b) % p; rw [← Int.add_emod]))
theorem mk_sub (f g : F) : qSub (mk' f) (mk' g) = (mk' (fSub f g) : Q p) := Q.ext (F.ext (by show (f.a % p - g.a % p) % p = (f.a - g.a) % p; rw [← Int.sub_emod]) (by show (f.b % p - g.b % p) % p = (f.b - g.b) % p; rw [← Int.sub_emod]))
theorem mk_neg (f : F) : qNeg (mk' f) = (mk' (fNeg f) : Q p) := by
 have e : ∀ a : Int, (-(a % p)) % p = (-a) % p := fun a => by
  have := Int.sub_emod 0 a p
  have h2 := Int.sub_emod 0 (a % p) p
  rw [Int.emod_emod] at h2
  rw [← this] at h2
  simpa using h2
 exact Q.ext (F.ext (e f.a) (e f.b))
theorem mk_mul (f g : F) : qMul (mk' f) (mk' g) = (mk' (fMul f g) : Q p) := by
 refine Q.ext (F.ext ?_ ?_)
 ·show ((f.a % p) * (g.a % p) - (f.b % p) * (g.b % p)) % p = (f.a * g.a - f.b * g.b) % p
  rw [Int.sub_emod, ← Int.mul_emod, ← Int.mul_emod, ← Int.sub_emod]
 ·show ((f.a % p) * (g.b % p) + (f.b % p) * (g.a % p)) % p = (f.a * g.b + f.b * g.a) % p
  rw [Int.add_emod, ← Int.mul_emod, ← Int.mul_emod, ← Int.add_emod]
theorem ex_mk (x : Q p) : ∃ f : F, x = mk' f := ⟨x.x, (mk_self x).symm⟩
theorem q_add_zero (x : Q p) : qAdd x (qInt 0) = x := by
 obtain ⟨f, rfl⟩ := ex_mk x
 unfold qInt; rw [mk_add]; congr 1; unfold fAdd fInt; simp
theorem q_add_comm (x y : Q p) : qAdd x y = qAdd y x := by
 unfold qAdd; congr 1; unfold fAdd; rw [Int.add_comm, Int.add_comm x.x.b]
theorem q_add_assoc (x y z : Q p) : qAdd (qAdd x y) z = qAdd x (qAdd y z) := by
 obtain ⟨f, rfl⟩ := ex_mk x; obtain ⟨g, rfl⟩ := ex_mk y; obtain ⟨h, rfl⟩ := ex_mk z
 rw [mk_add, mk_add, mk_add, mk_add]; congr 1; unfold fAdd; simp only [Int.add_assoc]
theorem q_mul_assoc (x y z : Q p) : qMul (qMul x y) z = qMul x (qMul y z) := by
 obtain ⟨f, rfl⟩ := ex_mk x; obtain ⟨g, rfl⟩ := ex_mk y; obtain ⟨h, rfl⟩ := ex_mk z
 rw [mk_mul, mk_mul, mk_mul, mk_mul]; congr 1; unfold fMul; refine F.ext ?_ ?_ <;> grind
theorem q_mul_comm (x y : Q p) : qMul x y = qMul y x := by
 unfold qMul; congr 1; unfold fMul; refine F.ext ?_ ?_ <;> grind
theorem q_mul_one (x : Q p) : qMul x (qInt 1) = x := by
 obtain ⟨f, rfl⟩ := ex_mk x
 unfold qInt; rw [mk_mul]; congr 1; unfold fMul fInt; refine F.ext ?_ ?_ <;> simp
theorem q_left_distrib (x y z : Q p) : qMul x (qAdd y z) = qAdd (qMul x y) (qMul x z) := by
 obtain ⟨f, rfl⟩ := ex_mk x; obtain ⟨g, rfl⟩ := ex_mk y; obtain ⟨h, rfl⟩ := ex_mk z
 rw [mk_mul, mk_mul, mk_add, mk_add, mk_mul]; congr 1; unfold fMul fAdd; refine F.ext ?_ ?_ <;> grind
theorem q_zero_mul (x : Q p) : qMul (qInt 0) x = qInt 0 := by
 obtain ⟨f, rfl⟩ := ex_mk x
 unfold qInt; rw [mk_mul]; congr 1; unfold fMul fInt; refine F.ext ?_ ?_ <;> simp
theorem q_neg_add_cancel (x : Q p) : qAdd (qNeg x) x = qInt 0 := by
 obtain ⟨f, rfl⟩ := ex_mk x
 unfold qInt; rw [mk_neg, mk_add]; congr 1; unfold fAdd fInt fNeg; refine F.ext ?_ ?_ <;> simp <;> omega
theorem q_sub_eq (x y : Q p) : qSub x y = qAdd x (qNeg y) := by
 obtain ⟨f, rfl⟩ := ex_mk x; obtain ⟨g, rfl⟩ := ex_mk y
 rw [mk_neg, mk_add, mk_sub]; congr 1
theorem q_int_add (i j : Int) : qAdd (qInt i) (qInt j) = (qInt (i + j) : Q p) := by
 unfold qInt; rw [mk_add]; congr 1
theorem q_int_neg (i : Int) : qNeg (qInt i) = (qInt (-i) : Q p) := by
 unfold qInt; rw [mk_neg]; congr 1
theorem q_int_mul (i j : Int) : qMul (qInt i) (qInt j) = (qInt (i * j) : Q p) := by
 unfold qInt; rw [mk_mul]; congr 1; unfold fMul fInt; refine F.ext ?_ ?_ <;> simp
theorem q_neg_mul (x y : Q p) : qMul (qNeg x) y = qNeg (qMul x y) := by
 obtain ⟨f, rfl⟩ := ex_mk x; obtain ⟨g, rfl⟩ := ex_mk y
 rw [mk_neg, mk_mul, mk_mul, mk_neg]; congr 1; unfold fMul fNeg; refine F.ext ?_ ?_ <;> grind
@[reducible] noncomputable def ringQ (p : Int) : Lean.Grind.CommRing (Q p) :=
 {
  add := qAdd, mul := qMul, neg := qNeg, sub := qSub
  natCast := ⟨fun n => qInt (n : Int)⟩
  ofNat := fun n => ⟨qInt (n : Int)⟩
  nsmul := ⟨fun n x => qMul (qInt (n : Int)) x⟩
  npow := ⟨qPow⟩
  intCast := ⟨qInt⟩
  zsmul := ⟨fun i x => qMul (qInt i) x⟩
  add_zero := q_add_zero, add_comm := q_add_comm, add_assoc := q_add_assoc, mul_assoc := q_mul_assoc, mul_one := q_mul_one
  one_mul := fun x => (q_mul_comm _ _).trans (q_mul_one x)
  left_distrib := q_left_distrib
  right_distrib := fun x y z => by
   show qMul (qAdd x y) z = qAdd (qMul x z) (qMul y z)
   rw [q_mul_comm, q_left_distrib, q_mul_comm z x, q_mul_comm z y]
  zero_mul := q_zero_mul
  mul_zero := fun x => (q_mul_comm _ _).trans (q_zero_mul x)
  mul_comm := q_mul_comm
  pow_zero := fun x => rfl
  pow_succ := fun x n => rfl
  ofNat_succ := fun n => by
   show (qInt ((n + 1 : Nat) : Int) : Q p) = qAdd (qInt (n : Int)) (qInt ((1 : Nat) : Int))
   rw [q_int_add]; rfl
  ofNat_eq_natCast := fun n => rfl
  nsmul_eq_natCast_mul := fun n x => rfl
  neg_add_cancel := q_neg_add_cancel
  sub_eq_add_neg := q_sub_eq
  neg_zsmul := fun i x => by
   show qMul (qInt (-i)) x = qNeg (qMul (qInt i) x)
   rw [← q_int_neg, q_neg_mul]
  zsmul_natCast_eq_nsmul := fun n x => rfl
  intCast_ofNat := fun n => rfl
  intCast_neg := fun i => (q_int_neg i).symm }
end
noncomputable def okP (n : Nat) : Bool := (List.range n).all fun r => (Nat.beq r 0 || Nat.beq (r * (r ^ (n - 2) % n) % n) 1) && !(Nat.beq (r * r % n) (n - 1))
theorem okP_all : primes.all okP = true := by decide +kernel
theorem pow_emod (a p : Int) (n : Nat) : (a % p) ^ n % p = a ^ n % p := by
 induction n with
 | zero => simp
 | succ n ih => rw [Int.pow_succ, Int.pow_succ, Int.mul_emod, ih, Int.emod_emod, ← Int.mul_emod]
theorem fermat {p : Int} (hp : Pr p) (a : Int) (ha : a % p ≠ 0) : a * nInv p a % p = 1 := by
 obtain ⟨n, hn, rfl⟩ := (hp)
 haveI hpos : (0 : Int) < (n : Nat) := Pr.pos ⟨n, hn, rfl⟩
 have h7 := (Pr.ge ⟨n, hn, rfl⟩).1
 obtain ⟨r, hr⟩ : ∃ r : Nat, a % (n : Int) = r := ⟨(a % (n : Int)).toNat, (Int.toNat_of_nonneg (Int.emod_nonneg _ (by omega))).symm⟩
 have hlt : r < n := by haveI := Int.emod_lt_of_pos a hpos; omega
 have := List.all_eq_true.mp (List.all_eq_true.mp okP_all n hn) r (List.mem_range.mpr hlt)
 obtain ⟨h1, _⟩ := (Bool.and_eq_true_iff.mp this)
 haveI h1' : r * (r ^ (n - 2) % n) % n = 1 := by
  rcases Bool.or_eq_true_iff.mp h1 with q | q
  ·haveI := Nat.eq_of_beq_eq_true q; subst this; exact absurd hr ha
  ·exact Nat.eq_of_beq_eq_true q
 unfold nInv
 rw [← pow_emod, Int.mul_emod, hr, Int.emod_emod]
 haveI e : ((n : Int) - 2).toNat = n - 2 := by omega
 rw [e]
 haveI : ((r * (r ^ (n - 2) % n) % n : Nat) : Int) = 1 := by rw [h1']; rfl
 push_cast at this
 exact this
theorem noRoot {p : Int} (hp : Pr p) (t : Int) : (t * t + 1) % p ≠ 0 := by
 obtain ⟨n, hn, rfl⟩ := (hp)
 haveI hpos : (0 : Int) < (n : Nat) := Pr.pos ⟨n, hn, rfl⟩
 have h7 := (Pr.ge ⟨n, hn, rfl⟩).1
 obtain ⟨r, hr⟩ : ∃ r : Nat, t % (n : Int) = r := ⟨(t % (n : Int)).toNat, (Int.toNat_of_nonneg (Int.emod_nonneg _ (by omega))).symm⟩
 have hlt : r < n := by haveI := Int.emod_lt_of_pos t hpos; omega
 haveI := List.all_eq_true.mp (List.all_eq_true.mp okP_all n hn) r (List.mem_range.mpr hlt)
 obtain ⟨_, h2⟩ := (Bool.and_eq_true_iff.mp this)
 haveI h2' : r * r % n ≠ n - 1 := by
  intro q
  rw [q] at h2
  simp at h2
 intro h
 apply h2'
 haveI e : (t * t) % (n : Int) = ((r * r % n : Nat) : Int) := by
  rw [Int.mul_emod, hr]; simp
 haveI h3 : (t * t + 1) % (n : Int) = ((t * t) % n + 1) % n := by rw [Int.add_emod]; simp
 rw [h3, e] at h
 haveI hb : r * r % n < n := Nat.mod_lt _ (by omega)
 haveI : ((r * r % n : Nat) : Int) + 1 = n := by
  rcases Nat.lt_or_ge (r * r % n + 1) n with q | q
  ·rw [Int.emod_eq_of_lt (by omega) (by omega)] at h; omega
  ·omega
 omega
theorem dvd_of_emod {a p : Int} : a % p = 0 ↔ ∃ c, a = p * c := ⟨fun h => ⟨a / p, by have := Int.mul_ediv_add_emod a p; omega⟩, fun ⟨c, h⟩ => by rw [h]; exact Int.mul_emod_right p c⟩
theorem norm0 {p : Int} (hp : Pr p) {a b : Int} (h : (a * a + b * b) % p = 0) : a % p = 0 ∧ b % p = 0 := by
 haveI one : ∀ {a b : Int}, (a * a + b * b) % p = 0 → b % p = 0 := fun {a b} h => by
  apply Classical.byContradiction
  intro hb
  haveI hf := fermat hp b hb
  obtain ⟨c, hc⟩ := dvd_of_emod.mp h
  haveI h1 : ∃ d, b * nInv p b = 1 + p * d := ⟨b * nInv p b / p, by haveI := Int.mul_ediv_add_emod (b * nInv p b) p; omega⟩
  obtain ⟨d, hd⟩ := h1
  refine noRoot hp (a * nInv p b) (dvd_of_emod.mpr ?_)
  generalize nInv p b = m at hd
  refine ⟨c * m * m - d - d * (1 + p * d), ?_⟩
  grind
 haveI hb := one h
 exact ⟨one (by rw [Int.add_comm]; exact h), hb⟩
theorem q_ne {p : Int} {x : Q p} (hx : x ≠ qInt 0) : x.x.a % p ≠ 0 ∨ x.x.b % p ≠ 0 := by
 apply Classical.byContradiction
 intro h
 have h1 : x.x.a % p = 0 := Classical.byContradiction fun q => h (.inl q)
 have h2 : x.x.b % p = 0 := Classical.byContradiction fun q => h (.inr q)
 apply hx
 refine Q.ext (F.ext ?_ ?_)
 ·rw [← x.h.1, h1]; show 0 = 0 % p; simp
 ·rw [← x.h.2, h2]; show 0 = 0 % p; simp
theorem q_mul_inv {p : Int} (hp : Pr p) {x : Q p} (hx : x ≠ qInt 0) : qMul x (qInv x) = qInt 1 := by
 haveI hn : fNorm x.x % p ≠ 0 := fun q => by
  obtain ⟨h1, h2⟩ := (norm0 hp q)
  rcases q_ne hx with h | h
  ·exact h h1
  ·exact h h2
 haveI hf := fermat hp _ hn
 obtain ⟨f, rfl⟩ := ex_mk x
 unfold qInv
 generalize he : nInv p (fNorm (mk' f : Q p).x) = m at hf
 haveI e1 : fNorm (mk' f : Q p).x * m % p = 1 := hf
 haveI hx' : (mk' f : Q p) = mk' (mk' f : Q p).x := (mk_self _).symm
 generalize (mk' f : Q p).x = g at e1 hx'
 rw [hx', mk_mul]
 unfold qInt
 refine Q.ext (F.ext ?_ ?_)
 ·show (g.a * (g.a * m) - g.b * (-g.b * m)) % p = 1 % p
  rw [show g.a * (g.a * m) - g.b * (-g.b * m) = fNorm g * m by unfold fNorm; grind, e1]
  haveI := hp.ge
  rw [Int.emod_eq_of_lt (by omega) (by omega)]
 ·show (g.a * (-g.b * m) + g.b * (g.a * m)) % p = 0 % p
  rw [show g.a * (-g.b * m) + g.b * (g.a * m) = 0 by grind]
theorem q_inv_zero {p : Int} : qInv (qInt 0 : Q p) = qInt 0 := by
 unfold qInv qInt
 have e : (mk' (fInt 0) : Q p).x = ⟨0, 0⟩ := F.ext (by show (0 : Int) % p = 0; simp) (by show (0 : Int) % p = 0; simp)
 rw [e]
 refine Q.ext (F.ext ?_ ?_)
 ·show (0 * nInv p (fNorm ⟨0, 0⟩)) % p = 0 % p; simp
 ·show (-0 * nInv p (fNorm ⟨0, 0⟩)) % p = 0 % p; simp
theorem q_01 {p : Int} (hp : Pr p) : (qInt 0 : Q p) ≠ qInt 1 := fun h => by
 have := congrArg (fun x : Q p => x.x.a) h
 have h2 : (0 : Int) % p = 1 % p := this
 have := hp.ge
 rw [Int.emod_eq_of_lt (by omega) (by omega), Int.emod_eq_of_lt (by omega) (by omega)] at h2
 omega
@[reducible] noncomputable def fieldQ (p : Int) (hp : Pr p) : Lean.Grind.Field (Q p) :=
 { ringQ p with
  inv := qInv
  div := qDiv
  zpow := ⟨qZpow⟩
  div_eq_mul_inv := fun J J => rfl
  zero_ne_one := q_01 hp
  inv_zero := q_inv_zero
  mul_inv_cancel := fun {a} h => q_mul_inv hp h
  zpow_zero := fun a => rfl
  zpow_succ := fun a n => rfl
  zpow_neg := fun a n => by
   show qZpow a (-n) = qInv (qZpow a n)
   have ii : ∀ x : Q p, qInv (qInv x) = x := fun x => by
    by_cases h : x = qInt 0
    ·subst h; rw [q_inv_zero, q_inv_zero]
    ·have h1 := q_mul_inv hp h
     have h2 : qInv x ≠ qInt 0 := fun q => by
      rw [q, q_mul_comm, q_zero_mul] at h1
      exact q_01 hp h1
     have h3 := q_mul_inv hp h2
     have : qMul (qMul x (qInv x)) (qInv (qInv x)) = x := by rw [q_mul_assoc, h3, q_mul_one]
     rw [h1, q_mul_comm, q_mul_one] at this
     exact this
   have i1 : qInv (qInt 1 : Q p) = qInt 1 := by
    have := q_mul_inv hp (x := qInt 1) (fun q => q_01 hp q.symm)
    rw [q_mul_comm, q_mul_one] at this
    exact this
   cases n with
   | ofNat n =>
    cases n with
    | zero => exact i1.symm
    | succ n => rfl
   | negSucc n => exact (ii _).symm }
section
@[elab_as_elim] theorem opt_e {α : Type} {P : Option (α × α) → Prop} (R : Option (α × α)) (h0 : P none) (h1 : ∀ x y, P (some (x, y))) : P R := by
 rcases R with _ | ⟨x, y⟩
 ·exact h0
 ·exact h1 x y
open Classical
section
variable {K : Type} [Lean.Grind.Field K]
noncomputable def padd : Option (K × K) → Option (K × K) → Option (K × K)
 | none, R => R
 | some P, none => some P
 | some (x1, y1), some (x2, y2) =>
  if x1 = x2 then
   if y1 ≠ y2 ∨ y1 = 0 then none
   else
    let m := 3 * (x1 * x1) * (2 * y1)⁻¹
    let x := m * m - x1 - x2
    some (x, m * (x1 - x) - y1)
  else
   let m := (y2 - y1) * (x2 - x1)⁻¹
   let x := m * m - x1 - x2
   some (x, m * (x1 - x) - y1)
noncomputable def dbl3 (a : K × K × K) : K × K × K :=
 let (x, y, z) := a
 let W := 3 * x * x
 let S := y * z
 let B := x * y * S
 let H := W * W - 8 * B
 let S2 := S * S
 (2 * H * S, W * (4 * B - H) - 8 * y * y * S2, 8 * S * S2)
noncomputable def add3 (a b : K × K × K) : K × K × K :=
 let (x1, y1, z1) := a
 let (x2, y2, z2) := b
 if z1 = 0 ∨ z2 = 0 then (if z2 = 0 then a else b)
 else
  let U1 := y2 * z1
  let U2 := y1 * z2
  let V1 := x2 * z1
  let V2 := x1 * z2
  if V1 = V2 ∧ U1 = U2 then dbl3 a
  else if V1 = V2 then (1, 1, 0)
  else
   let U := U1 - U2
   let V := V1 - V2
   let Vs := V * V
   let VsV2 := Vs * V2
   let Vc := V * Vs
   let W := z1 * z2
   let A := U * U * W - Vc - 2 * VsV2
   (V * A, U * (VsV2 - A) - Vc * U2, Vc * W)
noncomputable def rd3 (a : K × K × K) : Option (K × K) := if a.2.2 = 0 then none else some (a.1 * a.2.2⁻¹, a.2.1 * a.2.2⁻¹)
noncomputable def onC (c : K) : Option (K × K) → Prop
 | none => True
 | some (x, y) => y * y = x * (x * x) + c
theorem f_mul_ne {a b : K} (ha : a ≠ 0) (hb : b ≠ 0) : a * b ≠ 0 := by grind
theorem f_ne {a b : K} (h : a ≠ b) : a - b ≠ 0 := by grind
theorem f_cancel {a b c : K} (h : c ≠ 0) (e : a * c = b * c) : a = b := by grind
theorem f_div {a b z : K} (h : z ≠ 0) (e : a = b * z) : a * z⁻¹ = b := by grind
theorem rd3_eq {x y z a b : K} (hz : z ≠ 0) (h1 : x = a * z) (h2 : y = b * z) : rd3 (x, y, z) = some (a, b) := by
 unfold rd3
 rw [if_neg hz]
 show some (x * z⁻¹, y * z⁻¹) = _
 rw [f_div hz h1, f_div hz h2]
theorem rd3_inf {x y z : K} (hz : z = 0) : rd3 (x, y, z) = none := by unfold rd3; rw [if_pos hz]
theorem rd3_ex {x y z : K} (hz : z ≠ 0) : ∃ a b, x = a * z ∧ y = b * z ∧ rd3 (x, y, z) = some (a, b) := by
 refine ⟨x * z⁻¹, y * z⁻¹, ?_, ?_, ?_⟩
 ·grind
 ·grind
 ·unfold rd3; rw [if_neg hz]
theorem padd_opp {x y1 y2 : K} (h : y1 ≠ y2 ∨ y1 = 0) : padd (some (x, y1)) (some (x, y2)) = none := by
 unfold padd; dsimp only; rw [if_pos rfl, if_pos h]
theorem padd_tan {x y m : K} (h2 : (2 : K) ≠ 0) (h : y ≠ 0) (hm : m * (2 * y) = 3 * (x * x)) : padd (some (x, y)) (some (x, y)) = some (m * m - x - x, m * (x - (m * m - x - x)) - y) := by
 haveI e : 3 * (x * x) * (2 * y)⁻¹ = m := f_div (f_mul_ne h2 h) hm.symm
 unfold padd; dsimp only; rw [if_pos rfl, if_neg (by grind), e]
theorem padd_sec {x1 y1 x2 y2 m : K} (h : x1 ≠ x2) (hm : m * (x2 - x1) = y2 - y1) : padd (some (x1, y1)) (some (x2, y2)) = some (m * m - x1 - x2, m * (x1 - (m * m - x1 - x2)) - y1) := by
 haveI e : (y2 - y1) * (x2 - x1)⁻¹ = m := f_div (by grind) hm.symm
 unfold padd; dsimp only; rw [if_neg h, e]
theorem tan_ex (h2 : (2 : K) ≠ 0) {x y : K} (h : y ≠ 0) : ∃ m, m * (2 * y) = 3 * (x * x) := ⟨3 * (x * x) * (2 * y)⁻¹, by have := f_mul_ne h2 h; grind⟩
theorem sec_ex {x1 y1 x2 y2 : K} (h : x1 ≠ x2) : ∃ m, m * (x2 - x1) = y2 - y1 := ⟨(y2 - y1) * (x2 - x1)⁻¹, by grind⟩
theorem padd_none (P : Option (K × K)) : padd P none = P := by cases P <;> rfl
theorem none_padd (P : Option (K × K)) : padd none P = P := by cases P <;> rfl
theorem dbl_ok (h2 : (2 : K) ≠ 0) {x y z a b : K} (hz : z ≠ 0) (h1 : x = a * z) (hb : y = b * z) : rd3 (dbl3 (x, y, z)) = padd (some (a, b)) (some (a, b)) := by
 subst h1 hb
 by_cases h : b = 0
 ·rw [padd_opp (.inr h)]
  refine rd3_inf ?_
  subst h
  grind
 ·obtain ⟨m, hm⟩ := tan_ex h2 (x := a) h
  rw [padd_tan h2 h hm]
  refine rd3_eq ?_ ?_ ?_
  ·haveI h8 : (8 : K) ≠ 0 := by
    haveI : (8 : K) = 2 * (2 * 2) := by grind
    rw [this]
    exact f_mul_ne h2 (f_mul_ne h2 h2)
   haveI hs : b * z * z ≠ 0 := f_mul_ne (f_mul_ne h hz) hz
   exact f_mul_ne (f_mul_ne h8 hs) (f_mul_ne hs hs)
  ·show 2 * (3 * (a * z) * (a * z) * (3 * (a * z) * (a * z)) - 8 * (a * z * (b * z) * (b * z * z))) * (b * z * z) = (m * m - a - a) * (8 * (b * z * z) * (b * z * z * (b * z * z)))
   grind
  ·show 3 * (a * z) * (a * z) * (4 * (a * z * (b * z) * (b * z * z)) - (3 * (a * z) * (a * z) * (3 * (a * z) * (a * z)) - 8 * (a * z * (b * z) * (b * z * z)))) - 8 * (b * z) * (b * z) * (b * z * z * (b * z * z)) = (m * (a - (m * m - a - a)) - b) * (8 * (b * z * z) * (b * z * z * (b * z * z)))
   grind
theorem dbl_inf {x y : K} : rd3 (dbl3 (x, y, (0 : K))) = none := rd3_inf (by show 8 * (y * 0) * (y * 0 * (y * 0)) = 0; grind)
theorem dbl_rd (h2 : (2 : K) ≠ 0) (a : K × K × K) : rd3 (dbl3 a) = padd (rd3 a) (rd3 a) := by
 obtain ⟨x, y, z⟩ := a
 by_cases hz : z = 0
 ·subst hz; rw [dbl_inf, rd3_inf rfl]; rfl
 ·obtain ⟨a, b, h1, hb, e⟩ := (rd3_ex (x := x) (y := y) hz)
  rw [e, dbl_ok h2 hz h1 hb]
theorem sec_x {m a1 a2 z1 z2 U V : K} (hU : U = m * (a2 - a1) * (z1 * z2)) (hV : V = (a2 - a1) * (z1 * z2)) : V * (U * U * (z1 * z2) - V * (V * V) - 2 * (V * V * (a1 * z1 * z2))) = (m * m - a1 - a2) * (V * (V * V) * (z1 * z2)) := by
 rw [hU, hV]; clear hU hV; grind
theorem sec_y {m a1 a2 b1 z1 z2 U V : K} (hU : U = m * (a2 - a1) * (z1 * z2)) (hV : V = (a2 - a1) * (z1 * z2)) : U * (V * V * (a1 * z1 * z2) - (U * U * (z1 * z2) - V * (V * V) - 2 * (V * V * (a1 * z1 * z2)))) - V * (V * V) * (b1 * z1 * z2) = (m * (a1 - (m * m - a1 - a2)) - b1) * (V * (V * V) * (z1 * z2)) := by
 rw [hU, hV]; clear hU hV; grind
theorem sec_u {m a1 a2 b1 b2 z1 z2 : K} (hm : m * (a2 - a1) = b2 - b1) : b2 * z2 * z1 - b1 * z1 * z2 = m * (a2 - a1) * (z1 * z2) := by rw [hm]; grind
theorem sec_v {a1 a2 z1 z2 : K} : a2 * z2 * z1 - a1 * z1 * z2 = (a2 - a1) * (z1 * z2) := by grind
theorem add_rd (h2 : (2 : K) ≠ 0) (a b : K × K × K) : rd3 (add3 a b) = padd (rd3 a) (rd3 b) := by
 obtain ⟨x1, y1, z1⟩ := a
 obtain ⟨x2, y2, z2⟩ := b
 by_cases hz1 : z1 = 0
 ·rw [rd3_inf hz1, none_padd]
  refine (congrArg rd3 (if_pos (.inl hz1))).trans ?_
  by_cases hz2 : z2 = 0
  ·exact (congrArg rd3 (if_pos hz2)).trans ((rd3_inf hz1).trans (rd3_inf hz2).symm)
  ·exact congrArg rd3 (if_neg hz2)
 ·by_cases hz2 : z2 = 0
  ·rw [rd3_inf hz2, padd_none]
   exact (congrArg rd3 (if_pos (.inr hz2))).trans (congrArg rd3 (if_pos hz2))
  ·obtain ⟨a1, b1, rfl, rfl, e1⟩ := (rd3_ex (x := x1) (y := y1) hz1)
   obtain ⟨a2, b2, rfl, rfl, e2⟩ := (rd3_ex (x := x2) (y := y2) hz2)
   rw [e1, e2]
   haveI hzz : z1 * z2 ≠ 0 := f_mul_ne hz1 hz2
   haveI cx : ∀ {a b : K}, a * z2 * z1 = b * z1 * z2 → b = a := fun {a b} q => f_cancel hzz (by grind)
   haveI xc : ∀ a : K, a * z2 * z1 = a * z1 * z2 := fun a => by grind
   refine (congrArg rd3 (if_neg fun q => q.elim hz1 hz2)).trans ?_
   by_cases ha : a1 = a2
   ·subst ha
    by_cases hb : b1 = b2
    ·subst hb
     exact (congrArg rd3 (if_pos ⟨xc _, xc _⟩)).trans (dbl_ok h2 hz1 rfl rfl)
    ·exact (congrArg rd3 (if_neg fun q => hb (cx q.2))).trans ((congrArg rd3 (if_pos (xc _))).trans ((rd3_inf rfl).trans (padd_opp (.inl hb)).symm))
   ·have hv : a2 * z2 * z1 ≠ a1 * z1 * z2 := fun q => ha (cx q)
    obtain ⟨m, hm⟩ := sec_ex (y1 := b1) (y2 := b2) ha
    haveI hV : a2 * z2 * z1 - a1 * z1 * z2 ≠ 0 := f_ne hv
    refine (congrArg rd3 (if_neg fun q => hv q.1)).trans ((congrArg rd3 (if_neg hv)).trans (Eq.trans ?_ (padd_sec ha hm).symm))
    exact rd3_eq (f_mul_ne (f_mul_ne hV (f_mul_ne hV hV)) hzz) (sec_x (sec_u hm) sec_v) (sec_y (sec_u hm) sec_v)
end
end
section
open Classical
section
variable {K : Type} [Lean.Grind.Field K]
theorem on_padd (h2 : (2 : K) ≠ 0) {c : K} {P R : Option (K × K)} (hP : onC c P) (hR : onC c R) : onC c (padd P R) := by
 match P, R, hP, hR with
 | none, R, _, h => rw [none_padd]; exact h
 | some P, none, h, _ => exact h
 | some (x1, y1), some (x2, y2), h1, h2' =>
  haveI h1 : y1 * y1 = x1 * (x1 * x1) + c := h1
  haveI h2' : y2 * y2 = x2 * (x2 * x2) + c := h2'
  by_cases hx : x1 = x2
  ·subst hx
   by_cases hy : y1 ≠ y2 ∨ y1 = 0
   ·rw [padd_opp hy]; trivial
   ·haveI hy1 : y1 = y2 := Classical.byContradiction fun q => hy (.inl q)
    haveI hy0 : y1 ≠ 0 := fun q => hy (.inr q)
    subst hy1
    obtain ⟨m, hm⟩ := tan_ex h2 (x := x1) hy0
    rw [padd_tan h2 hy0 hm]
    show (m * (x1 - (m * m - x1 - x1)) - y1) * (m * (x1 - (m * m - x1 - x1)) - y1) = (m * m - x1 - x1) * ((m * m - x1 - x1) * (m * m - x1 - x1)) + c
    grind
  ·obtain ⟨m, hm⟩ := sec_ex (y1 := y1) (y2 := y2) hx
   rw [padd_sec hx hm]
   haveI key : m * (y2 + y1) = x2 * x2 + x1 * x2 + x1 * x1 := by
    refine f_cancel (c := x2 - x1) (f_ne (Ne.symm hx)) ?_
    grind
   show (m * (x1 - (m * m - x1 - x2)) - y1) * (m * (x1 - (m * m - x1 - x2)) - y1) = (m * m - x1 - x2) * ((m * m - x1 - x2) * (m * m - x1 - x2)) + c
   grind
theorem four_c {x y m x2 y2 : K} (hm : m * (2 * y) = 3 * (x * x)) (hX : m * m - x - x = x2) (hY : m * (x - x2) - y = y2) : y2 * y2 - x2 * (x2 * x2) = y * y - x * (x * x) := by
 subst hY; subst hX; grind
theorem four_k {x y l x2 y2 : K} (hl : l * (x - x2) = y - y2) (hc : y2 * y2 - x2 * (x2 * x2) = y * y - x * (x * x)) : l * (y + y2) * (x - x2) = (x * x + x * x2 + x2 * x2) * (x - x2) := by
 grind
theorem four_l {x y m l x2 y2 : K} (hm : m * (2 * y) = 3 * (x * x)) (hX : m * m - x - x = x2) (hY : m * (x - x2) - y = y2) (k1 : l * (y + y2) = x * x + x * x2 + x2 * x2) (hx3 : l * l - x2 - x = x) : l * (2 * y) = 3 * (x * x) := by
 grind
theorem four_u1 {y2 m l d e : K} (r2 : 2 * y2 = (m - l) * d) (he : e * (m - l) = d) : (e - m) * ((m - l) * d) = d * d - m * (2 * y2) := by
 rw [r2, ← he]; grind
theorem four_u2 {x y m d : K} (hm : m * (2 * y) = 3 * (x * x)) : m * (2 * (m * d - y)) = 2 * (m * m) * d - 3 * (x * x) := by
 rw [← hm]; grind
theorem four_u {x y y2 m l x2 e : K} (hm : m * (2 * y) = 3 * (x * x)) (hX : m * m - x - x = x2) (hY : m * (x - x2) - y = y2) (r2 : 2 * y2 = (m - l) * (x - x2)) (he : e * (m - l) = x - x2) : 3 * (x2 * x2) = (e - m) * ((m - l) * (x - x2)) := by
 haveI hM : m * m = x2 + x + x := by rw [← hX]; clear hX hY hm r2 he; grind
 rw [four_u1 r2 he, ← hY, four_u2 hm, hM]
 clear hM hX hY hm r2 he
 grind
theorem four_n {x y y2 m l x2 e : K} (r1 : 2 * y = (m + l) * (x - x2)) (r2 : 2 * y2 = (m - l) * (x - x2)) (r3 : x - (l * l - x2 - x) = (m - l) * (m + l)) (he : e * (m - l) = x - x2) : 2 * (y - (l * (x2 - (l * l - x2 - x)) - y2)) = (e - l) * (2 * ((m - l) * (m + l))) := by
 haveI t1 : x2 - (l * l - x2 - x) = (m - l) * (m + l) - (x - x2) := by rw [← r3]; grind
 rw [t1]
 clear t1 r3
 generalize x - x2 = d at *
 grind
theorem four (h2 : (2 : K) ≠ 0) (h3 : (3 : K) ≠ 0) (P : Option (K × K)) : padd (padd P P) (padd P P) = padd (padd (padd P P) P) P := by
 refine opt_e P ?_ fun x y => ?_
 ·rfl
 ·by_cases hy : y = 0
  ·rw [padd_opp (.inr hy), none_padd, none_padd, padd_opp (.inr hy)]
  ·obtain ⟨m, hm⟩ := tan_ex h2 (x := x) hy
   rw [padd_tan h2 hy hm]
   by_cases hx2 : m * m - x - x = x
   ·-- the double is the opposite
    haveI hy2 : m * (x - (m * m - x - x)) - y = -y := by rw [hx2]; grind
    rw [hx2]
    haveI hy2 : m * (x - x) - y = -y := by grind
    rw [hy2]
    rw [padd_opp (x := x) (y1 := -y) (y2 := y) (.inl (by intro q; apply hy; refine f_cancel h2 ?_; grind)), none_padd]
    haveI hm' : (-m) * (2 * -y) = 3 * (x * x) := by grind
    rw [padd_tan h2 (by grind) hm']
    haveI e1 : -m * -m - x - x = x := by grind
    rw [e1]
    congr 1
    congr 1
    grind
   ·obtain ⟨l, hl⟩ := sec_ex (x1 := m * m - x - x) (y1 := m * (x - (m * m - x - x)) - y) (x2 := x) (y2 := y) hx2
    rw [padd_sec hx2 hl]
    generalize hX2 : m * m - x - x = x2 at *
    generalize hY2 : m * (x - x2) - y = y2 at *
    haveI hd : x - x2 ≠ 0 := f_ne (Ne.symm hx2)
    by_cases hx3 : l * l - x2 - x = x
    ·haveI hlm : l * (2 * y) = 3 * (x * x) := by
      haveI k1 : l * (y + y2) = x * x + x * x2 + x2 * x2 := by
       exact f_cancel hd (four_k hl (four_c hm hX2 hY2))
      exact four_l hm hX2 hY2 k1 hx3
     haveI hlm' : l = m := f_cancel (f_mul_ne h2 hy) (by rw [hlm, hm])
     subst hlm'
     have hy20 : y2 = 0 := f_cancel h2 (by grind)
     rw [padd_opp (x := x2) (.inr hy20)]
     rw [hx3]
     rw [padd_opp]
     left
     intro q
     apply hy
     refine f_cancel h2 ?_
     grind
    ·obtain ⟨n, hn⟩ := sec_ex (x1 := l * l - x2 - x) (y1 := l * (x2 - (l * l - x2 - x)) - y2) (x2 := x) (y2 := y) hx3
     rw [padd_sec hx3 hn]
     have hy2 : y2 ≠ 0 := fun q => hx3 (by
      haveI : l = m := f_cancel hd (by grind)
      subst this
      grind)
     obtain ⟨u, hu⟩ := tan_ex h2 (x := x2) hy2
     rw [padd_tan h2 hy2 hu]
     haveI r1 : 2 * y = (m + l) * (x - x2) := by grind
     haveI r2 : 2 * y2 = (m - l) * (x - x2) := by grind
     haveI r3 : x - (l * l - x2 - x) = (m - l) * (m + l) := by grind
     haveI hp : m + l ≠ 0 := fun q => f_mul_ne h2 hy (by rw [r1, q]; grind)
     have hq : m - l ≠ 0 := fun q => f_mul_ne h2 hy2 (by rw [r2, q]; grind)
     obtain ⟨e, he⟩ : ∃ e, e * (m - l) = x - x2 := ⟨(x - x2) * (m - l)⁻¹, by grind⟩
     haveI hn' : n = e - l := by
      refine f_cancel (f_mul_ne h2 (f_mul_ne hq hp)) ?_
      haveI : n * (2 * ((m - l) * (m + l))) = 2 * (n * (x - (l * l - x2 - x))) := by rw [r3]; grind
      rw [this, hn]
      exact four_n r1 r2 r3 he
     haveI hu' : u = e - m := by
      refine f_cancel (f_mul_ne hq hd) ?_
      haveI e1 : u * ((m - l) * (x - x2)) = 3 * (x2 * x2) := by rw [← r2, hu]
      rw [e1]
      exact four_u hm hX2 hY2 r2 he
     subst hn' hu'
     haveI k : (e - m) * (e - m) - x2 - x2 = (e - l) * (e - l) - (l * l - x2 - x) - x := by grind
     rw [k]
     congr 1
     congr 1
     refine f_cancel h2 ?_
     grind
end
end
section
open Classical
noncomputable def Rm (p n : Int) : Prop := 0 ≤ n ∧ n < p
noncomputable def vl (l : List Int) : List V := l.map V.int
noncomputable def pr {p : Int} (x : Q p) : V := .tup [.int x.x.a, .int x.x.b]
noncomputable def fpv {p : Int} (x : Q p) : V := .fp x.x p
noncomputable def ww {p : Int} : Q p := mk' ⟨1, 1⟩
noncomputable def mono0 {p : Int} (j : Nat) (x : Q p) : List Int := (List.range 12).map fun k => if k = j then (x.x.a - x.x.b) % p else if k = j + 6 then x.x.b else 0
noncomputable def mono {p : Int} (i : Nat) (x : Q p) : List Int := mono0 (i % 6) (qMul x (qPow ww (i / 6)))
noncomputable def ev {p : Int} (t : Bool) (i : Nat) (x : Q p) : V := match t with | false => .e2 x.x p | true => .e12 (mono i x) p
noncomputable def pj {p : Int} (t : Bool) (i j k : Nat) (a : Q p × Q p × Q p) : V := .tup [ev t i a.1, ev t j a.2.1, ev t k a.2.2]
noncomputable def ptV {p : Int} : Option (Q p × Q p) → V
 | none => .none
 | some (x, y) => .tup [pr x, pr y]
noncomputable def plV {p : Int} : Option (Q p × Q p) → V
 | none => .none
 | some (x, y) => .tup [fpv x, fpv y]
noncomputable def mc2 : V := .tup [.int 1, .int 0]
noncomputable def mc12 : V := .tup [.int 2, .int 0, .int 0, .int 0, .int 0, .int 0, .int (-2), .int 0, .int 0, .int 0, .int 0, .int 0]
noncomputable def znum (p : Int) (U : V) (m : Int) : Prop := U = .int m ∨ (U = .fq m p ∧ Rm p m)
noncomputable def deg3 (a b c : Int) : Int := if c = 0 then (if b = 0 then 0 else 1) else 2
noncomputable def QW (U : V) (p m : Int) : Prop := (∃ i, U = .int i ∧ 0 < p ∧ m = i % p) ∨ ∃ q, U = .fq m q
noncomputable def itV (W : V) (l : List V) : Prop := W = .lst l ∨ W = .tup l
noncomputable def qadd {p : Int} (hp : Pr p) (P R : Option (Q p × Q p)) : Option (Q p × Q p) := @padd (Q p) (fieldQ p hp) P R
noncomputable def qneg {p : Int} (P : Option (Q p × Q p)) : Option (Q p × Q p) := match P with | none => none | some (x, y) => some (x, qSub (qInt 0) y)
noncomputable def qmulti {p : Int} (hp : Pr p) (P : Option (Q p × Q p)) : Nat → Option (Q p × Q p)
 | 0 => none
 | n + 1 => qadd hp (qmulti hp P n) P
noncomputable def qdbl3 {p : Int} (hp : Pr p) (a : Q p × Q p × Q p) : Q p × Q p × Q p := @dbl3 (Q p) (fieldQ p hp) a
noncomputable def qadd3 {p : Int} (hp : Pr p) (a b : Q p × Q p × Q p) : Q p × Q p × Q p := @add3 (Q p) (fieldQ p hp) a b
noncomputable def qrd3 {p : Int} (hp : Pr p) (a : Q p × Q p × Q p) : Option (Q p × Q p) := @rd3 (Q p) (fieldQ p hp) a
noncomputable def qmF {p : Int} (hp : Pr p) : Nat → Q p × Q p × Q p → Nat → Q p × Q p × Q p
 | 0, _, _ => (qInt 1, qInt 1, qInt 0)
 | f + 1, a, n => match n with
  | 0 => (qInt 1, qInt 1, qInt 0)
  | 1 => a
  | n + 2 => if n % 2 = 0 then qmF hp f (qdbl3 hp a) ((n + 2) / 2) else qadd3 hp (qmF hp f (qdbl3 hp a) ((n + 2) / 2)) a
noncomputable def qmul3 {p : Int} (hp : Pr p) (a : Q p × Q p × Q p) (n : Nat) : Q p × Q p × Q p := qmF hp n a n
noncomputable def qcube {p : Int} (c x : Q p) : Q p := qAdd (qMul x (qMul x x)) c
noncomputable def onQ {p : Int} (c : Q p) (P : Option (Q p × Q p)) : Prop := match P with | none => True | some (x, y) => qMul y y = qcube c x
noncomputable def on3 {p : Int} (c : Q p) (a : Q p × Q p × Q p) : Prop := a.2.2 = qInt 0 ∨ qSub (qMul (qMul a.2.1 a.2.1) a.2.2) (qMul (qMul a.1 a.1) a.1) = qMul c (qMul (qMul a.2.2 a.2.2) a.2.2)
noncomputable def eq3 {p : Int} (a b : Q p × Q p × Q p) : Prop := qMul a.1 b.2.2 = qMul b.1 a.2.2 ∧ qMul a.2.1 b.2.2 = qMul b.2.1 a.2.2
noncomputable def form {p : Int} (P : Option (Q p × Q p)) (sc : Q p) : Q p × Q p × Q p := match P with
 | none => (sc, qInt 1, qInt 0)
 | some (x, y) => (qMul x sc, qMul y sc, sc)
noncomputable def Bo (P : Prop) : V := .bool (decide P)
inductive Sp (p : Int) (hp : Pr p) : Nat → Fn → List V → (V → Prop) → Prop
 | pfi {n} (h : 1 ≤ n) (a : Int) : Sp p hp n .pfi [.int a, .int p] (· = .int (nInv p a))
 | cFQ {n} (h : 1 ≤ n) {U m} (hu : QW U p m) : Sp p hp n .cFQ [U, .int p] (· = .fq m p)
 | cFP {n} (h : 4 ≤ n) {W U1 U2} (x : Q p) (hw : itV W [U1, U2]) (h1 : QW U1 p x.x.a) (h2 : QW U2 p x.x.b) : Sp p hp n .cFP [W, mc2, .int p] (· = fpv x)
 | cFQ2 {n} (h : 2 ≤ n) {W} (f : F) (hw : itV W [.int f.a, .int f.b]) : Sp p hp n .cFQ2 [W, mc2, .int p] (· = .e2 (mk' f : Q p).x p)
 | cOPT {n} (h : 2 ≤ n) {W} (l : List Int) (hl : l.length = 12) (hw : itV W (vl l)) : Sp p hp n .cOPT [W, mc12, .int p] (· = .e12 (l.map (· % p)) p)
 | qEq {n} (h : 1 ≤ n) {a U m} (hu : znum p U m) : Sp p hp n .qEq [.fq a p, U] (· = Bo (a = m))
 | qNe {n} (h : 2 ≤ n) {a m} (hm : Rm p m) : Sp p hp n .qNe [.fq a p, .fq m p] (· = Bo (a ≠ m))
 | qMade {n} (h : 2 ≤ n) {a i} : Sp p hp n .qMade [.fq a p, .int i] (· = .fq (i % p) p)
 | qNeg {n} (h : 3 ≤ n) {a} : Sp p hp n .qNeg [.fq a p] (· = .fq (-a % p) p)
 | qInt {n} (h : 1 ≤ n) {a} : Sp p hp n .qInt [.fq a p] (· = .int a)
 | qAdd {n} (h : 3 ≤ n) {a U m} (hu : znum p U m) : Sp p hp n .qAdd [.fq a p, U] (· = .fq ((a + m) % p) p)
 | qSub {n} (h : 3 ≤ n) {a U m} (hu : znum p U m) : Sp p hp n .qSub [.fq a p, U] (· = .fq ((a - m) % p) p)
 | qMul {n} (h : 3 ≤ n) {a U m} (ha : Rm p a) (hu : znum p U m) : Sp p hp n .qMul [.fq a p, U] (· = .fq (a * m % p) p)
 | qRmul {n} (h : 4 ≤ n) {a m} (ha : Rm p a) : Sp p hp n .qRmul [.fq a p, .int m] (· = .fq (a * m % p) p)
 | qRsub {n} (h : 3 ≤ n) {a m} : Sp p hp n .qRsub [.fq a p, .int m] (· = .fq ((m - a) % p) p)
 | qDiv {n} (h : 3 ≤ n) {a U m} (ha : Rm p a) (hu : znum p U m) : Sp p hp n .qDiv [.fq a p, U] (· = .fq (a * nInv p m % p) p)
 | qRdiv {n} (h : 3 ≤ n) {a m} : Sp p hp n .qRdiv [.fq a p, .int m] (· = .fq (nInv p a * m % p) p)
 | deg {n} (h : 2 ≤ n) {W U1 U2 U3 a b c} (hw : itV W [U1, U2, U3]) (h1 : znum p U1 a) (h2 : znum p U2 b) (h3 : znum p U3 c) : Sp p hp n .deg [W] (· = .int (deg3 a b c))
 | fFqc {n} (h : 2 ≤ n) {x : Q p} {i} : Sp p hp n .fFqc [fpv x, .int i] (· = .fq (i % p) p)
 | fMade {n} (h : 5 ≤ n) {x : Q p} {W U1 U2} (y : Q p) (hw : itV W [U1, U2]) (h1 : QW U1 p y.x.a) (h2 : QW U2 p y.x.b) : Sp p hp n .fMade [fpv x, W] (· = fpv y)
 | fAdd {n} (h : 6 ≤ n) {x y : Q p} : Sp p hp n .fAdd [fpv x, fpv y] (· = fpv (qAdd x y))
 | fSub {n} (h : 6 ≤ n) {x y : Q p} : Sp p hp n .fSub [fpv x, fpv y] (· = fpv (qSub x y))
 | fMul {n} (h : 6 ≤ n) {x y : Q p} : Sp p hp n .fMul [fpv x, fpv y] (· = fpv (qMul x y))
 | fMulI {n} (h : 6 ≤ n) {x : Q p} {i : Int} : Sp p hp n .fMul [fpv x, .int i] (· = fpv (qMul x (qInt i)))
 | fRmul {n} (h : 7 ≤ n) {x : Q p} {i : Int} : Sp p hp n .fRmul [fpv x, .int i] (· = fpv (qMul x (qInt i)))
 | fDivI {n} (h : 6 ≤ n) {x : Q p} {i : Int} : Sp p hp n .fDiv [fpv x, .int i] (· = fpv (qMul x (qInt (nInv p i))))
 | prd1 {n} (h : 4 ≤ n) {a b : Int} (ha : Rm p a) (hb : Rm p b) (h0 : b ≠ 0) : Sp p hp n .prd [.lst [.int 1, .int 0, .int 1], .lst [.fq a p, .fq b p, .int 0]] (· = .tup [.int 0, .int (nInv p b)])
 | prd2 {n} (h : 4 ≤ n) {a b l : Int} (ha : Rm p a) (hb : Rm p b) (hl : Rm p l) (hb0 : b ≠ 0) (hl0 : l ≠ 0) : Sp p hp n .prd [.lst [.fq a p, .fq b p, .int 0], .lst [.fq 1 p, .fq l p, .fq 0 p]] (· = .tup [.int (b * nInv p l % p)])
 | fInv {n} (h : 7 ≤ n) {x : Q p} (hx : x ≠ qInt 0) : Sp p hp n .fInv [fpv x] (· = fpv (qInv x))
 | fDiv {n} (h : 8 ≤ n) {x y : Q p} (hy : y ≠ qInt 0) : Sp p hp n .fDiv [fpv x, fpv y] (· = fpv (qMul x (qInv y)))
 | fPow1 {n} (h : 6 ≤ n) {x : Q p} : Sp p hp n .fPow [fpv x, .int 1] (· = fpv x)
 | fPow2 {n} (h : 7 ≤ n) {x : Q p} : Sp p hp n .fPow [fpv x, .int 2] (· = fpv (qMul x x))
 | fPow3 {n} (h : 7 ≤ n) {x : Q p} : Sp p hp n .fPow [fpv x, .int 3] (· = fpv (qMul (qMul x x) x))
 | fEq {n} (h : 3 ≤ n) {x y : Q p} : Sp p hp n .fEq [fpv x, fpv y] (· = Bo (x = y))
 | fNeg {n} (h : 6 ≤ n) {x : Q p} : Sp p hp n .fNeg [fpv x] (· = fpv (qNeg x))
 | tMade {n} (h : 3 ≤ n) {x : Q p} {W} (f : F) (hw : itV W [.int f.a, .int f.b]) : Sp p hp n .tMade [.e2 x.x p, W] (· = .e2 (mk' f : Q p).x p)
 | oMade {n} (h : 3 ≤ n) {cs : List Int} {W} (l : List Int) (hl : l.length = 12) (hw : itV W (vl l)) : Sp p hp n .oMade [.e12 cs p, W] (· = .e12 (l.map (· % p)) p)
 | oAdd {n} (h : 4 ≤ n) {t i} {x y : Q p} : Sp p hp n .oAdd [ev t i x, ev t i y] (· = ev t i (qAdd x y))
 | oSub {n} (h : 4 ≤ n) {t i} {x y : Q p} : Sp p hp n .oSub [ev t i x, ev t i y] (· = ev t i (qSub x y))
 | oMul {n} (h : 4 ≤ n) {t i j} {x y : Q p} : Sp p hp n .oMul [ev t i x, ev t j y] (· = ev t (i + j) (qMul x y))
 | oMulI {n} (h : 4 ≤ n) {t i} {x : Q p} {a : Int} (hs : Sm a) : Sp p hp n .oMul [ev t i x, .int a] (· = ev t i (qMul (qInt a) x))
 | oRmul {n} (h : 5 ≤ n) {t i} {x : Q p} {a : Int} (hs : Sm a) : Sp p hp n .oRmul [ev t i x, .int a] (· = ev t i (qMul (qInt a) x))
 | oDivI {n} (h : 4 ≤ n) {x : Q p} {a : Int} : Sp p hp n .oDiv [.e2 x.x p, .int a] (· = .e2 (qMul x (qInt (nInv p a))).x p)
 | oOprd1 {n} (h : 3 ≤ n) {x : Q p} {a b : Int} (ha : Rm p a) (hb : Rm p b) (h0 : b ≠ 0) : Sp p hp n .oOprd [.e2 x.x p, .lst [.int 1, .int 0, .int 1], .lst [.int a, .int b, .int 0]] (· = .lst [.int 0, .int (nInv p b)])
 | oOprd2 {n} (h : 3 ≤ n) {x : Q p} {a b l : Int} (ha : Rm p a) (hb : Rm p b) (hl : Rm p l) (hb0 : b ≠ 0) (hl0 : l ≠ 0) : Sp p hp n .oOprd [.e2 x.x p, .lst [.int a, .int b, .int 0], .lst [.int 1, .int l, .int 0]] (· = .lst [.int (b * nInv p l % p)])
 | oInv {n} (h : 5 ≤ n) {x : Q p} (hx : x ≠ qInt 0) : Sp p hp n .oInv [.e2 x.x p] (· = .e2 (qInv x).x p)
 | oDiv {n} (h : 6 ≤ n) {x y : Q p} (hy : y ≠ qInt 0) : Sp p hp n .oDiv [.e2 x.x p, .e2 y.x p] (· = .e2 (qMul x (qInv y)).x p)
 | oPow2 {n} (h : 5 ≤ n) {x : Q p} : Sp p hp n .oPow [.e2 x.x p, .int 2] (· = .e2 (qMul x x).x p)
 | oPow3 {n} (h : 5 ≤ n) {x : Q p} : Sp p hp n .oPow [.e2 x.x p, .int 3] (· = .e2 (qMul (qMul x x) x).x p)
 | oEq {n} (h : 1 ≤ n) {t i} {x y : Q p} : Sp p hp n .oEq [ev t i x, ev t i y] (· = Bo (x = y))
 | oNeg {n} (h : 4 ≤ n) {x : Q p} : Sp p hp n .oNeg [.e2 x.x p] (· = .e2 (qNeg x).x p)
 | oOne {n} (h : 4 ≤ n) {t i} {x : Q p} : Sp p hp n .oOne [ev t i x] (· = ev t 0 (qInt 1 : Q p))
 | oZero {n} (h : 4 ≤ n) {t i} (j : Nat) {x : Q p} : Sp p hp n .oZero [ev t i x] (· = ev t j (qInt 0 : Q p))
 | isInf {n} (h : 5 ≤ n) {f t i j k} (hf : f = .isInf ∨ f = .isInf2) {a : Q p × Q p × Q p} : Sp p hp n f [pj t i j k a] (· = Bo (a.2.2 = qInt 0))
 | onC {n} (h : 6 ≤ n) {f} (hf : f = .onC ∨ f = .onC2) {a : Q p × Q p × Q p} {c : Q p} : Sp p hp n f [pj false 0 0 0 a, .e2 c.x p] (· = Bo (on3 c a))
 | dbl {n} (h : 6 ≤ n) {f t} (hf : f = .dbl ∨ f = .dbl2) {a : Q p × Q p × Q p} : Sp p hp n f [pj t 1 0 3 a] (· = pj t 7 6 9 (qdbl3 hp a))
 | add {n} (h : 7 ≤ n) {f t} (hf : f = .add ∨ f = .add2) {a b : Q p × Q p × Q p} : Sp p hp n f [pj t 1 0 3 a, pj t 1 0 3 b] (fun v => ∃ i j k, v = pj t i j k (qadd3 hp a b) ∧ (a.2.2 ≠ qInt 0 → b.2.2 ≠ qInt 0 → (qadd3 hp a b).2.2 ≠ qInt 0 → (i = 16 ∧ j = 15 ∧ k = 18) ∨ (i = 7 ∧ j = 6 ∧ k = 9)))
 | mul {n} {f} (hf : f = .mul ∨ f = .mul2) {a : Q p × Q p × Q p} (e : Nat) (h : 8 + e ≤ n) : Sp p hp n f [pj false 0 0 0 a, .int e] (· = pj false 0 0 0 (qmul3 hp a e))
 | eq {n} (h : 6 ≤ n) {f t i j k i' j' k'} (hf : f = .eq ∨ f = .eq2) {a b : Q p × Q p × Q p} (ht : t = false ∨ (i + k' = i' + k ∧ j + k' = j' + k)) : Sp p hp n f [pj t i j k a, pj t i' j' k' b] (· = Bo (eq3 a b))
 | norm {n} (h : 7 ≤ n) {f} (hf : f = .norm ∨ f = .norm2) {x y z : Q p} (hz : z ≠ qInt 0) : Sp p hp n f [pj false 0 0 0 (x, y, z)] (· = .tup [.e2 (qMul x (qInv z)).x p, .e2 (qMul y (qInv z)).x p])
 | neg {n} (h : 5 ≤ n) {f} (hf : f = .neg ∨ f = .neg2) {x y z : Q p} : Sp p hp n f [pj false 0 0 0 (x, y, z)] (· = pj false 0 0 0 (x, qNeg y, z))
 | twist {n} (h : 4 ≤ n) {a : Q p × Q p × Q p} {cs : List Int} : Sp p hp n .twist [pj false 0 0 0 a, .e12 cs p] (· = pj true 1 0 3 a)
 | pIsInf {n} (h : 1 ≤ n) {P : Option (Q p × Q p)} : Sp p hp n .pIsInf [plV P] (· = Bo (P = none))
 | pOnC {n} (h : 8 ≤ n) {P : Option (Q p × Q p)} {c : Q p} : Sp p hp n .pOnC [plV P, fpv c] (· = Bo (onQ c P))
 | pDbl {n} (h : 9 ≤ n) {P : Option (Q p × Q p)} (hy : ∀ x y, P = some (x, y) → y ≠ qInt 0) : Sp p hp n .pDbl [plV P] (· = plV (qadd hp P P))
 | pAdd {n} (h : 10 ≤ n) {P R : Option (Q p × Q p)} (hy : ∀ x y, P = some (x, y) → P = R → y ≠ qInt 0) : Sp p hp n .pAdd [plV P, plV R] (· = plV (qadd hp P R))
 | pMul {n} {P : Option (Q p × Q p)} (e : Nat) (h : 11 + e ≤ n) (he : e ≤ 3) (hy : ∀ x y, P = some (x, y) → 2 ≤ e → y ≠ qInt 0) : Sp p hp n .pMul [plV P, .int e] (· = plV (qmulti hp P e))
 | pEq {n} (h : 4 ≤ n) {x y x' y' : Q p} : Sp p hp n .pEq [plV (some (x, y)), plV (some (x', y'))] (· = Bo (x = x' ∧ y = y'))
 | pNeg {n} (h : 7 ≤ n) {P : Option (Q p × Q p)} : Sp p hp n .pNeg [plV P] (· = plV (qneg P))
 | lTimes {n} (h : 1 ≤ n) {x y : Q p} : Sp p hp n .lTimes [pr x, pr y, .int p] (· = pr (qMul x y))
 | lLess {n} (h : 1 ≤ n) {x y : Q p} : Sp p hp n .lLess [pr x, pr y, .int p] (· = pr (qSub x y))
 | lOver {n} (h : 2 ≤ n) {x y : Q p} : Sp p hp n .lOver [pr x, pr y, .int p] (· = pr (qMul x (qInv y)))
 | lRoot {n} (h : 2 ≤ n) {x : Q p} : Sp p hp n .lRoot [pr x, .int p] (fun v => v = .none ∨ ∃ y : Q p, v = pr y ∧ qMul y y = x)
 | lAdd {n} (h : 3 ≤ n) {P R : Option (Q p × Q p)} : Sp p hp n .lAdd [ptV P, ptV R, .int p] (· = ptV (qadd hp P R))
 | lNeg {n} (h : 2 ≤ n) {P : Option (Q p × Q p)} : Sp p hp n .lNeg [ptV P, .int p] (· = ptV (qneg P))
 | lMult {n} (h : 4 ≤ n) {P : Option (Q p × Q p)} (e : Nat) (he : e ≤ 60) : Sp p hp n .lMult [ptV P, .int e, .int p] (· = ptV (qmulti hp P e))
 | lCube {n} (h : 2 ≤ n) {x c : Q p} : Sp p hp n .lCube [pr x, pr c, .int p] (· = pr (qcube c x))
 | lPoint {n} (h : 3 ≤ n) {a : Int} {c : Q p} : Sp p hp n .lPoint [.int a, pr c, .int p] (fun v => v = .none ∨ ∃ x y : Q p, v = ptV (some (x, y)) ∧ qMul y y = qcube c x ∧ y ≠ qInt 0)
 | lForm {n} (h : 3 ≤ n) {P : Option (Q p × Q p)} {sc : Q p} : Sp p hp n .lForm [ptV P, pr sc, .int p] (· = pj false 0 0 0 (form P sc))
 | lPair {n} (h : 2 ≤ n) {U} {x : Q p} (hu : U = .e2 x.x p ∨ U = fpv x) : Sp p hp n .lPair [U] (· = pr x)
 | lRead {n} (h : 3 ≤ n) {a : Q p × Q p × Q p} : Sp p hp n .lRead [pj false 0 0 0 a, .int p] (· = ptV (qrd3 hp a))
 | lPlain {n} (h : 5 ≤ n) {P : Option (Q p × Q p)} : Sp p hp n .lPlain [ptV P, .int p] (· = plV P)
 | lPlainRead {n} (h : 3 ≤ n) {P : Option (Q p × Q p)} : Sp p hp n .lPlainRead [plV P] (· = ptV P)
 | lPrimes {n} (h : 1 ≤ n) : Sp p hp n .lPrimes [] (· = .lst (primes.map fun (q : Nat) => V.int (q : Int)))
 | lTwisted {n} (h : 9 ≤ n) {x1 y1 x2 y2 : Q p} : Sp p hp n .lTwisted [.lst [ptV (some (x1, y1)), ptV (some (x2, y2))], .int p] (· = .bool true)
 | lPlainRight {n} (h : 15 ≤ n) {c x y : Q p} {R : Option (Q p × Q p)} (e : Nat) (he : e ≤ 3) (hc : qMul y y = qcube c x) (hy : y ≠ qInt 0) : Sp p hp n .lPlainRight [.lst [ptV (some (x, y)), ptV R], pr c, .int e, .int p] (· = .bool true)
 | lOpt {n} (h : 14 ≤ n) {w : Int} (hw : w = 0 ∨ w = 1) {c x y s0 s1 : Q p} {R : Option (Q p × Q p)} {S : Q p × Q p × Q p} (e : Nat) (he : e ≤ 5) (hc : qMul y y = qcube c x) (hy : y ≠ qInt 0) (hR : onQ c R) (h0 : s0 ≠ qInt 0) (h1 : s1 ≠ qInt 0)
   (hS : S.2.2 = qInt 0 → S.1 ≠ qInt 0 ∨ S.2.1 ≠ qInt 0) : Sp p hp n .lOpt [.int w, .lst [ptV (some (x, y)), ptV R], pr c, .lst [pr s0, pr s1], pj false 0 0 0 S, .int e, .int p] (· = .bool true)
 | lTells {n} (h : 1 ≤ n) {a b : Bool} : Sp p hp n .lTells [.bool a, .bool b] (· = .bool (a == b))
theorem sm_mod {p : Int} (hp : Pr p) (e : Int) : Sm (e % p) := by
 have h0 := hp.ge
 have h1 : 0 ≤ e % p := Int.emod_nonneg _ (by omega)
 have h2 : e % p < p := Int.emod_lt_of_pos _ (by omega)
 unfold Sm; omega
end
local macro_rules | `(tactic| walk_at "sm") => `(tactic| first | exact sm_mod (by assumption) _ | (unfold Sm; omega))
local macro_rules | `(tactic| walk_at "side") => `(tactic| first | assumption | rfl | omega | walk_at "sm" | (left; walk_at "sm") | (right; walk_at "sm") | (simp; done))
local macro_rules | `(tactic| symm) => `(tactic| (repeat (refine And.intro (by walk_at "side") ?_)))
local macro_rules | `(tactic| walk_at "vc") => `(tactic| (symm; (try (conv => whnf))))
section
open Classical
noncomputable def TabS (p : Int) (hp : Pr p) (n : Nat) (T : Tab) : Prop := ∀ f args Post k, Sp p hp n f args Post → (∀ v, Post v → k v) → T f args k
theorem TabS.det {p : Int} {hp : Pr p} {n : Nat} {T : Tab} (H : TabS p hp n T) {f : Fn} {args : List V} {k : V → Prop} {v0 : V} (h : Sp p hp n f args (· = v0)) (hk : k v0) : T f args k := H f args _ k h fun v e => e ▸ hk
theorem TabS.detE {p : Int} {hp : Pr p} {n : Nat} {T : Tab} (H : TabS p hp n T) {f : Fn} {args : List V} {k : V → Prop} {v0 v1 : V} (h : Sp p hp n f args (· = v0)) (e : v0 = v1) (hk : k v1) : T f args k := H f args _ k h fun v q => (q.trans e) ▸ hk
theorem TabS.any {p : Int} {hp : Pr p} {n : Nat} {T : Tab} (H : TabS p hp n T) {f : Fn} {args : List V} {k : V → Prop} {Post : V → Prop} (h : Sp p hp n f args Post) (hk : ∀ v, Post v → k v) : T f args k := H f args _ k h hk
theorem dec_eq {P : Prop} (i j : Decidable P) : @decide P i = @decide P j := by rw [Subsingleton.elim i j]
theorem veq_int (a b : Int) : V.bool (veq 5 (.int a) (.int b)) = Bo (a = b) := congrArg V.bool (dec_eq _ _)
theorem veq_int_t {a b : Int} (h : a = b) : veq 5 (.int a) (.int b) = true := decide_eq_true h
theorem veq_int_f {a b : Int} (h : a ≠ b) : veq 5 (.int a) (.int b) = false := decide_eq_false h
theorem bo_pos {P : Prop} (h : P) : V.bool true = Bo P := congrArg V.bool (decide_eq_true h).symm
theorem bo_neg {P : Prop} (h : ¬ P) : V.bool false = Bo P := congrArg V.bool (decide_eq_false h).symm
theorem bo_not {P : Prop} (i : Decidable P) : V.bool (!@decide P i) = Bo (¬ P) := by
 by_cases h : P
 ·rw [decide_eq_true h]; exact bo_neg fun q => q h
 ·rw [decide_eq_false h]; exact bo_pos h
theorem br_t {b : Bool} {P R : Prop} (h : b = true) (hP : P) : br b P R := by subst h; exact hP
theorem br_f {b : Bool} {P R : Prop} (h : b = false) (hR : R) : br b P R := by subst h; exact hR
abbrev Vc (T : Tab) (ir : IS) (xt : List Str) (args : List V) (k : V → Prop) : Prop := wS T ir (ofArgs xt.length args) (fun J => k .none) k
section
variable {p : Int} {hp : Pr p} {n : Nat} {T : Tab} {k : V → Prop}
theorem vc_qMade (H : TabS p hp n T) (hn : 2 ≤ n + 1) {a i : Int} (hk : k (.fq (i % p) p)) : Vc T ir_qMade [] [.fq a p, .int i] k := by
 symm
 exact H.det (.cFQ (by omega) (.inl ⟨_, rfl, hp.pos, rfl⟩)) hk
theorem vc_qAdd (H : TabS p hp n T) (hn : 3 ≤ n + 1) {a m : Int} {U : V} (hu : znum p U m) (hk : k (.fq ((a + m) % p) p)) : Vc T ir_qAdd xt_qAdd [.fq a p, U] k := by
 haveI h0 := hp.pos
 rcases hu with rfl | ⟨rfl, _⟩
 ·symm
  exact H.det (.qMade (by omega)) (by rw [Int.emod_emod]; exact hk)
 ·symm
  exact H.det (.qMade (by omega)) (by rw [Int.emod_emod]; exact hk)
theorem vc_qSub (H : TabS p hp n T) (hn : 3 ≤ n + 1) {a m : Int} {U : V} (hu : znum p U m) (hk : k (.fq ((a - m) % p) p)) : Vc T ir_qSub xt_qSub [.fq a p, U] k := by
 haveI h0 := hp.pos
 rcases hu with rfl | ⟨rfl, _⟩
 ·symm
  exact H.det (.qMade (by omega)) (by rw [Int.emod_emod]; exact hk)
 ·symm
  exact H.det (.qMade (by omega)) (by rw [Int.emod_emod]; exact hk)
theorem vc_qMul (H : TabS p hp n T) (hn : 3 ≤ n + 1) {a m : Int} {U : V} (ha : Rm p a) (hu : znum p U m) (hk : k (.fq (a * m % p) p)) : Vc T ir_qMul xt_qMul [.fq a p, U] k := by
 haveI h0 := hp.ge
 unfold Rm at ha
 rcases hu with rfl | ⟨rfl, _⟩
 ·symm
  exact H.det (.qMade (by omega)) (by rw [Int.emod_emod]; exact hk)
 ·symm
  exact H.det (.qMade (by omega)) (by rw [Int.emod_emod]; exact hk)
theorem vc_qRmul (H : TabS p hp n T) (hn : 4 ≤ n + 1) {a m : Int} (ha : Rm p a) (hk : k (.fq (a * m % p) p)) : Vc T ir_qRmul [] [.fq a p, .int m] k := by
 symm
 exact H.det (.qMul (by omega) ha (.inl rfl)) hk
theorem vc_qRsub (H : TabS p hp n T) (hn : 3 ≤ n + 1) {a m : Int} (hk : k (.fq ((m - a) % p) p)) : Vc T ir_qRsub xt_qRsub [.fq a p, .int m] k := by
 have h0 := hp.pos
 symm
 exact H.det (.qMade (by omega)) (by rw [Int.emod_emod]; exact hk)
theorem nInv_rm {p : Int} (hp : Pr p) (a : Int) : Rm p (nInv p a) := ⟨Int.emod_nonneg _ (by have := hp.pos; omega), Int.emod_lt_of_pos _ hp.pos⟩
theorem vc_qDiv (H : TabS p hp n T) (hn : 3 ≤ n + 1) {a m : Int} {U : V} (ha : Rm p a) (hu : znum p U m) (hk : k (.fq (a * nInv p m % p) p)) : Vc T ir_qDiv xt_qDiv [.fq a p, U] k := by
 haveI h0 := hp.ge
 unfold Rm at ha
 rcases hu with rfl | ⟨rfl, _⟩
 ·symm
  refine H.det (.pfi (by omega) _) ?_
  symm
  exact H.det (.qMade (by omega)) (by rw [Int.emod_emod]; exact hk)
 ·symm
  refine H.det (.pfi (by omega) _) ?_
  symm
  exact H.det (.qMade (by omega)) (by rw [Int.emod_emod]; exact hk)
theorem vc_qRdiv (H : TabS p hp n T) (hn : 3 ≤ n + 1) {a m : Int} (hk : k (.fq (nInv p a * m % p) p)) : Vc T ir_qRdiv xt_qRdiv [.fq a p, .int m] k := by
 haveI h0 := hp.ge
 symm
 refine H.det (.pfi (by omega) _) ?_
 haveI h1 := nInv_rm hp a
 unfold Rm at h1
 symm
 exact H.det (.qMade (by omega)) (by rw [Int.emod_emod]; exact hk)
theorem vc_qEq (H : TabS p hp n T) {a m : Int} {U : V} (hu : znum p U m) (hk : k (Bo (a = m))) : Vc T ir_qEq [] [.fq a p, U] k := by
 rcases hu with rfl | ⟨rfl, _⟩
 ·walk_at "vc"
  rw [veq_int]; exact hk
 ·walk_at "vc"
  rw [veq_int]; exact hk
theorem vc_qNe (H : TabS p hp n T) (hn : 2 ≤ n + 1) {a m : Int} (hm : Rm p m) (hk : k (Bo (a ≠ m))) : Vc T ir_qNe [] [.fq a p, .fq m p] k := by
 symm
 refine H.det (.qEq (by omega) (.inr ⟨rfl, hm⟩)) ?_
 walk_at "vc"
 rw [bo_not]; exact hk
theorem vc_qNeg (H : TabS p hp n T) (hn : 3 ≤ n + 1) {a : Int} (hk : k (.fq (-a % p) p)) : Vc T ir_qNeg [] [.fq a p] k := by
 symm
 exact H.det (.qMade (by omega)) hk
theorem vc_qInt (H : TabS p hp n T) {a : Int} (hk : k (.int a)) : Vc T ir_qInt [] [.fq a p] k := by
 symm
 exact hk
theorem vc_fFqc (H : TabS p hp n T) (hn : 2 ≤ n + 1) {x : Q p} {i : Int} (hk : k (.fq (i % p) p)) : Vc T ir_fFqc [] [fpv x, .int i] k := by
 symm
 exact H.det (.cFQ (by omega) (.inl ⟨_, rfl, hp.pos, rfl⟩)) hk
theorem vc_fMade (H : TabS p hp n T) (hn : 5 ≤ n + 1) {x y : Q p} {W U1 U2 : V} (hw : itV W [U1, U2]) (h1 : QW U1 p y.x.a) (h2 : QW U2 p y.x.b) (hk : k (fpv y)) : Vc T ir_fMade [] [fpv x, W] k := by
 symm
 exact H.det (.cFP (by omega) y hw h1 h2) hk
theorem vc_tMade (H : TabS p hp n T) (hn : 3 ≤ n + 1) {x : Q p} {W : V} (f : F) (hw : itV W [.int f.a, .int f.b]) (hk : k (.e2 (mk' f : Q p).x p)) : Vc T ir_tMade [] [.e2 x.x p, W] k := by
 symm
 exact H.det (.cFQ2 (by omega) f hw) hk
theorem vc_oMade (H : TabS p hp n T) (hn : 3 ≤ n + 1) {cs l : List Int} {W : V} (hl : l.length = 12) (hw : itV W (vl l)) (hk : k (.e12 (l.map (· % p)) p)) : Vc T ir_oMade [] [.e12 cs p, W] k := by
 symm
 exact H.det (.cOPT (by omega) l hl hw) hk
end
end
section
open Classical
section
variable {p : Int} {hp : Pr p} {n : Nat} {T : Tab} {k : V → Prop}
theorem q_rm (hp : Pr p) (x : Q p) : (0 ≤ x.x.a ∧ x.x.a < p) ∧ 0 ≤ x.x.b ∧ x.x.b < p := by
 have h0 := hp.pos
 rw [← x.h.1, ← x.h.2]
 exact ⟨⟨Int.emod_nonneg _ (by omega), Int.emod_lt_of_pos _ h0⟩, Int.emod_nonneg _ (by omega), Int.emod_lt_of_pos _ h0⟩
theorem mono0_z (f : Int → Int → Int) (hf : f 0 0 = 0) (h1 : ∀ a b c d : Int, f (a % p) (b % p) = f a b % p → True) {j : Nat} {x y z : Q p} (ha : f ((x.x.a - x.x.b) % p) ((y.x.a - y.x.b) % p) = (z.x.a - z.x.b) % p) (hb : f x.x.b y.x.b = z.x.b) :
  List.zipWith f (mono0 j x) (mono0 j y) = mono0 j z := by
 unfold mono0
 rw [List.zipWith_map, List.zipWith_self]
 refine List.map_congr_left fun k J => ?_
 split
 ·exact ha
 ·split
  ·exact hb
  ·exact hf
theorem mono0_m (f : Int → Int) (hf : f 0 = 0) {j : Nat} {x z : Q p} (ha : f ((x.x.a - x.x.b) % p) = (z.x.a - z.x.b) % p) (hb : f x.x.b = z.x.b) :
  (mono0 j x).map f = mono0 j z := by
 unfold mono0
 rw [List.map_map]
 refine List.map_congr_left fun k J => ?_
 show f (if k = j then (x.x.a - x.x.b) % p else if k = j + 6 then x.x.b else 0) = _
 split
 ·exact ha
 ·split
  ·exact hb
  ·exact hf
theorem mono_add (i : Nat) (x y : Q p) : List.zipWith (fun a b => (a + b) % p) (mono i x) (mono i y) = mono i (qAdd x y) := by
 unfold mono
 haveI e : qMul (qAdd x y) (qPow ww (i / 6)) = qAdd (qMul x (qPow ww (i / 6))) (qMul y (qPow ww (i / 6))) := by rw [q_mul_comm, q_left_distrib, q_mul_comm _ x, q_mul_comm _ y]
 rw [e]
 generalize qMul x (qPow ww (i / 6)) = u
 generalize qMul y (qPow ww (i / 6)) = v
 refine mono0_z _ (by simp) (fun J J J J J => trivial) ?_ rfl
 show ((u.x.a - u.x.b) % p + (v.x.a - v.x.b) % p) % p = ((u.x.a + v.x.a) % p - (u.x.b + v.x.b) % p) % p
 rw [← Int.add_emod, ← Int.sub_emod]
 congr 1; omega
theorem mono_sub (i : Nat) (x y : Q p) : List.zipWith (fun a b => (a - b) % p) (mono i x) (mono i y) = mono i (qSub x y) := by
 unfold mono
 haveI e : qMul (qSub x y) (qPow ww (i / 6)) = qSub (qMul x (qPow ww (i / 6))) (qMul y (qPow ww (i / 6))) := by
  rw [q_sub_eq, q_mul_comm, q_left_distrib, q_mul_comm _ x, q_mul_comm _ (qNeg y), q_neg_mul, ← q_sub_eq]
 rw [e]
 generalize qMul x (qPow ww (i / 6)) = u
 generalize qMul y (qPow ww (i / 6)) = v
 refine mono0_z _ (by simp) (fun J J J J J => trivial) ?_ rfl
 show ((u.x.a - u.x.b) % p - (v.x.a - v.x.b) % p) % p = ((u.x.a - v.x.a) % p - (u.x.b - v.x.b) % p) % p
 rw [← Int.sub_emod, ← Int.sub_emod]
 congr 1; omega
theorem mono_smul (i : Nat) (a : Int) (x : Q p) : (mono i x).map (fun c => c * a % p) = mono i (qMul (qInt a) x) := by
 unfold mono
 rw [q_mul_assoc]
 generalize qMul x (qPow ww (i / 6)) = u
 haveI e : qMul (qInt a) u = mk' ⟨u.x.a * a, u.x.b * a⟩ := by
  unfold qInt
  haveI := mk_mul (p := p) (fInt a) u.x
  rw [mk_self] at this
  rw [this]; congr 1; unfold fMul fInt; refine F.ext ?_ ?_ <;> simp <;> rw [Int.mul_comm]
 rw [e]
 refine mono0_m _ (by simp) ?_ rfl
 show (u.x.a - u.x.b) % p * a % p = ((u.x.a * a) % p - (u.x.b * a) % p) % p
 rw [← Int.sub_emod, ← Int.sub_mul, Int.mul_emod, Int.emod_emod, ← Int.mul_emod]
theorem mono_emod (i : Nat) (x : Q p) : (mono i x).map (· % p) = mono i x := by
 have := mono_smul i 1 x
 rw [show qMul (qInt 1) x = x from by rw [q_mul_comm, q_mul_one]] at this
 rw [← this, List.map_map]
 refine List.map_congr_left fun k J => ?_
 show k * 1 % p % p = _
 rw [Int.emod_emod]
theorem mono_len (i : Nat) (x : Q p) : (mono i x).length = 12 := by unfold mono mono0; simp
theorem mono_one : mono 0 (qInt 1 : Q p) = [1 % p, 0, 0, 0, 0, 0, 0, 0, 0, 0, 0, 0] := by
 unfold mono
 haveI : qMul (qInt 1 : Q p) (qPow ww (0 / 6)) = qInt 1 := q_mul_one _
 rw [this]
 haveI e : ((qInt 1 : Q p).x.a - (qInt 1 : Q p).x.b) % p = 1 % p := by
  show ((1 : Int) % p - 0 % p) % p = 1 % p
  simp
 haveI e2 : (qInt 1 : Q p).x.b = 0 := by show (0 : Int) % p = 0; simp
 unfold mono0
 rw [e, e2]
 rfl
theorem mono_zero (i : Nat) : mono i (qInt 0 : Q p) = [0, 0, 0, 0, 0, 0, 0, 0, 0, 0, 0, 0] := by
 haveI := mono_smul i 0 (qInt 0 : Q p)
 rw [q_int_mul] at this
 rw [show (0 : Int) * 0 = 0 from rfl] at this
 rw [← this]
 unfold mono mono0
 simp [List.range, List.range.loop]
theorem mono_inj {i : Nat} {x y : Q p} (hp : Pr p) (h : mono i x = mono i y) : x = y := by
 unfold mono at h
 haveI k : ∀ {j : Nat}, j < 6 → ∀ {u v : Q p}, mono0 j u = mono0 j v → u = v := by
  intro j hj u v h
  haveI hb : u.x.b = v.x.b := by
   haveI := congrArg (fun l => l[j + 6]?) h
   unfold mono0 at this
   simp [List.getElem?_map, List.getElem?_range (show j + 6 < 12 by omega)] at this
   exact this
  haveI ha : (u.x.a - u.x.b) % p = (v.x.a - v.x.b) % p := by
   haveI := congrArg (fun l => l[j]?) h
   unfold mono0 at this
   simp [List.getElem?_map, List.getElem?_range (show j < 12 by omega)] at this
   exact this
  refine Q.ext (F.ext ?_ hb)
  rw [← u.h.1, ← v.h.1]
  haveI e1 : u.x.a = (u.x.a - u.x.b) + u.x.b := by omega
  haveI e2 : v.x.a = (v.x.a - v.x.b) + v.x.b := by omega
  rw [e1, e2, Int.add_emod, ha, hb, ← Int.add_emod]
 haveI h1 := k (Nat.mod_lt _ (by omega)) h
 haveI hw : ∀ n : Nat, ∃ z : Q p, qMul (qPow ww n) z = qInt 1 := by
  intro n
  induction n with
  | zero => exact ⟨qInt 1, q_mul_one _⟩
  | succ n ih =>
   obtain ⟨z, hz⟩ := ih
   haveI hne : (ww : Q p) ≠ qInt 0 := fun q => by
    haveI := congrArg (fun x : Q p => x.x.a) q
    haveI h2 : (1 : Int) % p = 0 % p := this
    haveI := hp.ge
    rw [Int.emod_eq_of_lt (by omega) (by omega), Int.emod_eq_of_lt (by omega) (by omega)] at h2
    omega
   refine ⟨qMul (qInv ww) z, ?_⟩
   show qMul (qMul (qPow ww n) ww) (qMul (qInv ww) z) = _
   rw [q_mul_assoc, ← q_mul_assoc ww, q_mul_inv hp hne, q_mul_comm (qInt 1), q_mul_one, hz]
 obtain ⟨z, hz⟩ := hw (i / 6)
 haveI h2 := congrArg (fun u => qMul u z) h1
 rw [q_mul_assoc, q_mul_assoc, hz, q_mul_one, q_mul_one] at h2
 exact h2
theorem vc_oAdd (H : TabS p hp n T) (hn : 4 ≤ n + 1) {t : Bool} {i : Nat} {x y : Q p} (hk : k (ev t i (qAdd x y))) : Vc T ir_oAdd [] [ev t i x, ev t i y] k := by
 haveI h0 := hp.pos
 cases t
 ·symm
  refine H.det (.tMade (by omega) (mk' (fAdd x.x y.x) : Q p).x (.inl rfl)) ?_
  rw [mk_self]; exact hk
 ·symm
  refine H.det (.oMade (by omega) (List.zipWith (fun a b => (a + b) % p) (mono i x) (mono i y)) (by rw [mono_add, mono_len]) (.inl rfl)) ?_
  rw [mono_add, mono_emod]; exact hk
theorem vc_oSub (H : TabS p hp n T) (hn : 4 ≤ n + 1) {t : Bool} {i : Nat} {x y : Q p} (hk : k (ev t i (qSub x y))) : Vc T ir_oSub [] [ev t i x, ev t i y] k := by
 haveI h0 := hp.pos
 cases t
 ·symm
  refine H.det (.tMade (by omega) (mk' (fSub x.x y.x) : Q p).x (.inl rfl)) ?_
  rw [mk_self]; exact hk
 ·symm
  refine H.det (.oMade (by omega) (List.zipWith (fun a b => (a - b) % p) (mono i x) (mono i y)) (by rw [mono_sub, mono_len]) (.inl rfl)) ?_
  rw [mono_sub, mono_emod]; exact hk
theorem eq_loop {A B : V} {kn : List Slot → Prop} {kr : V → Prop} (l1 : List Int) : ∀ (l2 : List Int) (s1 s2 : Slot), l1.length = l2.length → (l1 = l2 → ∀ s1 s2, kn [.v A, .v B, s1, s2]) → (l1 ≠ l2 → kr (.bool false)) →
  forF [2, 3] (fun ρ' k' => wS T (.cons (.ite (.cmp .NotEq (.va 2) (.va 3)) (.cons (.ret (.bool false)) .nil) .nil) .nil) ρ' k' kr) (zipV (vl l1) (vl l2)) [.v A, .v B, s1, s2] kn := by
 induction l1 with
 | nil =>
  intro l2 s1 s2 hl h h'
  cases l2 with
  | nil => exact h rfl s1 s2
  | cons b l2 => cases hl
 | cons a l1 ih =>
  intro l2 s1 s2 hl h h'
  cases l2 with
  | nil => cases hl
  | cons b l2 =>
   by_cases e : a = b
   ·subst e
    refine br_f (congrArg not (veq_int_t rfl)) ?_
    exact ih l2 _ _ (Nat.succ.inj hl) (fun q => h (q ▸ rfl)) fun q => h' fun r => q (List.cons.inj r).2
   ·refine br_t (congrArg not (veq_int_f e)) ?_
    exact h' fun r => e (List.cons.inj r).1
theorem vc_oEq (H : TabS p hp n T) {t : Bool} {i : Nat} {x y : Q p} (hk : k (Bo (x = y))) : Vc T ir_oEq xt_oEq [ev t i x, ev t i y] k := by
 cases t
 ·symm
  refine eq_loop [x.x.a, x.x.b] [y.x.a, y.x.b] .u .u rfl (fun q s1 s2 => ?_) fun q => ?_
  ·walk_at "vc"
   haveI : x = y := Q.ext (F.ext (List.cons.inj q).1 (List.cons.inj (List.cons.inj q).2).1)
   rw [bo_pos this]; exact hk
  ·haveI : x ≠ y := fun r => q (by rw [r])
   rw [bo_neg this]; exact hk
 ·haveI hz : ∀ kk : List V → Prop, kk (zipV (vl (mono i x)) (vl (mono i y))) → evL (zipV (vl (mono i x)) (vl (mono i y))) kk := fun kk h => evL_i h
  symm
  refine eq_loop (mono i x) (mono i y) .u .u (by rw [mono_len, mono_len]) (fun q s1 s2 => ?_) fun q => ?_
  ·walk_at "vc"
   rw [bo_pos (mono_inj hp q)]; exact hk
  ·haveI : x ≠ y := fun r => q (by rw [r])
   rw [bo_neg this]; exact hk
theorem vc_oOne (H : TabS p hp n T) (hn : 4 ≤ n + 1) {t : Bool} {i : Nat} {x : Q p} (hk : k (ev t 0 (qInt 1 : Q p))) : Vc T ir_oOne [] [ev t i x] k := by
 cases t
 ·symm
  exact H.det (.tMade (by omega) ⟨1, 0⟩ (.inl rfl)) hk
 ·symm
  refine H.det (.oMade (by omega) [1, 0, 0, 0, 0, 0, 0, 0, 0, 0, 0, 0] rfl (.inl rfl)) ?_
  have : ev true 0 (qInt 1 : Q p) = .e12 ([1, 0, 0, 0, 0, 0, 0, 0, 0, 0, 0, 0].map (· % p)) p := by
   unfold ev; dsimp only; rw [mono_one]; simp
  rw [← this]; exact hk
theorem vc_oZero (H : TabS p hp n T) (hn : 4 ≤ n + 1) {t : Bool} {i j : Nat} {x : Q p} (hk : k (ev t j (qInt 0 : Q p))) : Vc T ir_oZero [] [ev t i x] k := by
 cases t
 ·symm
  exact H.det (.tMade (by omega) ⟨0, 0⟩ (.inl rfl)) hk
 ·symm
  refine H.det (.oMade (by omega) [0, 0, 0, 0, 0, 0, 0, 0, 0, 0, 0, 0] rfl (.inl rfl)) ?_
  have : ev true j (qInt 0 : Q p) = .e12 ([0, 0, 0, 0, 0, 0, 0, 0, 0, 0, 0, 0].map (· % p)) p := by
   unfold ev; dsimp only; rw [mono_zero]; simp
  rw [← this]; exact hk
theorem vc_oNeg (H : TabS p hp n T) (hn : 4 ≤ n + 1) {x : Q p} (hk : k (.e2 (qNeg x).x p)) : Vc T ir_oNeg [] [.e2 x.x p] k := by
 symm
 exact H.det (.tMade (by omega) (fNeg x.x) (.inl rfl)) hk
theorem smul2 (a : Int) (x : Q p) : (mk' ⟨x.x.a * a % p, x.x.b * a % p⟩ : Q p) = qMul (qInt a) x := by
 haveI := mk_mul (p := p) (fInt a) x.x
 rw [mk_self] at this
 show _ = qMul (mk' (fInt a)) x
 rw [this]
 refine Q.ext (F.ext ?_ ?_)
 ·show x.x.a * a % p % p = (a * x.x.a - 0 * x.x.b) % p
  rw [Int.emod_emod, Int.mul_comm]; simp
 ·show x.x.b * a % p % p = (a * x.x.b + 0 * x.x.a) % p
  rw [Int.emod_emod, Int.mul_comm]; simp
theorem vc_oMulI (H : TabS p hp n T) (hn : 4 ≤ n + 1) {t : Bool} {i : Nat} {x : Q p} {a : Int} (hs : Sm a) (hk : k (ev t i (qMul (qInt a) x))) : Vc T ir_oMul xt_oMul [ev t i x, .int a] k := by
 haveI h0 := hp.pos
 haveI hs' : ∀ b : Int, Sm b ∨ Sm a := fun b => .inr hs
 cases t
 ·symm
  refine ⟨hs' _, ?_⟩
  symm
  refine ⟨hs' _, ?_⟩
  symm
  refine H.det (.tMade (by omega) ⟨x.x.a * a % p, x.x.b * a % p⟩ (.inl rfl)) ?_
  rw [smul2]; exact hk
 ·iterate 12
   symm
   refine ⟨hs' _, ?_⟩
  symm
  refine H.det (.oMade (by omega) ((mono i x).map (fun c => c * a % p)) (by simp [mono_len]) (.inl rfl)) ?_
  rw [mono_smul, mono_emod]; exact hk
theorem vc_oRmul (H : TabS p hp n T) (hn : 5 ≤ n + 1) {t : Bool} {i : Nat} {x : Q p} {a : Int} (hs : Sm a) (hk : k (ev t i (qMul (qInt a) x))) : Vc T ir_oRmul [] [ev t i x, .int a] k := by
 cases t
 ·symm
  exact H.det (.oMulI (t := false) (i := i) (by omega) hs) hk
 ·symm
  exact H.det (.oMulI (t := true) (i := i) (by omega) hs) hk
theorem vc_oDivI (H : TabS p hp n T) (hn : 4 ≤ n + 1) {x : Q p} {a : Int} (hk : k (.e2 (qMul x (qInt (nInv p a))).x p)) : Vc T ir_oDiv [] [.e2 x.x p, .int a] k := by
 haveI h0 := hp.ge
 haveI h1 := nInv_rm hp a
 unfold Rm at h1
 symm
 refine H.det (.pfi (by omega) _) ?_
 symm
 refine H.det (.pfi (by omega) _) ?_
 symm
 refine H.det (.tMade (by omega) ⟨x.x.a * nInv p a % p, x.x.b * nInv p a % p⟩ (.inl rfl)) ?_
 rw [smul2, q_mul_comm]; exact hk
end
end
section
open Classical
section
variable {p : Int} {hp : Pr p} {n : Nat} {T : Tab} {k : V → Prop}
theorem vc_oMul2 (H : TabS p hp n T) (hn : 4 ≤ n + 1) {x y : Q p} (hk : k (.e2 (qMul x y).x p)) : Vc T ir_oMul xt_oMul [.e2 x.x p, .e2 y.x p] k := by
 haveI h0 := hp.ge
 haveI hx := q_rm hp x
 haveI hy := q_rm hp y
 symm
 haveI e : ∀ q : Q p, q = qMul x y → k (.e2 q.x p) := fun q h => h ▸ hk
 refine H.det (.tMade (by omega) ⟨_, _⟩ (.inl rfl)) (e _ (Q.ext (F.ext ?_ ?_)))
 ·show _ % p % p = (x.x.a * y.x.a - x.x.b * y.x.b) % p
  rw [Int.emod_emod]; congr 1; grind
 ·show _ % p % p = (x.x.a * y.x.b + x.x.b * y.x.a) % p
  rw [Int.emod_emod]; congr 1; grind
theorem okL_i {vs : List V} {P : Prop} (h : vs.length ≤ 64) (hP : P) : okL vs P := by unfold okL; rw [Nat.ble_eq_true_of_le h]; exact hP
theorem vl_len (l : List Int) : (vl l).length = l.length := List.length_map ..
theorem onNat_i {n m : Nat} {x : Int} {k : Nat → Prop} (hx : x = (m : Int)) (h : m < n) (hk : k m) : onNat (place n x) k := by
 subst hx
 show onNat (match decide (0 ≤ (m : Int)) with | true => (match Nat.blt m n with | true => some m | false => none) | false => none) k
 rw [decide_eq_true (Int.natCast_nonneg m), Nat.blt_eq.mpr h]
 exact hk
theorem onSome_nth {l : List Int} {m : Nat} {a : Int} {k : V → Prop} (h : l[m]? = some a) (hk : k (.int a)) : onSome (nthV (vl l) m) k := by
 rw [nthV_eq]
 unfold vl
 rw [List.getElem?_map, h]
 exact hk
theorem setN_vl (l : List Int) : ∀ (m : Nat) (a : Int), setN (vl l) m (.int a) = vl (l.set m a) := by
 induction l with
 | nil => exact fun _ _ => rfl
 | cons x l ih =>
  intro m a
  cases m with
  | zero => rfl
  | succ m => exact congrArg (List.cons (V.int x)) (ih m a)
theorem setNK_vl {l : List Int} {m : Nat} {a : Int} {k : List V → Prop} (hk : k (vl (l.set m a))) : evL (setN (vl l) m (.int a)) k := by
 rw [setN_vl]; exact evL_i hk
theorem popK_vl {l : List Int} {a : Int} {k : List V → V → Prop} (hk : k (vl l) (.int a)) : popK (vl (l ++ [a])) k := by
 induction l generalizing k with
 | nil => exact hk
 | cons x l ih =>
  cases l with
  | nil => exact hk
  | cons y l => exact ih (k := fun a b => k (V.int x :: a) b) hk
noncomputable def addAt (b : List Int) (m : Nat) (v : Int) : List Int := match b[m]? with | some a => b.set m (a + v) | none => b
noncomputable def rowF (b : List Int) (i : Nat) (u : Int) : List Int → Nat → List Int
 | [], _ => b
 | d :: ds, j => rowF (addAt b (i + j) (u * d)) i u ds (j + 1)
noncomputable def rowsF (b : List Int) (ds : List Int) : List Int → Nat → List Int
 | [], _ => b
 | c :: cs, i => rowsF (rowF b i c ds 0) ds cs (i + 1)
theorem addAt_e {b : List Int} {m : Nat} (v : Int) (h : m < b.length) : addAt b m v = b.set m (b[m] + v) := by unfold addAt; rw [List.getElem?_eq_getElem h]
theorem addAt_len (b : List Int) (m : Nat) (v : Int) : (addAt b m v).length = b.length := by
 show (match b[m]? with | some a => b.set m (a + v) | none => b).length = _
 cases b[m]? with
 | none => rfl
 | some a => exact List.length_set ..
theorem rowF_len (i : Nat) (u : Int) (ds : List Int) : ∀ (b : List Int) (j : Nat), (rowF b i u ds j).length = b.length := by
 induction ds with
 | nil => exact fun _ _ => rfl
 | cons d ds ih => exact fun b j => (ih _ _).trans (addAt_len ..)
theorem rowsF_len (ds cs : List Int) : ∀ (b : List Int) (i : Nat), (rowsF b ds cs i).length = b.length := by
 induction cs with
 | nil => exact fun _ _ => rfl
 | cons c cs ih => exact fun b i => (ih _ _).trans (rowF_len ..)
theorem row_loop {A B : V} {E : V} {kr : V → Prop} {i : Nat} {u : Int} (hu : Sm u) {s8 s9 s10 : Slot} {kn : List Slot → Prop} (ds : List Int) : ∀ (j : Nat) (b : List Int) (s6 s7 : Slot), (ds ≠ [] → i + j + ds.length ≤ b.length) →
  (∀ s6 s7, kn [.v A, .v B, .o (vl (rowF b i u ds j)), .v E, .v (.int i), .v (.int u), s6, s7, s8, s9, s10]) →
  forF [6, 7] (fun ρ' k' => wS T (.cons (.augIdx 2 .Add (.bin .Add (.va 4) (.va 6)) (.bi .int (.bin .Mult (.va 5) (.va 7)))) .nil) ρ' k' kr) (enumFrom j (vl ds)) [.v A, .v B, .o (vl b), .v E, .v (.int i), .v (.int u), s6, s7, s8, s9, s10] kn := by
 induction ds with
 | nil => exact fun j b s6 s7 _ h => h s6 s7
 | cons d ds ih =>
  intro j b s6 s7 hl h
  haveI hl' : i + j + (ds.length + 1) ≤ b.length := hl (List.cons_ne_nil _ _)
  have hlt : i + j < b.length := by omega
  refine onNat_i (m := i + j) (Int.natCast_add ..).symm (by rw [vl_len]; exact hlt) ?_
  refine onSome_nth (List.getElem?_eq_getElem hlt) ?_
  refine And.intro (.inl hu) ?_
  refine setNK_vl ?_
  rw [← addAt_e (u * d) hlt]
  exact ih (j + 1) _ _ _ (fun J => by rw [addAt_len]; omega) h
theorem enumFrom_len' (l : List V) : ∀ j : Nat, (enumFrom j l).length = l.length := by
 induction l with
 | nil => exact fun _ => rfl
 | cons y r ih => exact fun j => congrArg (· + 1) (ih (j + 1))
theorem rows_loop {A B : V} {ds : List Int} {kr : V → Prop} (hd : ds.length ≤ 64) {s8 s9 s10 : Slot} {kn : List Slot → Prop} (cs : List Int) : ∀ (i : Nat) (b : List Int) (s4 s5 s6 s7 : Slot), (∀ c ∈ cs, Sm c) → (cs ≠ [] → i + cs.length + ds.length ≤ b.length + 1) →
  (∀ s4 s5 s6 s7, kn [.v A, .v B, .o (vl (rowsF b ds cs i)), .v (.lst (enumFrom 0 (vl ds))), s4, s5, s6, s7, s8, s9, s10]) →
  forF [4, 5] (fun ρ' k' => wS T (.cons (.for_ [6, 7] (.va 3) (.cons (.augIdx 2 .Add (.bin .Add (.va 4) (.va 6)) (.bi .int (.bin .Mult (.va 5) (.va 7)))) .nil)) .nil) ρ' k' kr) (enumFrom i (vl cs))
   [.v A, .v B, .o (vl b), .v (.lst (enumFrom 0 (vl ds))), s4, s5, s6, s7, s8, s9, s10] kn := by
 induction cs with
 | nil => exact fun i b s4 s5 s6 s7 _ _ h => h s4 s5 s6 s7
 | cons c cs ih =>
  intro i b s4 s5 s6 s7 hs hl h
  haveI hl' : i + (cs.length + 1) + ds.length ≤ b.length + 1 := hl (List.cons_ne_nil _ _)
  refine okL_i (by rw [enumFrom_len', vl_len]; exact hd) ?_
  refine row_loop (hs c (.head _)) ds 0 b s6 s7 (fun J => by omega) fun s6 s7 => ?_
  exact ih (i + 1) _ _ _ s6 s7 (fun c hc => hs c (.tail _ hc)) (fun J => by rw [rowF_len]; omega) h
noncomputable def subAt (b : List Int) (m : Nat) (v : Int) : List Int := match b[m]? with | some a => b.set m (a - v) | none => b
theorem subAt_e {b : List Int} {m : Nat} (v : Int) (h : m < b.length) : subAt b m v = b.set m (b[m] - v) := by unfold subAt; rw [List.getElem?_eq_getElem h]
theorem subAt_len (b : List Int) (m : Nat) (v : Int) : (subAt b m v).length = b.length := by
 show (match b[m]? with | some a => b.set m (a - v) | none => b).length = _
 cases b[m]? with
 | none => rfl
 | some a => exact List.length_set ..
noncomputable def redS (b : List Int) (e : Nat) : List Int := subAt (subAt b.dropLast e (b.getLastD 0 * 2)) (e + 6) (b.getLastD 0 * -2)
noncomputable def redL (b : List Int) : List Nat → List Int
 | [] => b
 | e :: es => redL (redS b e) es
noncomputable def fit : Nat → List Nat → Prop
 | _, [] => True
 | L, e :: es => e + 8 ≤ L ∧ fit (L - 1) es
noncomputable abbrev redBody : IS := .cons (.pop 9 2) (.cons (.for_ [4, 10] (.attr (.va 0) .mct) (.cons (.augIdx 2 .Sub (.bin .Add (.va 8) (.va 4)) (.bin .Mult (.va 9) (.va 10))) .nil)) .nil)
theorem redS_len (b : List Int) (e : Nat) : (redS b e).length = b.length - 1 := by unfold redS; rw [subAt_len, subAt_len, List.length_dropLast]
theorem redS_e (b0 : List Int) (top : Int) (e : Nat) : redS (b0 ++ [top]) e = subAt (subAt b0 e (top * 2)) (e + 6) (top * -2) := by
 unfold redS
 rw [List.dropLast_concat, List.getLastD_concat]
theorem red_loop {cs : List Int} {B E : V} {kr : V → Prop} {s5 s6 s7 : Slot} {kn : List Slot → Prop} (es : List Nat) : ∀ (b : List Int) (s4 s8 s9 s10 : Slot), fit b.length es →
  (∀ s4 s8 s9 s10, kn [.v (.e12 cs p), .v B, .o (vl (redL b es)), .v E, s4, s5, s6, s7, s8, s9, s10]) →
  forF [8] (fun ρ' k' => wS T redBody ρ' k' kr) (es.map fun (e : Nat) => V.int ((e : Nat) : Int)) [.v (.e12 cs p), .v B, .o (vl b), .v E, s4, s5, s6, s7, s8, s9, s10] kn := by
 induction es with
 | nil => exact fun b s4 s8 s9 s10 _ h => h _ _ _ _
 | cons e es ih =>
  intro b s4 s8 s9 s10 hl h
  haveI hl1 : e + 8 ≤ b.length := hl.1
  haveI hl2 : fit (redS b e).length es := by rw [redS_len]; exact hl.2
  haveI h : ∀ s4 s8 s9 s10, kn [.v (.e12 cs p), .v B, .o (vl (redL (redS b e) es)), .v E, s4, s5, s6, s7, s8, s9, s10] := h
  have hne : b ≠ [] := fun q => by rw [q] at hl1; exact absurd hl1 (Nat.not_succ_le_zero _)
  obtain ⟨b0, top, rfl⟩ : ∃ b0 top, b = b0 ++ [top] := ⟨b.dropLast, b.getLast hne, (List.dropLast_concat_getLast hne).symm⟩
  have hl0 : e + 7 ≤ b0.length := by rw [List.length_append] at hl1; exact Nat.le_of_succ_le_succ hl1
  haveI a1 : e < b0.length := Nat.lt_of_lt_of_le (Nat.lt_add_of_pos_right (by decide)) hl0
  haveI a2 : e + 6 < (subAt b0 e (top * 2)).length := by rw [subAt_len]; exact hl0
  rw [redS_e] at hl2 h
  refine popK_vl ?_
  refine onNat_i (m := e) rfl (by rw [vl_len]; exact a1) ?_
  refine onSome_nth (List.getElem?_eq_getElem a1) ?_
  refine And.intro (.inr (by unfold Sm; omega)) ?_
  refine setNK_vl ?_
  rw [← subAt_e (top * 2) a1]
  refine onNat_i (m := e + 6) rfl (by rw [vl_len]; exact a2) ?_
  refine onSome_nth (List.getElem?_eq_getElem a2) ?_
  refine And.intro (.inr (by unfold Sm; omega)) ?_
  refine setNK_vl ?_
  rw [← subAt_e (top * -2) a2]
  exact ih _ _ _ _ _ hl2 h
theorem mod_comp {cs : List Int} {cond : List (Option V) → (Bool → Prop) → Prop} (h0 : 0 < p) (b : List Int) : ∀ (l : Option V) (kk : List V → Prop), kk (vl (b.map (· % p))) →
  compF [11] true cond (fun ρ' k' => wE T (.bin .Mod (.va 11) (.attr (.va 0) .fm)) ρ' k') (vl b) [some (.e12 cs p), none, none, none, none, none, none, none, none, none, none, l] kk := by
 induction b with
 | nil => exact fun _ _ h => h
 | cons a b ih => exact fun l kk h => And.intro h0 (ih _ (fun xs => kk (V.int (a % p) :: xs)) h)
noncomputable def mulL (cs ds : List Int) : List Int := redL (rowsF (List.replicate 23 0) ds cs 0) [10, 9, 8, 7, 6, 5, 4, 3, 2, 1, 0]
theorem vc_oMul12 (H : TabS p hp n T) (hn : 4 ≤ n + 1) {cs ds : List Int} (hc : cs.length = 12) (hd : ds.length = 12) (hs : ∀ c ∈ cs, Sm c) (hl : (mulL cs ds).length = 12) (hk : k (.e12 ((mulL cs ds).map (· % p)) p)) : Vc T ir_oMul xt_oMul [.e12 cs p, .e12 ds p] k := by
 haveI h0 := hp.pos
 refine And.intro (rfl) ?_
 refine And.intro (.inr (by unfold Sm; omega)) ?_
 refine And.intro (by omega) ?_
 conv => whnf
 rw [evL_eq]
 refine okL_i (by rw [enumFrom_len']; simp [hd]) ?_
 conv => whnf
 rw [evL_eq]
 refine okL_i (by rw [enumFrom_len']; simp [hc]) ?_
 refine rows_loop (ds := ds) (by omega) cs 0 (List.replicate 23 0) .u .u .u .u hs (fun J => by simp; omega) fun s4 s5 s6 s7 => ?_
 refine And.intro (by omega) ?_
 refine And.intro (by omega) ?_
 refine And.intro (rfl) ?_
 rw [evL_eq]
 refine okL_i (Nat.le_of_ble_eq_true rfl) ?_
 haveI e : List.map (fun (i : Nat) => V.int (12 - 2 - (i : Int))) (List.range (12 - 2 + 1 : Int).toNat) = [10, 9, 8, 7, 6, 5, 4, 3, 2, 1, 0].map fun (e : Nat) => V.int ((e : Nat) : Int) := rfl
 rw [e]
 clear e
 refine red_loop (T := T) (p := p) (cs := cs) (B := .e12 ds p) (E := .lst (enumFrom 0 (vl ds))) (kr := k) [10, 9, 8, 7, 6, 5, 4, 3, 2, 1, 0] (rowsF (List.replicate 23 0) ds cs 0) s4 .u .u .u ?_ fun s4 s8 s9 s10 => ?_
 ·rw [rowsF_len]
  simp [fit]
 haveI hk' : ∀ b : List Int, b = mulL cs ds → k (.e12 (b.map (· % p)) p) ∧ b.length = 12 := fun b q => by rw [q]; exact ⟨hk, hl⟩
 haveI hb := hk' (redL (rowsF (List.replicate 23 0) ds cs 0) [10, 9, 8, 7, 6, 5, 4, 3, 2, 1, 0]) rfl
 clear hk hk' hl
 revert hb
 generalize redL (rowsF (List.replicate 23 0) ds cs 0) [10, 9, 8, 7, 6, 5, 4, 3, 2, 1, 0] = b
 intro hb
 refine okL_i (by rw [vl_len, hb.2]; omega) ?_
 refine mod_comp h0 b _ _ ?_
 refine H.detE (.oMade (by omega) (b.map (· % p)) (by simp [hb.2]) (.inl rfl)) (by rw [List.map_map]) ?_
 haveI : ((fun x => x % p) ∘ fun x => x % p) = fun x : Int => x % p := by funext x; exact Int.emod_emod x p
 rw [this]
 exact hb.1
end
end
theorem addAt_zero (b : List Int) (m : Nat) : addAt b m 0 = b := by
 show (match b[m]? with | some a => b.set m (a + 0) | none => b) = b
 cases h : b[m]? with
 | none => rfl
 | some a =>
  obtain ⟨hl, rfl⟩ := List.getElem?_eq_some_iff.mp h
  exact (congrArg (b.set m) (Int.add_zero _)).trans (List.set_getElem_self hl)
theorem rowF_zero (i : Nat) (ds : List Int) : ∀ (b : List Int) (j : Nat), rowF b i 0 ds j = b := by
 induction ds with
 | nil => exact fun _ _ => rfl
 | cons d ds ih =>
  intro b j
  refine (ih _ _).trans ?_
  rw [Int.zero_mul, addAt_zero]
theorem rowF_z (i : Nat) (u : Int) (l b : List Int) (k : Nat) : ∀ j, rowF b i u (List.replicate k 0 ++ l) j = rowF b i u l (j + k) := by
 induction k with
 | zero => exact fun _ => rfl
 | succ k ih =>
  intro j
  show rowF (addAt b (i + j) (u * 0)) i u (List.replicate k 0 ++ l) (j + 1) = _
  rw [Int.mul_zero, addAt_zero, ih, Nat.add_right_comm]; rfl
theorem rowsF_z (ds l b : List Int) (k : Nat) : ∀ j, rowsF b ds (List.replicate k 0 ++ l) j = rowsF b ds l (j + k) := by
 induction k with
 | zero => exact fun _ => rfl
 | succ k ih =>
  intro j
  show rowsF (rowF b j 0 ds 0) ds (List.replicate k 0 ++ l) (j + 1) = _
  rw [rowF_zero, ih, Nat.add_right_comm]; rfl
noncomputable def two (a : Nat) (c d : Int) : List Int := (List.range 12).map fun k => if k = a then c else if k = a + 6 then d else 0
theorem six {P : Nat → Prop} {a : Nat} (h : a < 6) (h0 : P 0) (h1 : P 1) (h2 : P 2) (h3 : P 3) (h4 : P 4) (h5 : P 5) : P a :=
 (Nat.lt_succ_iff_lt_or_eq.mp h).elim (fun h => (Nat.lt_succ_iff_lt_or_eq.mp h).elim (fun h => (Nat.lt_succ_iff_lt_or_eq.mp h).elim (fun h => (Nat.lt_succ_iff_lt_or_eq.mp h).elim (fun h => (Nat.lt_succ_iff_lt_or_eq.mp h).elim (fun h => Nat.lt_one_iff.mp h ▸ h0) (· ▸ h1)) (· ▸ h2)) (· ▸ h3)) (· ▸ h4)) (· ▸ h5)
theorem two_eq (c d : Int) {a : Nat} (h : a < 6) : two a c d = List.replicate a 0 ++ c :: (List.replicate 5 0 ++ d :: (List.replicate (5 - a) 0 ++ [])) :=
 six (P := fun a => two a c d = List.replicate a 0 ++ c :: (List.replicate 5 0 ++ d :: (List.replicate (5 - a) 0 ++ []))) h rfl rfl rfl rfl rfl rfl
theorem rows_two (b ds : List Int) (c d : Int) {a : Nat} (h : a < 6) : rowsF b ds (two a c d) 0 = rowF (rowF b a c ds 0) (a + 6) d ds 0 := by
 rw [two_eq c d h, rowsF_z, Nat.zero_add]
 refine (rowsF_z ds _ (rowF b a c ds 0) 5 (a + 1)).trans ?_
 exact rowsF_z ds [] (rowF (rowF b a c ds 0) (a + 6) d ds 0) (5 - a) _
theorem row_two (b : List Int) (i : Nat) (u c d : Int) {a : Nat} (h : a < 6) : rowF b i u (two a c d) 0 = addAt (addAt b (i + a) (u * c)) (i + (a + 6)) (u * d) := by
 rw [two_eq c d h, rowF_z, Nat.zero_add]
 refine (rowF_z i u _ (addAt b (i + a) (u * c)) 5 (a + 1)).trans ?_
 exact rowF_z i u [] (addAt (addAt b (i + a) (u * c)) (i + (a + 6)) (u * d)) (5 - a) _
abbrev T4 := Int × Int × Int × Int
noncomputable def t4 (f : Int → Int → Int) (x y : T4) : T4 := (f x.1 y.1, f x.2.1 y.2.1, f x.2.2.1 y.2.2.1, f x.2.2.2 y.2.2.2)
noncomputable def opAt (f : Int → Int → Int) (b : List T4) (m : Nat) (v : T4) : List T4 := match b[m]? with | some a => b.set m (t4 f a v) | none => b
noncomputable def redV (b : List T4) : List Nat → List T4
 | [] => b
 | e :: es => redV (opAt (· - ·) (opAt (· - ·) b.dropLast e (t4 (· * ·) (b.getLastD (0, 0, 0, 0)) (2, 2, 2, 2))) (e + 6) (t4 (· * ·) (b.getLastD (0, 0, 0, 0)) (-2, -2, -2, -2))) es
noncomputable def twoV (a : Nat) (c d : T4) : List T4 := (List.range 12).map fun k => if k = a then c else if k = a + 6 then d else (0, 0, 0, 0)
section
variable (A B C D : Int)
noncomputable def ph (t : T4) : Int := t.1 * A + t.2.1 * B + t.2.2.1 * C + t.2.2.2 * D
theorem ph_add (x y : T4) : ph A B C D (t4 (· + ·) x y) = ph A B C D x + ph A B C D y := by simp only [ph, t4]; grind
theorem ph_sub (x y : T4) : ph A B C D (t4 (· - ·) x y) = ph A B C D x - ph A B C D y := by simp only [ph, t4]; grind
theorem ph_mul (x : T4) (k : Int) : ph A B C D (t4 (· * ·) x (k, k, k, k)) = ph A B C D x * k := by simp only [ph, t4]; grind
theorem ph_zero : ph A B C D (0, 0, 0, 0) = 0 := by simp [ph]
theorem ph_addAt (b : List T4) (m : Nat) (v : T4) : (opAt (· + ·) b m v).map (ph A B C D) = addAt (b.map (ph A B C D)) m (ph A B C D v) := by
 unfold opAt addAt
 rw [List.getElem?_map]
 cases b[m]? with
 | none => rfl
 | some a => show List.map _ (b.set m _) = _; rw [List.map_set, ph_add]; rfl
theorem ph_subAt (b : List T4) (m : Nat) (v : T4) : (opAt (· - ·) b m v).map (ph A B C D) = subAt (b.map (ph A B C D)) m (ph A B C D v) := by
 unfold opAt subAt
 rw [List.getElem?_map]
 cases b[m]? with
 | none => rfl
 | some a => show List.map _ (b.set m _) = _; rw [List.map_set, ph_sub]; rfl
theorem ph_last (b : List T4) : ph A B C D (b.getLastD (0, 0, 0, 0)) = (b.map (ph A B C D)).getLastD 0 := by
 induction b with
 | nil => exact ph_zero A B C D
 | cons a l ih =>
  cases l with
  | nil => rfl
  | cons b l => exact ih
theorem ph_red (es : List Nat) : ∀ b : List T4, (redV b es).map (ph A B C D) = redL (b.map (ph A B C D)) es := by
 induction es with
 | nil => exact fun _ => rfl
 | cons e es ih =>
  intro b
  refine (ih _).trans (congrArg (redL · es) ?_)
  rw [ph_subAt, ph_subAt, List.map_dropLast, ph_mul, ph_mul, ph_last]; rfl
theorem ph_two (a : Nat) (c d : T4) : (twoV a c d).map (ph A B C D) = two a (ph A B C D c) (ph A B C D d) := by
 unfold twoV two
 rw [List.map_map]
 refine List.map_congr_left fun k J => ?_
 show ph A B C D (if k = a then c else if k = a + 6 then d else (0, 0, 0, 0)) = _
 rw [apply_ite (ph A B C D), apply_ite (ph A B C D), ph_zero]
noncomputable def redOk (s : Nat) : Bool := decide (redV (opAt (· + ·) (opAt (· + ·) (opAt (· + ·) (opAt (· + ·) (List.replicate 23 (0, 0, 0, 0)) s (1, 0, 0, 0)) (s + 6) (0, 1, 0, 0)) (s + 6) (0, 0, 1, 0)) (s + 12) (0, 0, 0, 1)) [10, 9, 8, 7, 6, 5, 4, 3, 2, 1, 0] =
  if s < 6 then twoV s (1, 0, 0, -2) (0, 1, 1, 2) else twoV (s - 6) (0, -2, -2, -4) (1, 2, 2, 2))
theorem red_all : (List.range 11).all redOk = true := by decide +kernel
theorem red_at {s : Nat} (h : redOk s = true) : redV (opAt (· + ·) (opAt (· + ·) (opAt (· + ·) (opAt (· + ·) (List.replicate 23 (0, 0, 0, 0)) s (1, 0, 0, 0)) (s + 6) (0, 1, 0, 0)) (s + 6) (0, 0, 1, 0)) (s + 12) (0, 0, 0, 1)) [10, 9, 8, 7, 6, 5, 4, 3, 2, 1, 0] =
  if s < 6 then twoV s (1, 0, 0, -2) (0, 1, 1, 2) else twoV (s - 6) (0, -2, -2, -4) (1, 2, 2, 2) := of_decide_eq_true h
theorem red_two {s : Nat} (h : s ≤ 10) : redL (addAt (addAt (addAt (addAt (List.replicate 23 0) s A) (s + 6) B) (s + 6) C) (s + 12) D) [10, 9, 8, 7, 6, 5, 4, 3, 2, 1, 0] =
  if s < 6 then two s (A - D * 2) (B + C + D * 2) else two (s - 6) (-(B + C + D * 2) * 2) (A - D * 2 + (B + C + D * 2) * 2) := by
 haveI k := congrArg (List.map (ph A B C D)) (red_at (List.all_eq_true.mp red_all s (List.mem_range.mpr (Nat.lt_succ_of_le h))))
 rw [ph_red, ph_addAt, ph_addAt, ph_addAt, ph_addAt, List.map_replicate, ph_zero, apply_ite (List.map (ph A B C D)), ph_two, ph_two] at k
 haveI e : ∀ a b c d : Int, ph A B C D (a, b, c, d) = a * A + b * B + c * C + d * D := fun J J J J => rfl
 simp only [e, Int.one_mul, Int.zero_mul, Int.add_zero, Int.zero_add] at k
 haveI e1 : A + -2 * D = A - D * 2 := by omega
 haveI e2 : B + C + 2 * D = B + C + D * 2 := by omega
 haveI e3 : -2 * B + -2 * C + -4 * D = -(B + C + D * 2) * 2 := by omega
 haveI e4 : A + 2 * B + 2 * C + 2 * D = A - D * 2 + (B + C + D * 2) * 2 := by omega
 rw [k, e1, e2, e3, e4]
end
theorem mulN {a b : Nat} (c d e f : Int) (h : a < 6) (h' : b < 6) : mulL (two a c d) (two b e f) = if a + b < 6 then two (a + b) (c * e - d * f * 2) (c * f + d * e + d * f * 2) else two (a + b - 6) (-(c * f + d * e + d * f * 2) * 2) (c * e - d * f * 2 + (c * f + d * e + d * f * 2) * 2) := by
 unfold mulL
 rw [rows_two _ _ _ _ h, row_two _ _ _ _ _ h', row_two _ _ _ _ _ h']
 rw [show a + (b + 6) = a + b + 6 by omega, show a + 6 + b = a + b + 6 by omega, show a + 6 + (b + 6) = a + b + 12 by omega]
 exact red_two _ _ _ _ (by omega)
section
variable {p : Int}
theorem mono0_two (j : Nat) (x : Q p) : mono0 j x = two j ((x.x.a - x.x.b) % p) x.x.b := rfl
theorem two_map {j : Nat} {c d c' d' : Int} (h1 : c % p = c') (h2 : d % p = d') : (two j c d).map (· % p) = two j c' d' := by
 unfold two
 rw [List.map_map]
 refine List.map_congr_left fun k J => ?_
 show (if k = j then c else if k = j + 6 then d else 0) % p = _
 split
 ·exact h1
 ·split
  ·exact h2
  ·simp
theorem emod_w {a b p : Int} (w : Int) (h : a = b + p * w) : a % p = b % p := by rw [h, Int.add_mul_emod_self_left]
theorem mul_mono0 {a b : Nat} (h : a < 6) (h' : b < 6) (x y : Q p) : (mulL (mono0 a x) (mono0 b y)).map (· % p) = if a + b < 6 then mono0 (a + b) (qMul x y) else mono0 (a + b - 6) (qMul (qMul x y) ww) := by
 rw [mono0_two, mono0_two, mulN _ _ _ _ h h']
 obtain ⟨u, hu⟩ : ∃ u, (x.x.a - x.x.b) % p = x.x.a - x.x.b + p * u := ⟨-((x.x.a - x.x.b) / p), by haveI := Int.mul_ediv_add_emod (x.x.a - x.x.b) p; grind⟩
 obtain ⟨v, hv⟩ : ∃ v, (y.x.a - y.x.b) % p = y.x.a - y.x.b + p * v := ⟨-((y.x.a - y.x.b) / p), by haveI := Int.mul_ediv_add_emod (y.x.a - y.x.b) p; grind⟩
 rw [hu, hv]
 haveI ea : (qMul x y).x.a = (x.x.a * y.x.a - x.x.b * y.x.b) % p := rfl
 haveI eb : (qMul x y).x.b = (x.x.a * y.x.b + x.x.b * y.x.a) % p := rfl
 by_cases hab : a + b < 6
 ·rw [if_pos hab, if_pos hab, mono0_two, ea, eb]
  refine two_map ?_ ?_
  ·rw [← Int.sub_emod]
   exact emod_w (u * (y.x.a - y.x.b) + v * (x.x.a - x.x.b) + p * u * v) (by grind)
  ·exact emod_w (u * y.x.b + v * x.x.b) (by grind)
 ·rw [if_neg hab, if_neg hab, mono0_two]
  haveI e : qMul (qMul x y) ww = (mk' (fMul (fMul x.x y.x) ⟨1, 1⟩) : Q p) := by
   haveI := mk_mul (p := p) (fMul x.x y.x) ⟨1, 1⟩
   exact this
  rw [e]
  haveI fa : (mk' (fMul (fMul x.x y.x) ⟨1, 1⟩) : Q p).x.a = ((x.x.a * y.x.a - x.x.b * y.x.b) * 1 - (x.x.a * y.x.b + x.x.b * y.x.a) * 1) % p := rfl
  haveI fb : (mk' (fMul (fMul x.x y.x) ⟨1, 1⟩) : Q p).x.b = ((x.x.a * y.x.a - x.x.b * y.x.b) * 1 + (x.x.a * y.x.b + x.x.b * y.x.a) * 1) % p := rfl
  rw [fa, fb]
  refine two_map ?_ ?_
  ·rw [← Int.sub_emod]
   exact emod_w (-2 * (u * y.x.b + v * x.x.b)) (by grind)
  ·exact emod_w (u * (y.x.a - y.x.b) + v * (x.x.a - x.x.b) + p * u * v + 2 * (u * y.x.b + v * x.x.b)) (by grind)
theorem pow_ww (m n : Nat) : qMul (qPow (ww : Q p) m) (qPow ww n) = qPow ww (m + n) := by
 induction n with
 | zero => exact q_mul_one _
 | succ n ih =>
  show qMul (qPow ww m) (qMul (qPow ww n) ww) = qMul (qPow ww (m + n)) ww
  rw [← q_mul_assoc, ih]
theorem dm6 {n q r : Nat} (h : n = 6 * q + r) (hr : r < 6) : n % 6 = r ∧ n / 6 = q := ⟨by rw [h, Nat.mul_add_mod, Nat.mod_eq_of_lt hr], by rw [h, Nat.mul_add_div (by decide), Nat.div_eq_of_lt hr]; rfl⟩
theorem dm6' {n q r : Nat} (h : n = 6 * q + r) (h6 : ¬ r < 6) (hr : r < 12) : n % 6 = r - 6 ∧ n / 6 = q + 1 := dm6 (by omega) (by omega)
theorem sum6 (i j : Nat) : i + j = 6 * (i / 6 + j / 6) + (i % 6 + j % 6) := by rw [Nat.mul_add, Nat.add_add_add_comm, Nat.div_add_mod, Nat.div_add_mod]
theorem mul_mono (i j : Nat) (x y : Q p) : (mulL (mono i x) (mono j y)).map (· % p) = mono (i + j) (qMul x y) := by
 unfold mono
 rw [mul_mono0 (Nat.mod_lt _ (by decide)) (Nat.mod_lt _ (by decide))]
 haveI e : qMul (qMul x (qPow ww (i / 6))) (qMul y (qPow ww (j / 6))) = qMul (qMul x y) (qPow ww (i / 6 + j / 6)) := by
  rw [← pow_ww, q_mul_assoc, q_mul_assoc, ← q_mul_assoc (qPow ww (i / 6)), q_mul_comm (qPow ww (i / 6)) y, q_mul_assoc y]
 rw [e]
 by_cases h : i % 6 + j % 6 < 6
 ·obtain ⟨e1, e2⟩ := dm6 (sum6 i j) h
  rw [if_pos h, e1, e2]
 ·obtain ⟨e1, e2⟩ := dm6' (sum6 i j) h (Nat.add_lt_add (Nat.mod_lt _ (by decide)) (Nat.mod_lt _ (by decide)))
  rw [if_neg h, e1, e2, q_mul_assoc]
  rfl
end
section
open Classical
section
variable {p : Int} {hp : Pr p} {n : Nat} {T : Tab} {k : V → Prop}
theorem nInv_mod (hp : Pr p) {a : Int} (h : a % p = 0) : nInv p a = 0 := by
 unfold nInv
 rw [← pow_emod, h]
 haveI : (p - 2).toNat = (p - 3).toNat + 1 := by haveI := hp.ge; omega
 rw [this, Int.pow_succ]; simp
theorem nInv_uniq (hp : Pr p) {x a : Int} (h : (x * a - 1) % p = 0) : x % p = nInv p a := by
 have ha : a % p ≠ 0 := fun q => by
  obtain ⟨c, rfl⟩ := dvd_of_emod.mp q
  obtain ⟨d, hd⟩ := dvd_of_emod.mp h
  haveI h1 : (1 : Int) = p * (x * c - d) := by grind
  haveI h2 : (1 : Int) % p = 0 := dvd_of_emod.mpr ⟨_, h1⟩
  haveI := hp.ge
  rw [Int.emod_eq_of_lt (by omega) (by omega)] at h2
  omega
 haveI hf := fermat hp a ha
 haveI hr := nInv_rm hp a
 generalize nInv p a = m at hf hr
 rw [← Int.emod_eq_of_lt hr.1 hr.2]
 obtain ⟨d, hd⟩ := dvd_of_emod.mp h
 haveI h1 : ∃ e, a * m = 1 + p * e := ⟨a * m / p, by haveI := Int.mul_ediv_add_emod (a * m) p; omega⟩
 obtain ⟨e, he⟩ := h1
 haveI : x = m + p * (d * m - x * e) := by grind
 rw [this, Int.add_mul_emod_self_left]
theorem vc_pfi (H : TabS p hp n T) {a : Int} (hk : k (.int (nInv p a))) : Vc T ir_pfi xt_pfi [.int a, .int p] k := by
 haveI h0 := hp.ge
 symm
 refine br_i (fun h => ?_) (fun h => ?_)
 ·haveI h : a % p = 0 := of_decide_eq_true h
  rw [nInv_mod hp h] at hk
  exact hk
 ·have h : ¬ a % p = 0 := of_decide_eq_false h
  symm
  haveI ha1 : 0 ≤ a % p := Int.emod_nonneg _ (by omega)
  haveI ha2 : a % p < p := Int.emod_lt_of_pos _ (by omega)
  refine ⟨fun m ρ => ∃ lm hm low high s6 s7 s8, ρ = [.v (.int (a % p)), .v (.int p), .v (.int lm), .v (.int hm), .v (.int low), .v (.int high), s6, s7, s8] ∧ m = low.toNat ∧ 1 ≤ low ∧ low < high ∧ high ≤ p ∧ (lm * a - low) % p = 0 ∧ (hm * a - high) % p = 0 ∧ ∀ d : Int, d ∣ low → d ∣ high → d ∣ 1, ⟨_, 1, 0, _, _, _, _, _, rfl, rfl, ?_, ?_, ?_, ?_, ?_, ?_⟩, ?_⟩
  ·rw [Int.emod_emod]; omega
  ·rw [Int.emod_emod]; omega
  ·omega
  ·rw [Int.emod_emod]
   haveI := Int.mul_ediv_add_emod a p
   exact dvd_of_emod.mpr ⟨a / p, by omega⟩
  ·exact dvd_of_emod.mpr ⟨-1, by omega⟩
  ·intro d h1 h2
   rw [Int.emod_emod] at h1
   obtain ⟨u, hu⟩ := h1
   obtain ⟨v, hv⟩ := h2
   haveI hf := fermat hp a h
   generalize nInv p a = m at hf
   haveI e1 := Int.mul_ediv_add_emod a p
   haveI e2 := Int.mul_ediv_add_emod (a * m) p
   generalize a / p = q at *
   generalize a * m / p = q2 at *
   refine ⟨u * m + v * (q * m - q2), ?_⟩
   grind
  ·intro m ρ' zz; obtain ⟨lm, hm, low, high, s6, s7, s8, rfl, rfl, h1, h2, h3, h4, h5, h6⟩ := (zz)
   symm
   refine br_i (fun hc => ?_) (fun hc => ?_)
   ·haveI hc : 1 < low := of_decide_eq_true hc
    haveI hq : high / low ≤ high := Int.ediv_le_self _ (by omega)
    haveI hq0 : 0 ≤ high / low := Int.ediv_nonneg (by omega) (by omega)
    walk_at "vc"
    haveI e := Int.mul_ediv_add_emod high low
    haveI e1 : 0 ≤ high % low := Int.emod_nonneg _ (by omega)
    haveI e2 : high % low < low := Int.emod_lt_of_pos _ (by omega)
    haveI e3 : high - low * (high / low) = high % low := by omega
    rw [e3]
    haveI e4 : high % low ≠ 0 := fun q => by
     haveI : low ∣ 1 := h6 low (Int.dvd_refl _) (Int.dvd_of_emod_eq_zero q)
     haveI := Int.le_of_dvd (by omega) this
     omega
    refine ⟨_, ?_, hm - lm * (high / low), lm, high % low, low, _, _, _, rfl, rfl, by omega, by omega, by omega, ?_, h4, ?_⟩
    ·omega
    ·obtain ⟨c, hc⟩ := dvd_of_emod.mp h4
     obtain ⟨d, hd⟩ := dvd_of_emod.mp h5
     generalize high / low = q at *
     generalize high % low = r at *
     exact dvd_of_emod.mpr ⟨d - c * q, by grind⟩
    ·intro d d1 d2
     refine h6 d d2 ?_
     rw [← e]
     exact Int.dvd_add (Int.dvd_mul_of_dvd_left d2) d1
   ·haveI hc : ¬ 1 < low := of_decide_eq_false hc
    haveI : low = 1 := by omega
    subst this
    symm
    rw [nInv_uniq hp h4]
    exact hk
end
end
section
open Classical
section
variable {p : Int} {hp : Pr p} {n : Nat} {T : Tab} {k : V → Prop}
theorem bo_dec {P : Prop} (i : Decidable P) : Bo P = .bool (@decide P i) := congrArg V.bool (dec_eq _ _)
theorem zcmp (H : TabS p hp n T) (hn : 1 ≤ n) {U : V} {m : Int} (hu : znum p U m) {kk : Bool → Prop} (h : kk (decide (m = 0))) : wCmp T .Eq U (.int 0) fun v => truthy v kk := by
 rcases hu with rfl | ⟨rfl, _⟩
 ·show kk (veq 5 (.int m) (.int 0))
  rw [show veq 5 (.int m) (.int 0) = decide (m = 0) from dec_eq _ _]; exact h
 ·show T .qEq [.fq m p, .int 0] _
  refine H.detE (.qEq (by omega) (.inl rfl)) (by rw [bo_dec (P := m = 0) inferInstance]) ?_
  exact h
theorem vc_deg (H : TabS p hp n T) (hn : 2 ≤ n + 1) {W U1 U2 U3 : V} {a b c : Int} (hw : itV W [U1, U2, U3]) (h1 : znum p U1 a) (h2 : znum p U2 b) (h3 : znum p U3 c) (hk : k (.int (deg3 a b c))) : Vc T ir_deg xt_deg [W] k := by
 unfold deg3 at hk
 rcases hw with rfl | rfl
 all_goals
  symm
  refine zcmp H (by omega) h3 ?_
  by_cases e3 : c = 0
  ·rw [if_pos e3] at hk
   refine br_t (by simp [e3]) ?_
   symm
   refine zcmp H (by omega) h2 ?_
   by_cases e2 : b = 0
   ·rw [if_pos e2] at hk
    refine br_t (by simp [e2]) ?_
    symm
    refine zcmp H (by omega) h1 ?_
    by_cases e1 : a = 0
    ·refine br_t (by simp [e1]) ?_
     symm
     exact hk
    ·refine br_f (by simp [e1]) ?_
     symm
     exact hk
   ·rw [if_neg e2] at hk
    refine br_f (by simp [e2]) ?_
    symm
    exact hk
  ·rw [if_neg e3] at hk
   refine br_f (by simp [e3]) ?_
   symm
   exact hk
theorem nInv_ne (hp : Pr p) {a : Int} (ha : Rm p a) (h : a ≠ 0) : nInv p a ≠ 0 := fun q => by
 have := fermat hp a (by rw [Int.emod_eq_of_lt ha.1 ha.2]; exact h)
 rw [q] at this
 simp at this
theorem vc_oOprd1 (H : TabS p hp n T) (hn : 3 ≤ n + 1) {x : Q p} {a b : Int} (ha : Rm p a) (hb : Rm p b) (h0 : b ≠ 0) (hk : k (.lst [.int 0, .int (nInv p b)])) : Vc T ir_oOprd xt_oOprd [.e2 x.x p, .lst [.int 1, .int 0, .int 1], .lst [.int a, .int b, .int 0]] k := by
 haveI hp0 := hp.ge
 haveI hr := nInv_rm hp b
 unfold Rm at hr
 haveI hne := nInv_ne hp hb h0
 symm
 refine H.det (.deg (by omega) (.inl rfl) (.inl rfl) (.inl rfl) (.inl rfl)) ?_
 symm
 refine H.det (.deg (by omega) (.inl rfl) (.inl rfl) (.inl rfl) (.inl rfl)) ?_
 haveI e1 : deg3 1 0 1 = 2 := rfl
 haveI e2 : deg3 a b 0 = 1 := by unfold deg3; simp [h0]
 rw [e1, e2]
 symm
 refine H.det (.pfi (by omega) _) ?_
 symm
 refine H.det (.pfi (by omega) _) ?_
 symm
 refine H.det (.deg (by omega) (.inl rfl) (.inl rfl) (.inl rfl) (.inl rfl)) ?_
 haveI e3 : deg3 (0 + (0 - 0) * nInv p b) (0 + 1 * nInv p b) 0 = 1 := by unfold deg3; simp [hne]
 rw [e3]
 symm
 haveI e4 : (0 + (0 - 0) * nInv p b) % p = 0 := by simp
 haveI e5 : (0 + 1 * nInv p b) % p = nInv p b := by simp [Int.emod_eq_of_lt hr.1 hr.2]
 rw [e4, e5]
 exact hk
theorem vc_oOprd2 (H : TabS p hp n T) (hn : 3 ≤ n + 1) {x : Q p} {a b l : Int} (ha : Rm p a) (hb : Rm p b) (hl : Rm p l) (hb0 : b ≠ 0) (hl0 : l ≠ 0) (hk : k (.lst [.int (b * nInv p l % p)])) : Vc T ir_oOprd xt_oOprd [.e2 x.x p, .lst [.int a, .int b, .int 0], .lst [.int 1, .int l, .int 0]] k := by
 haveI hp0 := hp.ge
 haveI hr := nInv_rm hp l
 unfold Rm at hr ha hb
 symm
 refine H.det (.deg (by omega) (.inl rfl) (.inl rfl) (.inl rfl) (.inl rfl)) ?_
 symm
 refine H.det (.deg (by omega) (.inl rfl) (.inl rfl) (.inl rfl) (.inl rfl)) ?_
 have e1 : deg3 a b 0 = 1 := by unfold deg3; simp [hb0]
 haveI e2 : deg3 1 l 0 = 1 := by unfold deg3; simp [hl0]
 rw [e1, e2]
 symm
 refine H.det (.pfi (by omega) _) ?_
 symm
 refine H.det (.deg (by omega) (.inl rfl) (.inl rfl) (.inl rfl) (.inl rfl)) ?_
 haveI e3 : deg3 (0 + b * nInv p l) 0 0 = 0 := by unfold deg3; simp
 rw [e3]
 symm
 haveI e4 : (0 + b * nInv p l) % p = b * nInv p l % p := by simp
 rw [e4]
 exact hk
end
end
section
open Classical
section
variable {p : Int} {hp : Pr p} {n : Nat} {T : Tab} {k : V → Prop}
theorem inv_uniq (hp : Pr p) {x y : Q p} (h : qMul x y = qInt 1) : qInv x = y := by
 have hx : x ≠ qInt 0 := fun q => by
  rw [q, q_zero_mul] at h
  exact q_01 hp h
 have h1 := q_mul_inv hp hx
 have : qMul (qMul (qInv x) x) y = qInv x := by rw [q_mul_assoc, h, q_mul_one]
 rw [q_mul_comm (qInv x), h1, q_mul_comm, q_mul_one] at this
 exact this.symm
theorem inv_of (hp : Pr p) {x z : Q p} {c : Int} (h : qMul x z = qInt c) (hc : c % p ≠ 0) : qMul z (qInt (nInv p c)) = qInv x := by
 refine (inv_uniq hp ?_).symm
 rw [← q_mul_assoc, h, q_int_mul]
 haveI := fermat hp c hc
 refine Q.ext (F.ext ?_ rfl)
 show c * nInv p c % p = 1 % p
 haveI h7 := hp.ge
 rw [this, Int.emod_eq_of_lt (by omega) (by omega)]
theorem alg1 {p a b v l r0 c q1 q2 q4 q5 d : Int} (k1 : p * q1 + 1 = b * v) (k2 : l = -(a * v) - p * q2) (k4 : p * q4 = b - l * r0) (k5 : c = a - r0 - p * q5) (hd : c = p * d) : a * a + b * b = p * (a * (d + q5) + q4 * b - a * r0 * q1 - q2 * r0 * b) := by
 subst k2
 subst k5
 grind
theorem alg2 {p a b v r0 c g0 g1 f1 q1 q3 q5 q6 q7 : Int} (k1 : p * q1 + 1 = b * v) (j1 : c = a - r0 - p * q5) (j2 : g0 = 1 - p * q6) (j3 : f1 = -v - p * q3) (j4 : g1 = -(f1 * r0) - p * q7) : a * g0 - b * g1 = c + p * (-a * q6 + b * q7 + q5 - q1 * r0 - b * q3 * r0) := by
 subst j1 j2 j3 j4
 grind
theorem alg3 {p a b v r0 l g0 g1 f1 q2 q3 q4 q6 q7 : Int} (k2 : l = -(a * v) - p * q2) (k4 : p * q4 = b - l * r0) (j2 : g0 = 1 - p * q6) (j3 : f1 = -v - p * q3) (j4 : g1 = -(f1 * r0) - p * q7) : a * g1 + b * g0 = 0 + p * (a * q3 * r0 - a * q7 - q2 * r0 + q4 - b * q6) := by
 subst k2 j2 j3 j4
 grind
theorem pne {p : Int} (hp : Pr p) : p ≠ 0 := by have := hp.pos; omega
theorem c2 {p q l a b v : Int} (h : p * q + l = 0 - a * v - b * 0) : l = -(a * v) - p * q := by omega
theorem c3 {p q f v : Int} (h : p * q + f = 0 - 1 * v - 0 * 0) : f = -v - p * q := by omega
theorem c4 {p q b l r : Int} (h : p * q + 0 = b - 1 * 0 - l * r) : p * q = b - l * r := by omega
theorem c5 {p q c a r : Int} (h : p * q + c = a - 1 * r) : c = a - r - p * q := by omega
theorem c6 {p q g r : Int} (h : p * q + g = 1 - 0 * r) : g = 1 - p * q := by omega
theorem c7 {p q g f r : Int} (h : p * q + g = 0 - 0 * 0 - f * r) : g = -(f * r) - p * q := by omega
set_option maxHeartbeats 1000000 in
theorem vc_oInv (H : TabS p hp n T) (hn : 5 ≤ n + 1) {x : Q p} (hx : x ≠ qInt 0) (hk : k (.e2 (qInv x).x p)) : Vc T ir_oInv xt_oInv [.e2 x.x p] k := by
 haveI h0 := hp.ge
 obtain ⟨ha, hb⟩ := q_rm hp x
 have e : ∀ q : Q p, q = qInv x → k (.e2 q.x p) := fun q h => h ▸ hk
 by_cases hb0 : x.x.b = 0
 ·haveI ha0 : x.x.a % p ≠ 0 := by
   rcases q_ne hx with h | h
   ·exact h
   ·rw [hb0] at h; simp at h
  symm
  refine H.det (.deg (by omega) (.inl rfl) (.inl rfl) (.inl rfl) (.inl rfl)) ?_
  have e1 : deg3 x.x.a x.x.b 0 = 0 := by unfold deg3; simp [hb0]
  rw [e1]
  symm
  refine H.det (.tMade (by omega) ⟨1, 0⟩ (.inl rfl)) ?_
  symm
  refine H.det (.oDivI (by omega)) (e _ (inv_of hp ?_ ha0))
  show qMul x (mk' (fInt 1)) = _
  haveI : x = qInt x.x.a := Q.ext (F.ext x.h.1.symm (by show _ = (0 : Int) % p; rw [hb0]; simp))
  exact (q_mul_one x).trans this
 ·symm
  refine H.det (.deg (by omega) (.inl rfl) (.inl rfl) (.inl rfl) (.inl rfl)) ?_
  haveI e1 : deg3 x.x.a x.x.b 0 = 1 := by unfold deg3; simp [hb0]
  rw [e1]
  symm
  refine H.det (.oOprd1 (by omega) ha hb hb0) ?_
  haveI hv := nInv_rm hp x.x.b
  unfold Rm at hv
  symm
  haveI hf : x.x.b * nInv p x.x.b % p = 1 := fermat hp _ (by rw [Int.emod_eq_of_lt hb.1 hb.2]; exact hb0)
  haveI z1 : (1 - x.x.a * 0) % p = 1 := by rw [Int.mul_zero, Int.sub_zero, Int.emod_eq_of_lt (by omega) (by omega)]
  haveI z3 : (1 - x.x.a * 0 - x.x.b * nInv p x.x.b - 0 * 0) % p = 0 := by
   rw [Int.mul_zero, Int.sub_zero, Int.mul_zero, Int.sub_zero, Int.sub_emod, hf]; simp
  rw [z1, z3]
  refine (?_ : ∀ l, (0 - x.x.a * nInv p x.x.b - x.x.b * 0) % p = l → _) _ rfl; intro l hl
  rw [hl]
  haveI hlr : Rm p l := by rw [← hl]; exact ⟨Int.emod_nonneg _ (pne hp), Int.emod_lt_of_pos _ hp.pos⟩
  refine H.det (.deg (by omega) (.inl rfl) (.inl rfl) (.inl rfl) (.inl rfl)) ?_
  by_cases hl0 : l = 0
  ·haveI e2 : deg3 1 l 0 = 0 := by unfold deg3; simp [hl0]
   rw [e2]
   symm
   haveI m0 : (0 - 1 * 0) % p = 0 := by simp
   rw [m0]
   refine (?_ : ∀ f1, (0 - 1 * nInv p x.x.b - 0 * 0) % p = f1 → _) _ rfl; intro f1 hf1
   rw [hf1]
   refine H.det (.tMade (by omega) ⟨0, f1⟩ (.inl rfl)) ?_
   symm
   refine H.det (.oDivI (by omega)) (e _ (inv_of hp ?_ (by rw [Int.emod_eq_of_lt (by omega) (by omega)]; omega)))
   haveI h1 := Int.mul_ediv_add_emod (x.x.b * nInv p x.x.b) p
   haveI h2 := Int.mul_ediv_add_emod (0 - x.x.a * nInv p x.x.b - x.x.b * 0) p
   haveI h3 := Int.mul_ediv_add_emod (0 - 1 * nInv p x.x.b - 0 * 0) p
   rw [hf] at h1
   rw [hl, hl0] at h2
   rw [hf1] at h3
   haveI hm := mk_mul (p := p) x.x ⟨0, f1⟩
   rw [mk_self] at hm
   rw [hm]
   generalize x.x.b * nInv p x.x.b / p = q1 at *
   generalize (0 - x.x.a * nInv p x.x.b - x.x.b * 0) / p = q2 at *
   generalize (0 - 1 * nInv p x.x.b - 0 * 0) / p = q3 at *
   generalize nInv p x.x.b = v at *
   refine Q.ext (F.ext ?_ ?_)
   ·show (x.x.a * 0 - x.x.b * f1) % p = 1 % p
    exact emod_w (q1 + x.x.b * q3) (by grind)
   ·show (x.x.a * f1 + x.x.b * 0) % p = 0 % p
    exact emod_w (q2 - x.x.a * q3) (by grind)
  ·haveI e2 : deg3 1 l 0 = 1 := by unfold deg3; simp [hl0]
   rw [e2]
   symm
   refine H.det (.oOprd2 (by omega) ha hb hlr hb0 hl0) ?_
   have hfl : l * nInv p l % p = 1 := fermat hp _ (by rw [Int.emod_eq_of_lt hlr.1 hlr.2]; exact hl0)
   haveI h4 := Int.mul_ediv_add_emod (x.x.b * nInv p l) p
   refine (?_ : ∀ r0, x.x.b * nInv p l % p = r0 → _) _ rfl; intro r0 hr0
   haveI hrr : Rm p r0 := by rw [← hr0]; exact ⟨Int.emod_nonneg _ (pne hp), Int.emod_lt_of_pos _ hp.pos⟩
   rw [hr0] at h4 ⊢
   haveI m0 : (0 - 1 * 0) % p = 0 := by simp
   haveI m2 : (0 - 1 * 0 - 0 * nInv p x.x.b - 0 * 0) % p = 0 := by simp
   rw [m0, m2]
   refine (?_ : ∀ f1, (0 - 1 * nInv p x.x.b - 0 * 0) % p = f1 → _) _ rfl; intro f1 hf1
   rw [hf1]
   unfold Rm at hrr hlr
   symm
   haveI h5 := Int.mul_ediv_add_emod (l * nInv p l) p
   rw [hfl] at h5
   haveI w1 : (x.x.b - 1 * 0 - l * r0) % p = 0 := by
    generalize l * nInv p l / p = q5 at *
    generalize x.x.b * nInv p l / p = q4 at *
    generalize nInv p l = m at *
    exact dvd_of_emod.mpr ⟨l * q4 - x.x.b * q5, by grind⟩
   haveI w2 : (0 - 1 * 0 - l * 0 - 0 * r0) % p = 0 := by simp
   rw [w1, w2]
   refine (?_ : ∀ c, (x.x.a - 1 * r0) % p = c → _) _ rfl; intro c hc
   obtain ⟨g0, hg0⟩ : ∃ c, (1 - 0 * r0) % p = c := ⟨_, rfl⟩
   obtain ⟨g1, hg1⟩ : ∃ c, (0 - 0 * 0 - f1 * r0) % p = c := ⟨_, rfl⟩
   rw [hc, hg0, hg1]
   refine H.det (.deg (by omega) (.inl rfl) (.inl rfl) (.inl rfl) (.inl rfl)) ?_
   have e3 : deg3 c 0 0 = 0 := by unfold deg3; simp
   rw [e3]
   symm
   refine H.det (.tMade (by omega) ⟨g0, g1⟩ (.inl rfl)) ?_
   symm
   haveI k1 := Int.mul_ediv_add_emod (x.x.b * nInv p x.x.b) p
   rw [hf] at k1
   haveI k2 := Int.mul_ediv_add_emod (0 - x.x.a * nInv p x.x.b - x.x.b * 0) p
   rw [hl] at k2
   haveI k3 := Int.mul_ediv_add_emod (0 - 1 * nInv p x.x.b - 0 * 0) p
   rw [hf1] at k3
   haveI k4 := Int.mul_ediv_add_emod (x.x.b - 1 * 0 - l * r0) p
   rw [w1] at k4
   haveI k5 := Int.mul_ediv_add_emod (x.x.a - 1 * r0) p
   rw [hc] at k5
   haveI k6 := Int.mul_ediv_add_emod (1 - 0 * r0) p
   rw [hg0] at k6
   haveI k7 := Int.mul_ediv_add_emod (0 - 0 * 0 - f1 * r0) p
   rw [hg1] at k7
   haveI hm := mk_mul (p := p) x.x ⟨g0, g1⟩
   rw [mk_self] at hm
   haveI hn0 : fNorm x.x % p ≠ 0 := fun q => by
    obtain ⟨_, h2⟩ := (norm0 hp q)
    rw [Int.emod_eq_of_lt hb.1 hb.2] at h2
    exact hb0 h2
   clear hf hl hf1 w1 w2 hc hg0 hg1 h4 h5 hfl hr0 m0 m2 z1 z3
   generalize x.x.b * nInv p x.x.b / p = q1 at *
   generalize (0 - x.x.a * nInv p x.x.b - x.x.b * 0) / p = q2 at *
   generalize (0 - 1 * nInv p x.x.b - 0 * 0) / p = q3 at *
   generalize (x.x.b - 1 * 0 - l * r0) / p = q4 at *
   generalize (x.x.a - 1 * r0) / p = q5 at *
   generalize (1 - 0 * r0) / p = q6 at *
   generalize (0 - 0 * 0 - f1 * r0) / p = q7 at *
   generalize nInv p x.x.b = v at *
   haveI hc0 : c % p ≠ 0 := fun q => hn0 (by
    obtain ⟨d, hd⟩ := dvd_of_emod.mp q
    exact dvd_of_emod.mpr ⟨_, alg1 (a := x.x.a) (b := x.x.b) (v := v) (c := c) (d := d) k1 (c2 k2) (c4 k4) (c5 k5) hd⟩)
   refine H.det (.oDivI (by omega)) (e _ (inv_of hp ?_ hc0))
   rw [hm]
   refine Q.ext (F.ext ?_ ?_)
   ·show (x.x.a * g0 - x.x.b * g1) % p = c % p
    exact emod_w _ (alg2 (a := x.x.a) (b := x.x.b) (v := v) (c := c) (r0 := r0) k1 (c5 k5) (c6 k6) (c3 k3) (c7 k7))
   ·show (x.x.a * g1 + x.x.b * g0) % p = 0 % p
    exact emod_w _ (alg3 (a := x.x.a) (b := x.x.b) (l := l) (v := v) (c2 k2) (c4 k4) (c6 k6) (c3 k3) (c7 k7))
end
end
section
open Classical
section
variable {p : Int} {hp : Pr p} {n : Nat} {T : Tab} {k : V → Prop}
theorem vc_oDiv (H : TabS p hp n T) (hn : 6 ≤ n + 1) {x y : Q p} (hy : y ≠ qInt 0) (hk : k (.e2 (qMul x (qInv y)).x p)) : Vc T ir_oDiv [] [.e2 x.x p, .e2 y.x p] k := by
 symm
 refine H.det (.oInv (by omega) hy) ?_
 symm
 exact H.det (.oMul (t := false) (i := 0) (j := 0) (by omega)) hk
theorem vc_oPow2 (H : TabS p hp n T) (hn : 5 ≤ n + 1) {x : Q p} (hk : k (.e2 (qMul x x).x p)) : Vc T ir_oPow xt_oPow [.e2 x.x p, .int 2] k := by
 symm
 refine H.det (.tMade (by omega) ⟨1, 0⟩ (.inl rfl)) ?_
 symm
 refine H.det (.oMul (t := false) (i := 0) (j := 0) (by omega)) ?_
 symm
 refine H.det (.oMul (t := false) (i := 0) (j := 0) (y := qMul x x) (by omega)) ?_
 symm
 refine H.det (.oMul (t := false) (i := 0) (j := 0) (x := qMul x x) (y := qMul x x) (by omega)) ?_
 symm
 have : qMul (mk' ⟨1, 0⟩) (qMul x x) = qMul x x := (q_mul_comm _ _).trans (q_mul_one _)
 rw [this]; exact hk
theorem vc_oPow3 (H : TabS p hp n T) (hn : 5 ≤ n + 1) {x : Q p} (hk : k (.e2 (qMul (qMul x x) x).x p)) : Vc T ir_oPow xt_oPow [.e2 x.x p, .int 3] k := by
 symm
 refine H.det (.tMade (by omega) ⟨1, 0⟩ (.inl rfl)) ?_
 symm
 refine H.det (.oMul (t := false) (i := 0) (j := 0) (y := x) (by omega)) ?_
 symm
 refine H.det (.oMul (t := false) (i := 0) (j := 0) (by omega)) ?_
 symm
 refine H.det (.oMul (t := false) (i := 0) (j := 0) (x := qMul (mk' ⟨1, 0⟩) x) (y := qMul x x) (by omega)) ?_
 symm
 refine H.det (.oMul (t := false) (i := 0) (j := 0) (x := qMul x x) (y := qMul x x) (by omega)) ?_
 symm
 have : qMul (qMul (mk' ⟨1, 0⟩) x) (qMul x x) = qMul (qMul x x) x := by
  have e1 : qMul (mk' ⟨1, 0⟩) x = x := (q_mul_comm _ _).trans (q_mul_one _)
  rw [e1, q_mul_comm]
 rw [this]; exact hk
theorem wb_mul (H : TabS p hp n T) (hn : 4 ≤ n) {t : Bool} {i j : Nat} {x y : Q p} (hk : k (ev t (i + j) (qMul x y))) : wBin T .Mult (ev t i x) (ev t j y) k := by
 cases t
 ·show T .oMul [ev false i x, ev false j y] k
  exact H.det (.oMul hn) hk
 ·show T .oMul [ev true i x, ev true j y] k
  exact H.det (.oMul hn) hk
theorem wb_sub (H : TabS p hp n T) (hn : 4 ≤ n) {t : Bool} {i j : Nat} {x y : Q p} (hij : t = true → i = j) (hk : k (ev t i (qSub x y))) : wBin T .Sub (ev t i x) (ev t j y) k := by
 cases t
 ·show T .oSub [ev false i x, ev false i y] k
  exact H.det (.oSub hn) hk
 ·cases hij rfl
  show T .oSub [ev true i x, ev true i y] k
  exact H.det (.oSub hn) hk
theorem wb_int (H : TabS p hp n T) (hn : 5 ≤ n) {t : Bool} {i : Nat} {a : Int} {x : Q p} (hs : Sm a) (hk : k (ev t i (qMul (qInt a) x))) : wBin T .Mult (.int a) (ev t i x) k := by
 cases t
 ·show T .oRmul [ev false i x, .int a] k
  exact H.det (.oRmul hn hs) hk
 ·show T .oRmul [ev true i x, .int a] k
  exact H.det (.oRmul hn hs) hk
theorem wc_eq (H : TabS p hp n T) (hn : 1 ≤ n) {t : Bool} {i j : Nat} {x y : Q p} (hij : t = true → i = j) (hk : k (Bo (x = y))) : wCmp T .Eq (ev t i x) (ev t j y) k := by
 cases t
 ·show T .oEq [ev false i x, ev false i y] k
  exact H.det (.oEq hn) hk
 ·cases hij rfl
  show T .oEq [ev true i x, ev true i y] k
  exact H.det (.oEq hn) hk
theorem om_one {t : Bool} {i : Nat} {x : Q p} {K : Fn → Prop} (h : K .oOne) : onMeth (ev t i x) .one K := by cases t <;> exact h
theorem om_zero {t : Bool} {i : Nat} {x : Q p} {K : Fn → Prop} (h : K .oZero) : onMeth (ev t i x) .zero K := by cases t <;> exact h
local macro_rules | `(tactic| walk_at "vd") => `(tactic| ((repeat (walk_at "vc"; first | (refine wb_int (by assumption) (by omega) (by unfold Sm; omega) ?_) | (refine wb_mul (by assumption) (by omega) ?_) | (refine wb_sub (by assumption) (by omega) (fun J => rfl) ?_))); (try (walk_at "vc"))))
theorem vc_isInf (H : TabS p hp n T) (hn : 5 ≤ n + 1) {t : Bool} {i j m : Nat} {a : Q p × Q p × Q p} (hk : k (Bo (a.2.2 = qInt 0))) : Vc T ir_isInf [] [pj t i j m a] k := by
 symm
 refine om_zero ?_
 symm
 refine H.det (.oZero (by omega) m) ?_
 symm
 exact wc_eq H (by omega) (fun J => rfl) hk
theorem vc_dbl (H : TabS p hp n T) (hn : 6 ≤ n + 1) {t : Bool} {a : Q p × Q p × Q p} (hk : k (pj t 7 6 9 (qdbl3 hp a))) : Vc T ir_dbl xt_dbl [pj t 1 0 3 a] k := by
 walk_at "vd"
 exact hk
theorem tr_bo {P : Prop} {kk : Bool → Prop} (h : kk (decide P)) : truthy (Bo P) kk := h
theorem br_bo {P : Prop} {A B : Prop} (h1 : P → A) (h2 : ¬ P → B) : br (decide P) A B := by
 by_cases h : P
 ·exact br_t (by simp [h]) (h1 h)
 ·exact br_f (by simp [h]) (h2 h)
theorem vc_eq (H : TabS p hp n T) (hn : 6 ≤ n + 1) {t : Bool} {i j m i' j' m' : Nat} {a b : Q p × Q p × Q p} (ht : t = false ∨ (i + m' = i' + m ∧ j + m' = j' + m)) (hk : k (Bo (eq3 a b))) : Vc T ir_eq xt_eq [pj t i j m a, pj t i' j' m' b] k := by
 walk_at "vd"
 refine wc_eq H (by omega) (fun q => by
  rcases ht with h | h
  ·rw [h] at q; cases q
  ·exact h.1) ?_
 by_cases h1 : qMul a.1 b.2.2 = qMul b.1 a.2.2
 ·rw [← bo_pos h1]
  walk_at "vd"
  refine wc_eq H (by omega) (fun q => by
   rcases ht with h | h
   ·rw [h] at q; cases q
   ·exact h.2) ?_
  haveI : Bo (eq3 a b) = Bo (qMul a.2.1 b.2.2 = qMul b.2.1 a.2.2) := by unfold Bo eq3; congr 1; simp [h1]
  rw [this] at hk
  exact hk
 ·rw [← bo_neg h1]
  conv => whnf
  rw [← bo_neg (P := eq3 a b) (fun q => h1 q.1)] at hk
  exact hk
theorem vc_norm (H : TabS p hp n T) (hn : 7 ≤ n + 1) {x y z : Q p} (hz : z ≠ qInt 0) (hk : k (.tup [.e2 (qMul x (qInv z)).x p, .e2 (qMul y (qInv z)).x p])) : Vc T ir_norm xt_norm [pj false 0 0 0 (x, y, z)] k := by
 symm
 refine H.det (.oDiv (x := x) (y := z) (by omega) hz) ?_
 symm
 refine H.det (.oDiv (x := y) (y := z) (by omega) hz) ?_
 symm
 exact hk
theorem vc_neg (H : TabS p hp n T) (hn : 5 ≤ n + 1) {x y z : Q p} (hk : k (pj false 0 0 0 (x, qNeg y, z))) : Vc T ir_neg xt_neg [pj false 0 0 0 (x, y, z)] k := by
 symm
 refine H.det (.oNeg (x := y) (by omega)) ?_
 symm
 exact hk
theorem vc_onC (H : TabS p hp n T) (hn : 6 ≤ n + 1) {a : Q p × Q p × Q p} {c : Q p} (hk : k (Bo (on3 c a))) (f : Fn) (hf : f = .isInf ∨ f = .isInf2) : Vc T (irf_onC f) xt_onC [pj false 0 0 0 a, .e2 c.x p] k := by
 obtain ⟨x, y, z⟩ := a
 symm
 refine H.det (.isInf (t := false) (i := 0) (j := 0) (k := 0) (a := (x, y, z)) (by omega) hf) ?_
 refine tr_bo (br_bo (fun h => ?_) fun h => ?_)
 ·walk_at "vc"
  rw [bo_pos (P := on3 c (x, y, z)) (.inl h)]
  exact hk
 ·symm
  refine H.det (.oPow2 (x := y) (by omega)) ?_
  symm
  refine H.det (.oMul (t := false) (i := 0) (j := 0) (x := qMul y y) (y := z) (by omega)) ?_
  symm
  refine H.det (.oPow3 (x := x) (by omega)) ?_
  symm
  refine H.det (.oSub (t := false) (i := 0) (x := qMul (qMul y y) z) (y := qMul (qMul x x) x) (by omega)) ?_
  symm
  refine H.det (.oPow3 (x := z) (by omega)) ?_
  symm
  refine H.det (.oMul (t := false) (i := 0) (j := 0) (x := c) (y := qMul (qMul z z) z) (by omega)) ?_
  symm
  refine H.det (.oEq (t := false) (i := 0) (x := qSub (qMul (qMul y y) z) (qMul (qMul x x) x)) (y := qMul c (qMul (qMul z z) z)) (by omega)) ?_
  haveI : Bo (on3 c (x, y, z)) = Bo (qSub (qMul (qMul y y) z) (qMul (qMul x x) x) = qMul c (qMul (qMul z z) z)) := by
   haveI h' : z ≠ qInt 0 := h
   unfold Bo on3; congr 1; simp [h']
  rw [← this]
  exact hk
open Classical
theorem qadd3_inf {x1 y1 z1 x2 y2 z2 : Q p} (h : z1 = qInt 0 ∨ z2 = qInt 0) : qadd3 hp (x1, y1, z1) (x2, y2, z2) = if z2 = qInt 0 then (x1, y1, z1) else (x2, y2, z2) := by
 unfold qadd3 add3
 exact if_pos h
theorem qadd3_dbl {x1 y1 z1 x2 y2 z2 : Q p} (h1 : ¬ z1 = qInt 0) (h2 : ¬ z2 = qInt 0) (hv : qMul x2 z1 = qMul x1 z2) (hu : qMul y2 z1 = qMul y1 z2) : qadd3 hp (x1, y1, z1) (x2, y2, z2) = qdbl3 hp (x1, y1, z1) := by
 unfold qadd3 add3
 refine (if_neg (fun q => ?_)).trans (if_pos ⟨hv, hu⟩)
 rcases q with q | q
 ·exact h1 q
 ·exact h2 q
theorem qadd3_opp {x1 y1 z1 x2 y2 z2 : Q p} (h1 : ¬ z1 = qInt 0) (h2 : ¬ z2 = qInt 0) (hv : qMul x2 z1 = qMul x1 z2) (hu : ¬ qMul y2 z1 = qMul y1 z2) : qadd3 hp (x1, y1, z1) (x2, y2, z2) = (qInt 1, qInt 1, qInt 0) := by
 unfold qadd3 add3
 refine (if_neg (fun q => ?_)).trans ((if_neg fun q => hu q.2).trans (if_pos hv))
 rcases q with q | q
 ·exact h1 q
 ·exact h2 q
theorem qadd3_gen {x1 y1 z1 x2 y2 z2 : Q p} (h1 : ¬ z1 = qInt 0) (h2 : ¬ z2 = qInt 0) (hv : ¬ qMul x2 z1 = qMul x1 z2) {w : Q p × Q p × Q p} (hw : w = (let U := qSub (qMul y2 z1) (qMul y1 z2); let W := qSub (qMul x2 z1) (qMul x1 z2); let A := qSub (qSub (qMul (qMul U U) (qMul z1 z2)) (qMul W (qMul W W))) (qMul (qInt 2) (qMul (qMul W W) (qMul x1 z2)))
  (qMul W A, qSub (qMul U (qSub (qMul (qMul W W) (qMul x1 z2)) A)) (qMul (qMul W (qMul W W)) (qMul y1 z2)), qMul (qMul W (qMul W W)) (qMul z1 z2)))) : qadd3 hp (x1, y1, z1) (x2, y2, z2) = w := by
 rw [hw]
 unfold qadd3 add3
 refine (if_neg (fun q => ?_)).trans ((if_neg fun q => hv q.1).trans (if_neg hv))
 rcases q with q | q
 ·exact h1 q
 ·exact h2 q
set_option maxHeartbeats 1000000 in
theorem vc_add (H : TabS p hp n T) (hn : 7 ≤ n + 1) {t : Bool} {a b : Q p × Q p × Q p} (hk : ∀ v, (∃ i j m, v = pj t i j m (qadd3 hp a b) ∧ (a.2.2 ≠ qInt 0 → b.2.2 ≠ qInt 0 → (qadd3 hp a b).2.2 ≠ qInt 0 → (i = 16 ∧ j = 15 ∧ m = 18) ∨ (i = 7 ∧ j = 6 ∧ m = 9))) → k v) (f : Fn) (hf : f = .dbl ∨ f = .dbl2) : Vc T (irf_add f) xt_add [pj t 1 0 3 a, pj t 1 0 3 b] k := by
 obtain ⟨x1, y1, z1⟩ := a
 obtain ⟨x2, y2, z2⟩ := b
 symm
 refine om_one ?_
 symm
 refine H.det (.oOne (by omega)) ?_
 symm
 refine om_zero ?_
 symm
 refine H.det (.oZero (by omega) 3) ?_
 symm
 refine wc_eq H (by omega) (fun J => rfl) (tr_bo (br_bo (fun h1 => ?_) fun h1 => ?_))
 ·symm
  refine wc_eq H (by omega) (fun J => rfl) (tr_bo (br_bo (fun h2 => ?_) fun h2 => ?_))
  ·symm
   refine hk _ ⟨1, 0, 3, ?_, fun q => absurd h1 q⟩
   rw [qadd3_inf (.inl h1), if_pos h2]
  ·symm
   refine hk _ ⟨1, 0, 3, ?_, fun q => absurd h1 q⟩
   rw [qadd3_inf (.inl h1), if_neg h2]
 ·symm
  refine wc_eq H (by omega) (fun J => rfl) (tr_bo (br_bo (fun h2 => ?_) fun h2 => ?_))
  ·symm
   refine wc_eq H (by omega) (fun J => rfl) (tr_bo (br_bo (fun h3 => ?_) fun h3 => absurd h2 h3))
   symm
   refine hk _ ⟨1, 0, 3, ?_, fun J q => absurd h2 q⟩
   rw [qadd3_inf (.inr h2), if_pos h2]
  ·walk_at "vd"
   refine wc_eq H (by omega) (fun J => rfl) (tr_bo (br_bo (fun hv => ?_) fun hv => ?_))
   ·symm
    refine wc_eq H (by omega) (fun J => rfl) (tr_bo (br_bo (fun hu => ?_) fun hu => ?_))
    ·symm
     refine H.det (.dbl (t := t) (a := (x1, y1, z1)) (by omega) hf) ?_
     refine hk _ ⟨7, 6, 9, ?_, fun J J J => .inr ⟨rfl, rfl, rfl⟩⟩
     rw [qadd3_dbl h1 h2 hv hu]
    ·symm
     refine wc_eq H (by omega) (fun J => rfl) (tr_bo (br_bo (fun hv' => ?_) fun hv' => absurd hv hv'))
     symm
     haveI e := qadd3_opp (hp := hp) h1 h2 hv hu
     refine hk _ ⟨0, 0, 3, ?_, fun J J q => ?_⟩
     ·rw [e]; rfl
     ·rw [e] at q; exact absurd rfl q
   ·symm
    refine wc_eq H (by omega) (fun J => rfl) (tr_bo (br_bo (fun hv' => absurd hv' hv) fun hv' => ?_))
    walk_at "vd"
    refine hk _ ⟨16, 15, 18, ?_, fun J J J => .inl ⟨rfl, rfl, rfl⟩⟩
    rw [qadd3_gen h1 h2 hv rfl]
    rfl
theorem pj_false (i j m : Nat) (a : Q p × Q p × Q p) : pj false i j m a = pj false 0 0 0 a := rfl
theorem qmF_st : ∀ (f g : Nat) (a : Q p × Q p × Q p) (n : Nat), n ≤ f → n ≤ g → qmF hp f a n = qmF hp g a n
 | 0, g, a, n, h, _ => by
  obtain rfl : n = 0 := Nat.le_zero.mp h
  cases g <;> rfl
 | f + 1, g, a, 0, _, _ => by cases g <;> rfl
 | f + 1, 0, a, n + 1, _, h => absurd h (Nat.not_succ_le_zero _)
 | f + 1, g + 1, a, 1, _, _ => rfl
 | f + 1, g + 1, a, n + 2, h1, h2 => by
  haveI e := qmF_st f g (qdbl3 hp a) ((n + 2) / 2) (by omega) (by omega)
  show (if n % 2 = 0 then qmF hp f (qdbl3 hp a) ((n + 2) / 2) else qadd3 hp (qmF hp f (qdbl3 hp a) ((n + 2) / 2)) a) = _
  rw [e]; rfl
theorem qmul3_0 (a : Q p × Q p × Q p) : qmul3 hp a 0 = (qInt 1, qInt 1, qInt 0) := rfl
theorem qmul3_1 (a : Q p × Q p × Q p) : qmul3 hp a 1 = a := rfl
theorem qmul3_even (a : Q p × Q p × Q p) (e : Nat) (h : e % 2 = 0) : qmul3 hp a (e + 2) = qmul3 hp (qdbl3 hp a) ((e + 2) / 2) := (if_pos h).trans (qmF_st _ _ _ _ (by omega) (Nat.le_refl _))
theorem qmul3_odd (a : Q p × Q p × Q p) (e : Nat) (h : ¬ e % 2 = 0) : qmul3 hp a (e + 2) = qadd3 hp (qmul3 hp (qdbl3 hp a) ((e + 2) / 2)) a := (if_neg h).trans (congrArg (fun q => qadd3 hp q a) (qmF_st _ _ _ _ (by omega) (Nat.le_refl _)))
theorem vc_mul (H : TabS p hp n T) {a : Q p × Q p × Q p} (e : Nat) (hn : 8 + e ≤ n + 1) (hk : k (pj false 0 0 0 (qmul3 hp a e))) (fm fd fa : Fn) (hfm : fm = .mul ∨ fm = .mul2) (hfd : fd = .dbl ∨ fd = .dbl2) (hfa : fa = .add ∨ fa = .add2) : Vc T (irf_mul fm fd fa) [] [pj false 0 0 0 a, .int e] k := by
 match e, hn, hk with
 | 0, hn, hk =>
  rw [qmul3_0] at hk
  symm
  refine H.det (.oOne (t := false) (i := 0) (x := a.1) (by omega)) ?_
  symm
  refine H.det (.oOne (t := false) (i := 0) (x := a.1) (by omega)) ?_
  symm
  refine H.det (.oZero (t := false) (i := 0) (x := a.1) (by omega) 0) ?_
  symm
  exact hk
 | 1, hn, hk =>
  rw [qmul3_1] at hk
  symm
  exact hk
 | e + 2, hn, hk =>
  haveI hd : ((e + 2 : Nat) : Int) / 2 = (((e + 2) / 2 : Nat) : Int) := by omega
  haveI n0 : veq 5 (.int ((e + 2 : Nat) : Int)) (.int 0) = false := veq_int_f (by omega)
  haveI n1 : veq 5 (.int ((e + 2 : Nat) : Int)) (.int 1) = false := veq_int_f (by omega)
  conv => whnf
  refine ⟨by omega, ?_⟩
  by_cases h : e % 2 = 0
  ·have m0 : ((e + 2 : Nat) : Int) % 2 = 0 := by omega
   rw [m0]
   rw [qmul3_even _ _ h] at hk
   conv => whnf
   refine H.det (.dbl (t := false) (a := a) (by omega) hfd) ?_
   symm
   rw [hd]
   exact H.det (.mul hfm (a := qdbl3 hp a) ((e + 2) / 2) (by omega)) hk
  ·have m0 : ((e + 2 : Nat) : Int) % 2 = 1 := by omega
   rw [m0]
   rw [qmul3_odd _ _ h] at hk
   conv => whnf
   refine H.det (.dbl (t := false) (a := a) (by omega) hfd) ?_
   symm
   rw [hd]
   refine H.det (.mul hfm (a := qdbl3 hp a) ((e + 2) / 2) (by omega)) ?_
   symm
   refine H.any (.add (t := false) (by omega) hfa (a := qmul3 hp (qdbl3 hp a) ((e + 2) / 2)) (b := a)) ?_
   intro v zz; obtain ⟨i, j, m, rfl, _⟩ := (zz)
   exact hk
theorem vc_twist (H : TabS p hp n T) (hn : 4 ≤ n + 1) {a : Q p × Q p × Q p} {cs : List Int} (hk : k (pj true 1 0 3 a)) : Vc T ir_twist xt_twist [pj false 0 0 0 a, .e12 cs p] k := by
 obtain ⟨x, y, z⟩ := a
 haveI key : ∀ (j : Nat), j < 6 → ∀ u : Q p, (two j (u.x.a - u.x.b) u.x.b).map (· % p) = mono j u := fun j hj u => by
  rw [two_map rfl u.h.2]
  unfold mono
  haveI e1 : j % 6 = j := Nat.mod_eq_of_lt hj
  haveI e2 : j / 6 = 0 := Nat.div_eq_of_lt hj
  rw [e1, e2, mono0_two]
  haveI : qMul u (qPow ww 0) = u := q_mul_one u
  rw [this]
 symm
 refine H.detE (.oMade (by omega) (two 1 (x.x.a - x.x.b) x.x.b) rfl (.inl rfl)) (by rw [key 1 (by omega) x]) ?_
 symm
 refine H.detE (.oMade (by omega) (two 0 (y.x.a - y.x.b) y.x.b) rfl (.inl rfl)) (by rw [key 0 (by omega) y]) ?_
 symm
 refine H.detE (.oMade (by omega) (two 3 (z.x.a - z.x.b) z.x.b) rfl (.inl rfl)) (by rw [key 3 (by omega) z]) ?_
 symm
 exact hk
end
end
section
open Classical
theorem rm_mod {p : Int} (hp : Pr p) (e : Int) : Rm p (e % p) := ⟨Int.emod_nonneg _ (by have := hp.pos; omega), Int.emod_lt_of_pos _ hp.pos⟩
theorem q_ra {p : Int} (hp : Pr p) (x : Q p) : Rm p x.x.a := (q_rm hp x).1
theorem q_rb {p : Int} (hp : Pr p) (x : Q p) : Rm p x.x.b := (q_rm hp x).2
local macro_rules | `(tactic| walk_at "rm") => `(tactic| first | assumption | exact q_ra (by assumption) _ | exact q_rb (by assumption) _ | exact rm_mod (by assumption) _ | exact nInv_rm (by assumption) _)
local macro_rules | `(tactic| walk_at "zn") => `(tactic| first | exact Or.inl rfl | exact Or.inr ⟨rfl, by walk_at "rm"⟩)
local macro_rules | `(tactic| walk_at "vf") => `(tactic| ((repeat (symm; refine TabS.det (by assumption) (by (first | apply Sp.qAdd | apply Sp.qSub | apply Sp.qMul | apply Sp.qDiv | apply Sp.qRsub | apply Sp.qRdiv | apply Sp.qRmul | apply Sp.qNeg | apply Sp.qInt | apply Sp.fFqc) <;> first | omega | walk_at "rm" | walk_at "zn") ?_)); (try (walk_at "vc"))))
section
variable {p : Int} {hp : Pr p} {n : Nat} {T : Tab} {k : V → Prop}
theorem vc_fAdd (H : TabS p hp n T) (hn : 6 ≤ n + 1) {x y : Q p} (hk : k (fpv (qAdd x y))) : Vc T ir_fAdd [] [fpv x, fpv y] k := by
 walk_at "vf"
 exact H.det (.fMade (x := x) (by omega) (qAdd x y) (.inl rfl) (.inr ⟨_, rfl⟩) (.inr ⟨_, rfl⟩)) hk
theorem vc_fSub (H : TabS p hp n T) (hn : 6 ≤ n + 1) {x y : Q p} (hk : k (fpv (qSub x y))) : Vc T ir_fSub [] [fpv x, fpv y] k := by
 walk_at "vf"
 exact H.det (.fMade (x := x) (by omega) (qSub x y) (.inl rfl) (.inr ⟨_, rfl⟩) (.inr ⟨_, rfl⟩)) hk
theorem vc_fNeg (H : TabS p hp n T) (hn : 6 ≤ n + 1) {x : Q p} (hk : k (fpv (qNeg x))) : Vc T ir_fNeg [] [fpv x] k := by
 walk_at "vf"
 exact H.det (.fMade (x := x) (by omega) (qNeg x) (.inl rfl) (.inr ⟨_, rfl⟩) (.inr ⟨_, rfl⟩)) hk
theorem vc_fMul (H : TabS p hp n T) (hn : 6 ≤ n + 1) {x y : Q p} (hk : k (fpv (qMul x y))) : Vc T ir_fMul xt_fMul [fpv x, fpv y] k := by
 walk_at "vf"
 haveI e1 : ((0 % p + x.x.a * y.x.a % p) % p - (0 % p + x.x.b * y.x.b % p) % p * (1 % p) % p) % p = (x.x.a * y.x.a - x.x.b * y.x.b) % p := by
  rw [show (0 % p + x.x.b * y.x.b % p) % p * (1 % p) % p = (x.x.b * y.x.b) % p from by rw [← Int.mul_emod]; simp]
  simp
 haveI e2 : ((((0 % p + x.x.a * y.x.b % p) % p + x.x.b * y.x.a % p) % p - (0 % p + x.x.b * y.x.b % p) % p * (0 % p) % p) % p) = (x.x.a * y.x.b + x.x.b * y.x.a) % p := by simp
 rw [e1, e2]
 exact H.det (.fMade (x := x) (by omega) (qMul x y) (.inl rfl) (.inr ⟨_, rfl⟩) (.inr ⟨_, rfl⟩)) hk
theorem fsmul {x : Q p} {a b i : Int} (ha : a = x.x.a * i % p) (hb : b = x.x.b * i % p) : a = (qMul x (qInt i)).x.a ∧ b = (qMul x (qInt i)).x.b := by
 haveI e : qMul x (qInt i) = mk' ⟨x.x.a * i, x.x.b * i⟩ := by
  haveI := mk_mul (p := p) x.x (fInt i)
  rw [mk_self] at this
  show qMul x (mk' (fInt i)) = _
  rw [this]; congr 1; unfold fMul fInt; refine F.ext ?_ ?_ <;> simp
 rw [e]
 exact ⟨ha, hb⟩
theorem vc_fMulI (H : TabS p hp n T) (hn : 6 ≤ n + 1) {x : Q p} {i : Int} (hk : k (fpv (qMul x (qInt i)))) : Vc T ir_fMul xt_fMul [fpv x, .int i] k := by
 walk_at "vf"
 obtain ⟨h1, h2⟩ := (fsmul (x := x) (i := i) rfl rfl)
 exact H.det (.fMade (x := x) (by omega) (qMul x (qInt i)) (.inl rfl) (.inr ⟨p, by rw [h1]⟩) (.inr ⟨p, by rw [h2]⟩)) hk
theorem vc_fRmul (H : TabS p hp n T) (hn : 7 ≤ n + 1) {x : Q p} {i : Int} (hk : k (fpv (qMul x (qInt i)))) : Vc T ir_fRmul [] [fpv x, .int i] k := by
 walk_at "vf"
 exact H.det (.fMulI (x := x) (by omega)) hk
theorem vc_fDivI (H : TabS p hp n T) (hn : 6 ≤ n + 1) {x : Q p} {i : Int} (hk : k (fpv (qMul x (qInt (nInv p i))))) : Vc T ir_fDiv [] [fpv x, .int i] k := by
 walk_at "vf"
 obtain ⟨h1, h2⟩ := (fsmul (x := x) (i := nInv p i) rfl rfl)
 exact H.det (.fMade (x := x) (by omega) (qMul x (qInt (nInv p i))) (.inl rfl) (.inr ⟨p, by rw [h1]⟩) (.inr ⟨p, by rw [h2]⟩)) hk
theorem vc_fPow1 (H : TabS p hp n T) (hn : 6 ≤ n + 1) {x : Q p} (hk : k (fpv x)) : Vc T ir_fPow [] [fpv x, .int 1] k := by
 walk_at "vf"
 exact H.det (.fMade (x := x) (by omega) x (.inr rfl) (.inr ⟨_, rfl⟩) (.inr ⟨_, rfl⟩)) hk
theorem vc_fPow2 (H : TabS p hp n T) (hn : 7 ≤ n + 1) {x : Q p} (hk : k (fpv (qMul x x))) : Vc T ir_fPow [] [fpv x, .int 2] k := by
 walk_at "vf"
 refine H.det (.fMul (x := x) (y := x) (by omega)) ?_
 walk_at "vf"
 exact H.det (.fPow1 (x := qMul x x) (by omega)) hk
theorem vc_fPow3 (H : TabS p hp n T) (hn : 7 ≤ n + 1) {x : Q p} (hk : k (fpv (qMul (qMul x x) x))) : Vc T ir_fPow [] [fpv x, .int 3] k := by
 walk_at "vf"
 refine H.det (.fMul (x := x) (y := x) (by omega)) ?_
 walk_at "vf"
 refine H.det (.fPow1 (x := qMul x x) (by omega)) ?_
 walk_at "vf"
 exact H.det (.fMul (x := qMul x x) (y := x) (by omega)) hk
theorem vc_fDiv (H : TabS p hp n T) (hn : 8 ≤ n + 1) {x y : Q p} (hy : y ≠ qInt 0) (hk : k (fpv (qMul x (qInv y)))) : Vc T ir_fDiv [] [fpv x, fpv y] k := by
 walk_at "vf"
 refine H.det (.fInv (x := y) (by omega) hy) ?_
 walk_at "vf"
 exact H.det (.fMul (x := x) (y := qInv y) (by omega)) hk
theorem vc_fEq (H : TabS p hp n T) (hn : 3 ≤ n + 1) {x y : Q p} (hk : k (Bo (x = y))) : Vc T ir_fEq xt_fEq [fpv x, fpv y] k := by
 walk_at "vf"
 refine H.det (.qNe (by omega) (q_ra hp y)) ?_
 refine tr_bo (br_bo (fun h1 => ?_) fun h1 => ?_)
 ·walk_at "vf"
  rw [bo_neg (P := x = y) (fun q => h1 (by rw [q]))]
  exact hk
 ·walk_at "vf"
  refine H.det (.qNe (by omega) (q_rb hp y)) ?_
  refine tr_bo (br_bo (fun h2 => ?_) fun h2 => ?_)
  ·walk_at "vf"
   rw [bo_neg (P := x = y) (fun q => h2 (by rw [q]))]
   exact hk
  ·walk_at "vf"
   rw [bo_pos (P := x = y) (Q.ext (F.ext (Classical.byContradiction h1) (Classical.byContradiction h2)))]
   exact hk
theorem vc_prd1 (H : TabS p hp n T) (hn : 4 ≤ n + 1) {a b : Int} (ha : Rm p a) (hb : Rm p b) (h0 : b ≠ 0) (hk : k (.tup [.int 0, .int (nInv p b)])) : Vc T ir_prd xt_prd [.lst [.int 1, .int 0, .int 1], .lst [.fq a p, .fq b p, .int 0]] k := by
 haveI hne := nInv_ne hp hb h0
 symm
 refine H.det (.deg (by omega) (.inl rfl) (.inl rfl) (.inl rfl) (.inl rfl)) ?_
 symm
 refine H.det (.deg (by omega) (.inl rfl) (.inr ⟨rfl, ha⟩) (.inr ⟨rfl, hb⟩) (.inl rfl)) ?_
 haveI e1 : deg3 1 0 1 = 2 := rfl
 haveI e2 : deg3 a b 0 = 1 := by unfold deg3; simp [h0]
 rw [e1, e2]
 haveI hv := nInv_rm hp b
 haveI z1 : 0 + nInv p b * (0 - 0) % p = 0 := by simp
 haveI z2 : 0 + nInv p b * 1 % p = nInv p b := by simp [Int.emod_eq_of_lt hv.1 hv.2]
 walk_at "vf"
 rw [z1, z2]
 refine H.det (.deg (by omega) (.inl rfl) (.inl rfl) (.inl rfl) (.inl rfl)) ?_
 have e3 : deg3 0 (nInv p b) 0 = 1 := by unfold deg3; simp [hne]
 rw [e3]
 walk_at "vf"
 exact hk
theorem vc_prd2 (H : TabS p hp n T) (hn : 4 ≤ n + 1) {a b l : Int} (ha : Rm p a) (hb : Rm p b) (hl : Rm p l) (hb0 : b ≠ 0) (hl0 : l ≠ 0) (hk : k (.tup [.int (b * nInv p l % p)])) : Vc T ir_prd xt_prd [.lst [.fq a p, .fq b p, .int 0], .lst [.fq 1 p, .fq l p, .fq 0 p]] k := by
 haveI r1 : Rm p 1 := ⟨by omega, by haveI := hp.ge; omega⟩
 haveI r0 : Rm p 0 := ⟨by omega, by haveI := hp.ge; omega⟩
 symm
 refine H.det (.deg (by omega) (.inl rfl) (.inr ⟨rfl, ha⟩) (.inr ⟨rfl, hb⟩) (.inl rfl)) ?_
 symm
 refine H.det (.deg (by omega) (.inl rfl) (.inr ⟨rfl, r1⟩) (.inr ⟨rfl, hl⟩) (.inr ⟨rfl, r0⟩)) ?_
 haveI e1 : deg3 a b 0 = 1 := by unfold deg3; simp [hb0]
 haveI e2 : deg3 1 l 0 = 1 := by unfold deg3; simp [hl0]
 rw [e1, e2]
 walk_at "vf"
 refine H.det (.deg (by omega) (.inl rfl) (.inl rfl) (.inl rfl) (.inl rfl)) ?_
 haveI e3 : deg3 (0 + b * nInv p l % p) 0 0 = 0 := by unfold deg3; simp
 rw [e3]
 walk_at "vf"
 rw [Int.zero_add]
 exact hk
theorem d3 {p f v : Int} (h : 0 - 1 * v - 0 * 0 = f) : f = -v - p * 0 := by omega
theorem d4 {p q b l r : Int} (h : p * q + 0 = b - l * r) : p * q = b - l * r := by omega
theorem d5 {p q c a r : Int} (h : p * q + c = a - r) : c = a - r - p * q := by omega
theorem d6 {p g r : Int} (h : 1 - 0 * r = g) : g = 1 - p * 0 := by omega
theorem d7 {p g f r : Int} (h : 0 - 0 * 0 - f * r = g) : g = -(f * r) - p * 0 := by omega
set_option maxHeartbeats 1000000 in
theorem vc_fInv (H : TabS p hp n T) (hn : 7 ≤ n + 1) {x : Q p} (hx : x ≠ qInt 0) (hk : k (fpv (qInv x))) : Vc T ir_fInv xt_fInv [fpv x] k := by
 haveI h0 := hp.ge
 haveI ha := q_ra hp x
 have hb := q_rb hp x
 have e : ∀ q : Q p, q = qInv x → k (fpv q) := fun q h => h ▸ hk
 by_cases hb0 : x.x.b = 0
 ·haveI ha0 : x.x.a % p ≠ 0 := by
   rcases q_ne hx with h | h
   ·exact h
   ·rw [hb0] at h; simp at h
  walk_at "vf"
  refine H.det (.deg (by omega) (.inl rfl) (.inr ⟨rfl, ha⟩) (.inr ⟨rfl, hb⟩) (.inl rfl)) ?_
  have e1 : deg3 x.x.a x.x.b 0 = 0 := by unfold deg3; simp [hb0]
  rw [e1]
  walk_at "vf"
  haveI hq : qMul x (qInt 1) = qInt x.x.a := (q_mul_one x).trans (Q.ext (F.ext x.h.1.symm (by show _ = (0 : Int) % p; rw [hb0]; simp)))
  refine H.det (.fMade (x := x) (by omega) (qInt 1) (.inl rfl) (.inl ⟨1, rfl, hp.pos, rfl⟩) (.inl ⟨0, rfl, hp.pos, rfl⟩)) ?_
  walk_at "vf"
  exact H.det (.fDivI (x := qInt 1) (by omega)) (e _ (inv_of hp hq ha0))
 ·walk_at "vf"
  refine H.det (.deg (by omega) (.inl rfl) (.inr ⟨rfl, ha⟩) (.inr ⟨rfl, hb⟩) (.inl rfl)) ?_
  haveI e1 : deg3 x.x.a x.x.b 0 = 1 := by unfold deg3; simp [hb0]
  rw [e1]
  walk_at "vf"
  refine H.det (.prd1 (by omega) ha hb hb0) ?_
  haveI hv := nInv_rm hp x.x.b
  unfold Rm at hv
  walk_at "vf"
  haveI hf : x.x.b * nInv p x.x.b % p = 1 := fermat hp _ (by rw [Int.emod_eq_of_lt hb.1 hb.2]; exact hb0)
  haveI o1 : (1 : Int) % p = 1 := Int.emod_eq_of_lt (by omega) (by omega)
  haveI r1 : Rm p 1 := ⟨by omega, by omega⟩
  haveI r0 : Rm p 0 := ⟨by omega, by omega⟩
  haveI z1 : (1 - x.x.a * 0 % p) % p = 1 := by simp [o1]
  haveI z3 : (((1 - x.x.a * 0 % p) % p - x.x.b * nInv p x.x.b % p) % p - 0 * 0) % p = 0 := by rw [z1, hf]; simp
  haveI z2 : ((0 - x.x.a * nInv p x.x.b % p) % p - x.x.b * 0 % p) % p = (0 - x.x.a * nInv p x.x.b - x.x.b * 0) % p := by rw [Int.mul_zero, Int.zero_emod, Int.sub_zero, Int.sub_zero, Int.emod_emod, Int.sub_emod, Int.emod_emod, ← Int.sub_emod]
  rw [z3, z2, z1]
  refine (?_ : ∀ l, (0 - x.x.a * nInv p x.x.b - x.x.b * 0) % p = l → _) _ rfl; intro l hl
  rw [hl]
  haveI hlr : Rm p l := by rw [← hl]; exact rm_mod hp _
  haveI m0 : (0 : Int) - 1 * 0 = 0 := by omega
  haveI m2 : (0 : Int) - 1 * 0 - 0 * nInv p x.x.b - 0 * 0 = 0 := by omega
  rw [m2, m0]
  refine (?_ : ∀ f1, (0 - 1 * nInv p x.x.b - 0 * 0) = f1 → _) _ rfl; intro f1 hf1
  rw [hf1]
  refine H.det (.deg (by omega) (.inl rfl) (.inr ⟨rfl, r1⟩) (.inr ⟨rfl, hlr⟩) (.inr ⟨rfl, r0⟩)) ?_
  by_cases hl0 : l = 0
  ·haveI e2 : deg3 1 l 0 = 0 := by unfold deg3; simp [hl0]
   rw [e2]
   walk_at "vf"
   refine H.det (.fMade (x := x) (by omega) (mk' ⟨0, f1⟩) (.inl rfl) (.inl ⟨_, rfl, hp.pos, rfl⟩) (.inl ⟨_, rfl, hp.pos, rfl⟩)) ?_
   walk_at "vf"
   refine H.det (.fDivI (x := mk' ⟨0, f1⟩) (by omega)) (e _ (inv_of hp ?_ (by rw [o1]; omega)))
   haveI h1 := Int.mul_ediv_add_emod (x.x.b * nInv p x.x.b) p
   haveI h2 := Int.mul_ediv_add_emod (0 - x.x.a * nInv p x.x.b - x.x.b * 0) p
   rw [hf] at h1
   rw [hl, hl0] at h2
   haveI hm := mk_mul (p := p) x.x ⟨0, f1⟩
   rw [mk_self] at hm
   rw [hm]
   generalize x.x.b * nInv p x.x.b / p = q1 at *
   generalize (0 - x.x.a * nInv p x.x.b - x.x.b * 0) / p = q2 at *
   generalize nInv p x.x.b = v at *
   haveI hf1' : f1 = -v := by omega
   subst hf1'
   refine Q.ext (F.ext ?_ ?_)
   ·show (x.x.a * 0 - x.x.b * -v) % p = 1 % p
    exact emod_w q1 (by grind)
   ·show (x.x.a * -v + x.x.b * 0) % p = 0 % p
    exact emod_w q2 (by grind)
  ·haveI e2 : deg3 1 l 0 = 1 := by unfold deg3; simp [hl0]
   rw [e2]
   walk_at "vf"
   refine H.det (.prd2 (by omega) ha hb hlr hb0 hl0) ?_
   haveI hfl : l * nInv p l % p = 1 := fermat hp _ (by rw [Int.emod_eq_of_lt hlr.1 hlr.2]; exact hl0)
   haveI h4 := Int.mul_ediv_add_emod (x.x.b * nInv p l) p
   obtain ⟨r0', hr0⟩ : ∃ r0, x.x.b * nInv p l % p = r0 := ⟨_, rfl⟩
   haveI hrr : Rm p r0' := by rw [← hr0]; exact rm_mod hp _
   rw [hr0] at h4 ⊢
   haveI hrr' := hrr
   unfold Rm at hrr'
   haveI hs1 : Sm r0' := by unfold Sm; omega
   walk_at "vf"
   haveI h5 := Int.mul_ediv_add_emod (l * nInv p l) p
   rw [hfl] at h5
   haveI w0 : ((x.x.b - 1 * 0 % p) % p - l * r0' % p) % p = (x.x.b - l * r0') % p := by simp
   haveI w1 : (x.x.b - l * r0') % p = 0 := by
    generalize l * nInv p l / p = q5 at *
    generalize x.x.b * nInv p l / p = q4 at *
    generalize nInv p l = m at *
    exact dvd_of_emod.mpr ⟨l * q4 - x.x.b * q5, by grind⟩
   haveI w2 : (((0 - 1 * 0 % p) % p - l * 0 % p) % p - 0 * r0' % p) % p = 0 := by simp
   haveI w3 : (x.x.a - 1 * r0' % p) % p = (x.x.a - r0') % p := by rw [Int.one_mul, Int.sub_emod, Int.emod_emod, ← Int.sub_emod]
   rw [w0, w1, w2, w3]
   refine (?_ : ∀ c, (x.x.a - r0') % p = c → _) _ rfl; intro c hc
   obtain ⟨g0, hg0⟩ : ∃ c, 1 - 0 * r0' = c := ⟨_, rfl⟩
   obtain ⟨g1, hg1⟩ : ∃ c, 0 - 0 * 0 - f1 * r0' = c := ⟨_, rfl⟩
   haveI hcr : Rm p c := by rw [← hc]; exact rm_mod hp _
   rw [hc, hg0, hg1]
   refine H.det (.deg (by omega) (.inl rfl) (.inr ⟨rfl, hcr⟩) (.inr ⟨rfl, r0⟩) (.inr ⟨rfl, r0⟩)) ?_
   haveI e3 : deg3 c 0 0 = 0 := by unfold deg3; simp
   rw [e3]
   walk_at "vf"
   refine H.det (.fMade (x := x) (by omega) (mk' ⟨g0, g1⟩) (.inl rfl) (.inl ⟨_, rfl, hp.pos, rfl⟩) (.inl ⟨_, rfl, hp.pos, rfl⟩)) ?_
   walk_at "vf"
   haveI k1 := Int.mul_ediv_add_emod (x.x.b * nInv p x.x.b) p
   rw [hf] at k1
   haveI k2 := Int.mul_ediv_add_emod (0 - x.x.a * nInv p x.x.b - x.x.b * 0) p
   rw [hl] at k2
   haveI k4 := Int.mul_ediv_add_emod (x.x.b - l * r0') p
   rw [w1] at k4
   haveI k5 := Int.mul_ediv_add_emod (x.x.a - r0') p
   rw [hc] at k5
   haveI hm := mk_mul (p := p) x.x ⟨g0, g1⟩
   rw [mk_self] at hm
   haveI hn0 : fNorm x.x % p ≠ 0 := fun q => by
    obtain ⟨_, h2⟩ := (norm0 hp q)
    rw [Int.emod_eq_of_lt hb.1 hb.2] at h2
    exact hb0 h2
   clear hf hl w0 w1 w2 w3 hc h4 h5 hfl hr0 m0 m2 z1 z3 z2
   generalize x.x.b * nInv p x.x.b / p = q1 at *
   generalize (0 - x.x.a * nInv p x.x.b - x.x.b * 0) / p = q2 at *
   generalize (x.x.b - l * r0') / p = q4 at *
   generalize (x.x.a - r0') / p = q5 at *
   generalize nInv p x.x.b = v at *
   have hc0 : c % p ≠ 0 := fun q => hn0 (by
    obtain ⟨d, hd⟩ := dvd_of_emod.mp q
    exact dvd_of_emod.mpr ⟨_, alg1 (a := x.x.a) (b := x.x.b) (v := v) (c := c) (d := d) k1 (c2 k2) (d4 k4) (d5 k5) hd⟩)
   refine H.det (.fDivI (x := mk' ⟨g0, g1⟩) (by omega)) (e _ (inv_of hp ?_ hc0))
   rw [hm]
   refine Q.ext (F.ext ?_ ?_)
   ·show (x.x.a * g0 - x.x.b * g1) % p = c % p
    exact emod_w _ (alg2 (a := x.x.a) (b := x.x.b) (v := v) (c := c) (r0 := r0') k1 (d5 k5) (d6 hg0) (d3 hf1) (d7 hg1))
   ·show (x.x.a * g1 + x.x.b * g0) % p = 0 % p
    exact emod_w _ (alg3 (a := x.x.a) (b := x.x.b) (l := l) (v := v) (c2 k2) (d4 k4) (d6 hg0) (d3 hf1) (d7 hg1))
end
end
section
open Classical
section
variable {K : Type} [Lean.Grind.Field K]
theorem pl_dbl (h2 : (2 : K) ≠ 0) {x y : K} (hy : y ≠ 0) : padd (some (x, y)) (some (x, y)) = (let m := x * x * 3 * (y * 2)⁻¹; let X := m * m - x * 2; some (X, -m * X + m * x - y)) := by
 haveI hm : x * x * 3 * (y * 2)⁻¹ * (2 * y) = 3 * (x * x) := by
  haveI := f_mul_ne hy h2
  grind
 rw [padd_tan h2 hy hm]
 generalize x * x * 3 * (y * 2)⁻¹ = m
 haveI e : m * m - x - x = m * m - x * 2 := by grind
 rw [e]
 show some (m * m - x * 2, m * (x - (m * m - x * 2)) - y) = some (m * m - x * 2, -m * (m * m - x * 2) + m * x - y)
 congr 2
 grind
theorem pl_add {x1 y1 x2 y2 : K} (hx : x1 ≠ x2) : padd (some (x1, y1)) (some (x2, y2)) = (let m := (y2 - y1) * (x2 - x1)⁻¹; let X := m * m - x1 - x2; some (X, -m * X + m * x1 - y1)) := by
 haveI hm : (y2 - y1) * (x2 - x1)⁻¹ * (x2 - x1) = y2 - y1 := by
  haveI := f_ne (Ne.symm hx)
  grind
 rw [padd_sec hx hm]
 generalize (y2 - y1) * (x2 - x1)⁻¹ = m
 show some (m * m - x1 - x2, m * (x1 - (m * m - x1 - x2)) - y1) = some (m * m - x1 - x2, -m * (m * m - x1 - x2) + m * x1 - y1)
 congr 2
 grind
theorem pl_chk {x1 y1 x2 y2 : K} (hx : x1 ≠ x2) : (let m := (y2 - y1) * (x2 - x1)⁻¹; let X := m * m - x1 - x2; -m * X + m * x1 - y1 = -m * X + m * x2 - y2) := by
 have hm : (y2 - y1) * (x2 - x1)⁻¹ * (x2 - x1) = y2 - y1 := by
  have := f_ne (Ne.symm hx)
  grind
 show -((y2 - y1) * (x2 - x1)⁻¹) * _ + (y2 - y1) * (x2 - x1)⁻¹ * x1 - y1 = -((y2 - y1) * (x2 - x1)⁻¹) * _ + (y2 - y1) * (x2 - x1)⁻¹ * x2 - y2
 generalize (y2 - y1) * (x2 - x1)⁻¹ = m at *
 grind
theorem g_sub (a b c : K) : a - b = c ↔ a = b + c := by
 constructor <;> intro h <;> grind
theorem g_cube (x : K) : x * x * x = x * (x * x) := by grind
end
theorem q_two {p : Int} (hp : Pr p) : (qInt 2 : Q p) ≠ qInt 0 := fun h => by
 have := congrArg (fun x : Q p => x.x.a) h
 have h2 : (2 : Int) % p = 0 % p := this
 have := hp.ge
 rw [Int.emod_eq_of_lt (by omega) (by omega), Int.emod_eq_of_lt (by omega) (by omega)] at h2
 omega
theorem q_three {p : Int} (hp : Pr p) : (qInt 3 : Q p) ≠ qInt 0 := fun h => by
 have := congrArg (fun x : Q p => x.x.a) h
 have h2 : (3 : Int) % p = 0 % p := this
 have := hp.ge
 rw [Int.emod_eq_of_lt (by omega) (by omega), Int.emod_eq_of_lt (by omega) (by omega)] at h2
 omega
section
variable {p : Int} {hp : Pr p} {n : Nat} {T : Tab} {k : V → Prop}
theorem qadd_dbl {x y : Q p} (hy : y ≠ qInt 0) : qadd hp (some (x, y)) (some (x, y)) = (let m := qMul (qMul (qMul x x) (qInt 3)) (qInv (qMul y (qInt 2))); let X := qSub (qMul m m) (qMul x (qInt 2)); some (X, qSub (qAdd (qMul (qNeg m) X) (qMul m x)) y)) :=
 @pl_dbl (Q p) (fieldQ p hp) (q_two hp) x y hy
theorem qadd_sec {x1 y1 x2 y2 : Q p} (hx : x1 ≠ x2) : qadd hp (some (x1, y1)) (some (x2, y2)) = (let m := qMul (qSub y2 y1) (qInv (qSub x2 x1)); let X := qSub (qSub (qMul m m) x1) x2; some (X, qSub (qAdd (qMul (qNeg m) X) (qMul m x1)) y1)) :=
 @pl_add (Q p) (fieldQ p hp) x1 y1 x2 y2 hx
theorem qadd_chk (hp : Pr p) {x1 y1 x2 y2 : Q p} (hx : x1 ≠ x2) : (let m := qMul (qSub y2 y1) (qInv (qSub x2 x1)); let X := qSub (qSub (qMul m m) x1) x2; qSub (qAdd (qMul (qNeg m) X) (qMul m x1)) y1 = qSub (qAdd (qMul (qNeg m) X) (qMul m x2)) y2) :=
 @pl_chk (Q p) (fieldQ p hp) x1 y1 x2 y2 hx
theorem qadd_opp {x y1 y2 : Q p} (h : y1 ≠ y2 ∨ y1 = qInt 0) : qadd hp (some (x, y1)) (some (x, y2)) = none := @padd_opp (Q p) (fieldQ p hp) x y1 y2 h
theorem qsub_iff {a b c : Q p} (hp : Pr p) : qSub a b = c ↔ a = qAdd b c := @g_sub (Q p) (fieldQ p hp) a b c
theorem qcube_eq (hp : Pr p) (x : Q p) : qMul (qMul x x) x = qMul x (qMul x x) := @g_cube (Q p) (fieldQ p hp) x
theorem none_qadd (P : Option (Q p × Q p)) : qadd hp none P = P := @none_padd (Q p) (fieldQ p hp) P
theorem qadd_none (P : Option (Q p × Q p)) : qadd hp P none = P := @padd_none (Q p) (fieldQ p hp) P
theorem vc_pIsInf (H : TabS p hp n T) {P : Option (Q p × Q p)} (hk : k (Bo (P = none))) : Vc T ir_pIsInf [] [plV P] k := by
 cases P with
 | none =>
  symm
  rw [← bo_pos rfl] at hk; exact hk
 | some P =>
  symm
  rw [← bo_neg (by simp)] at hk; exact hk
theorem vc_pNeg (H : TabS p hp n T) (hn : 7 ≤ n + 1) {P : Option (Q p × Q p)} (hk : k (plV (qneg P))) : Vc T ir_pNeg xt_pNeg [plV P] k := by
 revert hk
 refine opt_e P (fun hk => ?_) fun x y hk => ?_
 ·symm; exact hk
 ·symm
  refine H.det (.fNeg (x := y) (by omega)) ?_
  symm
  haveI : qNeg y = qSub (qInt 0) y := by rw [q_sub_eq, q_add_comm, q_add_zero]
  rw [this]
  exact hk
theorem vc_pOnC (H : TabS p hp n T) (hn : 8 ≤ n + 1) {P : Option (Q p × Q p)} {c : Q p} (hk : k (Bo (onQ c P))) : Vc T ir_pOnC xt_pOnC [plV P, fpv c] k := by
 revert hk
 refine opt_e P (fun hk => ?_) fun x y hk => ?_
 ·symm
  refine H.det (.pIsInf (P := none) (by omega)) ?_
  refine tr_bo (br_bo (fun h => ?_) fun h => absurd rfl h)
  symm
  rw [← bo_pos (P := onQ c none) trivial] at hk; exact hk
 ·symm
  refine H.det (.pIsInf (P := some (x, y)) (by omega)) ?_
  refine tr_bo (br_bo (fun h => (by simp at h)) fun h => ?_)
  symm
  refine H.det (.fPow2 (x := y) (by omega)) ?_
  symm
  refine H.det (.fPow3 (x := x) (by omega)) ?_
  symm
  refine H.det (.fSub (x := qMul y y) (y := qMul (qMul x x) x) (by omega)) ?_
  symm
  refine H.det (.fEq (x := qSub (qMul y y) (qMul (qMul x x) x)) (y := c) (by omega)) ?_
  haveI : Bo (onQ c (some (x, y))) = Bo (qSub (qMul y y) (qMul (qMul x x) x) = c) := by
   haveI e : onQ c (some (x, y)) = (qSub (qMul y y) (qMul (qMul x x) x) = c) := propext (by
    rw [qsub_iff hp, qcube_eq hp]; rfl)
   rw [e]
  rw [← this]; exact hk
theorem vc_pDbl (H : TabS p hp n T) (hn : 9 ≤ n + 1) {P : Option (Q p × Q p)} (hy : ∀ x y, P = some (x, y) → y ≠ qInt 0) (hk : k (plV (qadd hp P P))) : Vc T ir_pDbl xt_pDbl [plV P] k := by
 revert hy hk
 refine opt_e P (fun hy hk => ?_) fun x y hy hk => ?_
 ·symm
  refine H.det (.pIsInf (P := none) (by omega)) ?_
  refine tr_bo (br_bo (fun h => ?_) fun h => absurd rfl h)
  symm
  exact hk
 ·haveI hy0 := hy x y rfl
  rw [qadd_dbl hy0] at hk
  symm
  refine H.det (.pIsInf (P := some (x, y)) (by omega)) ?_
  refine tr_bo (br_bo (fun h => (by simp at h)) fun h => ?_)
  symm
  refine H.det (.fPow2 (x := x) (by omega)) ?_
  symm
  refine H.det (.fRmul (x := qMul x x) (by omega)) ?_
  symm
  refine H.det (.fRmul (x := y) (by omega)) ?_
  symm
  haveI hy2 : qMul y (qInt 2) ≠ qInt 0 := @f_mul_ne (Q p) (fieldQ p hp) y (qInt 2) hy0 (q_two hp)
  refine H.det (.fDiv (x := qMul (qMul x x) (qInt 3)) (y := qMul y (qInt 2)) (by omega) hy2) ?_
  dsimp only at hk
  revert hk
  generalize qMul (qMul (qMul x x) (qInt 3)) (qInv (qMul y (qInt 2))) = m
  intro hk
  symm
  refine H.det (.fPow2 (x := m) (by omega)) ?_
  symm
  refine H.det (.fRmul (x := x) (by omega)) ?_
  symm
  refine H.det (.fSub (x := qMul m m) (y := qMul x (qInt 2)) (by omega)) ?_
  symm
  refine H.det (.fNeg (x := m) (by omega)) ?_
  symm
  refine H.det (.fMul (x := qNeg m) (y := qSub (qMul m m) (qMul x (qInt 2))) (by omega)) ?_
  symm
  refine H.det (.fMul (x := m) (y := x) (by omega)) ?_
  symm
  refine H.det (.fAdd (x := qMul (qNeg m) (qSub (qMul m m) (qMul x (qInt 2)))) (y := qMul m x) (by omega)) ?_
  symm
  refine H.det (.fSub (x := qAdd (qMul (qNeg m) (qSub (qMul m m) (qMul x (qInt 2)))) (qMul m x)) (y := y) (by omega)) ?_
  symm
  exact hk
theorem vc_pAdd (H : TabS p hp n T) (hn : 10 ≤ n + 1) {P R : Option (Q p × Q p)} (hy : ∀ x y, P = some (x, y) → P = R → y ≠ qInt 0) (hk : k (plV (qadd hp P R))) : Vc T ir_pAdd xt_pAdd [plV P, plV R] k := by
 revert hy hk
 refine opt_e P (fun hy hk => ?_) fun x1 y1 => opt_e R (fun hy hk => ?_) fun x2 y2 hy hk => ?_
 ·rw [none_qadd] at hk
  cases R with
  | none => symm; exact hk
  | some R => symm; exact hk
 ·rw [qadd_none] at hk
  symm; exact hk
 ·symm
  refine H.det (.fEq (x := x2) (y := x1) (by omega)) ?_
  refine tr_bo (br_bo (fun hx => ?_) fun hx => ?_)
  ·subst hx
   symm
   refine H.det (.fEq (x := y2) (y := y1) (by omega)) ?_
   refine tr_bo (br_bo (fun hy' => ?_) fun hy' => ?_)
   ·subst hy'
    symm
    exact H.det (.pDbl (P := some (x2, y2)) (by omega) (fun x y e => by cases e; exact hy x2 y2 rfl rfl)) hk
   ·rw [qadd_opp (.inl (fun q => hy' q.symm))] at hk
    symm
    refine H.det (.fEq (x := x2) (y := x2) (by omega)) ?_
    refine tr_bo (br_bo (fun hx => ?_) fun hx => absurd rfl hx)
    symm
    exact hk
  ·haveI hx' : x1 ≠ x2 := fun q => hx q.symm
   haveI hch := qadd_chk hp (y1 := y1) (y2 := y2) hx'
   rw [qadd_sec hx'] at hk
   symm
   refine H.det (.fEq (x := x2) (y := x1) (by omega)) ?_
   refine tr_bo (br_bo (fun q => absurd q hx) fun J => ?_)
   symm
   refine H.det (.fSub (x := y2) (y := y1) (by omega)) ?_
   symm
   refine H.det (.fSub (x := x2) (y := x1) (by omega)) ?_
   symm
   haveI hd : qSub x2 x1 ≠ qInt 0 := @f_ne (Q p) (fieldQ p hp) x2 x1 hx
   refine H.det (.fDiv (x := qSub y2 y1) (y := qSub x2 x1) (by omega) hd) ?_
   dsimp only at hk hch
   revert hk hch
   generalize qMul (qSub y2 y1) (qInv (qSub x2 x1)) = m
   intro hk hch
   symm
   refine H.det (.fPow2 (x := m) (by omega)) ?_
   symm
   refine H.det (.fSub (x := qMul m m) (y := x1) (by omega)) ?_
   symm
   refine H.det (.fSub (x := qSub (qMul m m) x1) (y := x2) (by omega)) ?_
   revert hk hch
   generalize qSub (qSub (qMul m m) x1) x2 = X
   intro hk hch
   symm
   refine H.det (.fNeg (x := m) (by omega)) ?_
   symm
   refine H.det (.fMul (x := qNeg m) (y := X) (by omega)) ?_
   symm
   refine H.det (.fMul (x := m) (y := x1) (by omega)) ?_
   symm
   refine H.det (.fAdd (x := qMul (qNeg m) X) (y := qMul m x1) (by omega)) ?_
   symm
   refine H.det (.fSub (x := qAdd (qMul (qNeg m) X) (qMul m x1)) (y := y1) (by omega)) ?_
   symm
   refine H.det (.fNeg (x := m) (by omega)) ?_
   symm
   refine H.det (.fMul (x := qNeg m) (y := X) (by omega)) ?_
   symm
   refine H.det (.fMul (x := m) (y := x2) (by omega)) ?_
   symm
   refine H.det (.fAdd (x := qMul (qNeg m) X) (y := qMul m x2) (by omega)) ?_
   symm
   refine H.det (.fSub (x := qAdd (qMul (qNeg m) X) (qMul m x2)) (y := y2) (by omega)) ?_
   symm
   refine H.detE (.fEq (x := qSub (qAdd (qMul (qNeg m) X) (qMul m x1)) y1) (y := qSub (qAdd (qMul (qNeg m) X) (qMul m x2)) y2) (by omega)) (by rw [show Bo (qSub (qAdd (qMul (qNeg m) X) (qMul m x1)) y1 = qSub (qAdd (qMul (qNeg m) X) (qMul m x2)) y2) = .bool true from (bo_pos hch).symm]) ?_
   symm
   exact hk
theorem vc_pMul (H : TabS p hp n T) {P : Option (Q p × Q p)} (e : Nat) (hn : 11 + e ≤ n + 1) (he : e ≤ 3) (hy : ∀ x y, P = some (x, y) → 2 ≤ e → y ≠ qInt 0) (hk : k (plV (qmulti hp P e))) : Vc T ir_pMul [] [plV P, .int e] k := by
 rcases e with _ | _ | _ | _ | e
 ·symm; exact hk
 ·haveI : qmulti hp P 1 = P := none_qadd P
  rw [this] at hk
  symm; exact hk
 ·haveI e1 : qmulti hp P 2 = qadd hp P P := by show qadd hp (qadd hp none P) P = _; rw [none_qadd]
  rw [e1] at hk
  symm
  refine H.det (.pDbl (P := P) (by omega) fun x y q => hy x y q (by omega)) ?_
  symm
  refine H.det (.pMul (P := qadd hp P P) 1 (by omega) (by omega) (fun J J J q => by omega)) ?_
  haveI : qmulti hp (qadd hp P P) 1 = qadd hp P P := none_qadd _
  rw [this]; exact hk
 ·haveI e1 : qmulti hp P 3 = qadd hp (qadd hp P P) P := by show qadd hp (qadd hp (qadd hp none P) P) P = _; rw [none_qadd]
  rw [e1] at hk
  symm
  refine H.det (.pDbl (P := P) (by omega) fun x y q => hy x y q (by omega)) ?_
  symm
  refine H.det (.pMul (P := qadd hp P P) 1 (by omega) (by omega) (fun J J J q => by omega)) ?_
  haveI : qmulti hp (qadd hp P P) 1 = qadd hp P P := none_qadd _
  rw [this]
  symm
  exact H.det (.pAdd (P := qadd hp P P) (R := P) (by omega) fun x y q q' => hy x y (q'.symm.trans q) (by omega)) hk
 ·exact absurd he (by omega)
theorem vc_pEq (H : TabS p hp n T) (hn : 4 ≤ n + 1) {x y x' y' : Q p} (hk : k (Bo (x = x' ∧ y = y'))) : Vc T ir_pEq [] [plV (some (x, y)), plV (some (x', y'))] k := by
 symm
 haveI : V.bool (decide (x = x') && decide (y = y')) = Bo (x = x' ∧ y = y') := by unfold Bo; congr 1; simp
 refine ⟨decide (x = x'), decide (y = y'), ?_, ?_, ?_, ?_, ?_⟩
 ·exact H.det (.fEq (x := x) (y := x') (by omega)) rfl
 ·exact H.det (.fEq (x := y) (y := y') (by omega)) rfl
 ·intro h; simp; exact Q.ext h
 ·intro h; simp; exact Q.ext h
 ·rw [this]; exact hk
end
end
section
open Classical
section
variable {p : Int} {hp : Pr p} {n : Nat} {T : Tab} {k : V → Prop}
theorem dec_iff {P R : Prop} {b : Bool} (h : P ↔ R) (i : Decidable R) (e : b = true ↔ P) : b = @decide R i := by
 by_cases q : R
 ·rw [decide_eq_true q]; exact e.mpr (h.mpr q)
 ·rw [decide_eq_false q]; exact Bool.eq_false_iff.mpr fun z => q (h.mp (e.mp z))
theorem veq_pr (m : Nat) (x y : Q p) : veq (m + 2) (pr x) (pr y) = decide (x = y) := by
 refine dec_iff (P := x.x.a = y.x.a ∧ x.x.b = y.x.b) ⟨fun h => Q.ext (F.ext h.1 h.2), fun h => by rw [h]; exact ⟨rfl, rfl⟩⟩ _ ?_
 show (decide (x.x.a = y.x.a) && (decide (x.x.b = y.x.b) && true)) = true ↔ _
 rw [Bool.and_true, Bool.and_eq_true, decide_eq_true_iff, decide_eq_true_iff]
theorem veq_pt (m : Nat) (P R : Option (Q p × Q p)) : veq (m + 3) (ptV P) (ptV R) = decide (P = R) := by
 refine opt_e P (opt_e R (decide_eq_true rfl).symm fun x y => (decide_eq_false nofun).symm) fun x y => opt_e R (decide_eq_false nofun).symm fun x' y' => ?_
 refine dec_iff (P := x = x' ∧ y = y') ⟨fun h => by rw [h.1, h.2], fun h => by cases h; exact ⟨rfl, rfl⟩⟩ _ ?_
 show (veq (m + 2) (pr x) (pr x') && (veq (m + 2) (pr y) (pr y') && true)) = true ↔ _
 rw [veq_pr, veq_pr, Bool.and_true, Bool.and_eq_true, decide_eq_true_iff, decide_eq_true_iff]
theorem data_pt (m : Nat) (P : Option (Q p × Q p)) : isData (m + 3) (ptV P) = true := opt_e P rfl fun _ _ => rfl
theorem is_none_pt {P : Option (Q p × Q p)} : isNone (ptV P) = decide (P = none) := opt_e P (decide_eq_true rfl).symm fun _ _ => (decide_eq_false nofun).symm
theorem vc_lTimes (H : TabS p hp n T) {x y : Q p} (hk : k (pr (qMul x y))) : Vc T ir_lTimes [] [pr x, pr y, .int p] k := by
 haveI h0 := hp.ge
 haveI hx := q_rm hp x
 symm
 exact hk
theorem vc_lLess (H : TabS p hp n T) {x y : Q p} (hk : k (pr (qSub x y))) : Vc T ir_lLess [] [pr x, pr y, .int p] k := by
 have h0 := hp.pos
 symm
 exact hk
theorem vc_lOver (H : TabS p hp n T) (hn : 2 ≤ n + 1) {x y : Q p} (hk : k (pr (qMul x (qInv y)))) : Vc T ir_lOver xt_lOver [pr x, pr y, .int p] k := by
 haveI h0 := hp.ge
 haveI hy := q_rm hp y
 symm
 exact H.det (.lTimes (x := x) (y := qInv y) (by omega)) hk
theorem vc_lNeg (H : TabS p hp n T) (hn : 2 ≤ n + 1) {P : Option (Q p × Q p)} (hk : k (ptV (qneg P))) : Vc T ir_lNeg [] [ptV P, .int p] k := by
 revert hk
 refine opt_e P (fun hk => ?_) fun x y hk => ?_
 ·symm; exact hk
 ·symm
  haveI z : (qInt 0 : Q p) = ⟨⟨0, 0⟩, by simp⟩ := Q.ext (F.ext (by show (0 : Int) % p = 0; simp) (by show (0 : Int) % p = 0; simp))
  refine H.detE (.lLess (x := ⟨⟨0, 0⟩, by simp⟩) (y := y) (by omega)) (by rw [← z]) ?_
  symm
  exact hk
theorem vc_lCube (H : TabS p hp n T) (hn : 2 ≤ n + 1) {x c : Q p} (hk : k (pr (qcube c x))) : Vc T ir_lCube xt_lCube [pr x, pr c, .int p] k := by
 have h0 := hp.pos
 symm
 refine H.det (.lTimes (x := x) (y := x) (by omega)) ?_
 symm
 refine H.det (.lTimes (x := x) (y := qMul x x) (by omega)) ?_
 symm
 exact hk
theorem vc_lPair (H : TabS p hp n T) (hn : 2 ≤ n + 1) {U : V} {x : Q p} (hu : U = .e2 x.x p ∨ U = fpv x) (hk : k (pr x)) : Vc T ir_lPair [] [U] k := by
 rcases hu with rfl | rfl
 ·symm
  exact hk
 ·symm
  refine H.det (.qInt (by omega)) ?_
  symm
  refine H.det (.qInt (by omega)) ?_
  symm
  exact hk
theorem vc_lTells (H : TabS p hp n T) {a b : Bool} (hk : k (.bool (a == b))) : Vc T ir_lTells [] [.bool a, .bool b] k := by
 cases b
 ·symm; exact hk
 ·symm; exact hk
theorem vc_lPlain (H : TabS p hp n T) (hn : 5 ≤ n + 1) {P : Option (Q p × Q p)} (hk : k (plV P)) : Vc T ir_lPlain [] [ptV P, .int p] k := by
 revert hk
 refine opt_e P (fun hk => ?_) fun x y hk => ?_
 ·symm; exact hk
 ·symm
  refine H.det (.cFP (by omega) x (.inr rfl) (.inl ⟨_, rfl, hp.pos, x.h.1.symm⟩) (.inl ⟨_, rfl, hp.pos, x.h.2.symm⟩)) ?_
  symm
  refine H.det (.cFP (by omega) y (.inr rfl) (.inl ⟨_, rfl, hp.pos, y.h.1.symm⟩) (.inl ⟨_, rfl, hp.pos, y.h.2.symm⟩)) ?_
  symm
  exact hk
theorem vc_lPlainRead (H : TabS p hp n T) (hn : 3 ≤ n + 1) {P : Option (Q p × Q p)} (hk : k (ptV P)) : Vc T ir_lPlainRead [] [plV P] k := by
 revert hk
 refine opt_e P (fun hk => ?_) fun x y hk => ?_
 ·symm; exact hk
 ·symm
  refine H.det (.lPair (by omega) (x := x) (.inr rfl)) ?_
  symm
  refine H.det (.lPair (by omega) (x := y) (.inr rfl)) ?_
  symm
  exact hk
theorem vc_lForm (H : TabS p hp n T) (hn : 3 ≤ n + 1) {P : Option (Q p × Q p)} {sc : Q p} (hk : k (pj false 0 0 0 (form P sc))) : Vc T ir_lForm xt_lForm [ptV P, pr sc, .int p] k := by
 revert hk
 refine opt_e P (fun hk => ?_) fun x y hk => ?_
 ·symm
  refine H.det (.cFQ2 (by omega) sc.x (.inr rfl)) ?_
  symm
  refine H.det (.cFQ2 (by omega) ⟨1, 0⟩ (.inr rfl)) ?_
  symm
  refine H.det (.cFQ2 (by omega) ⟨0, 0⟩ (.inr rfl)) ?_
  symm
  rw [mk_self]
  exact hk
 ·symm
  refine H.det (.lTimes (x := x) (y := sc) (by omega)) ?_
  symm
  refine H.det (.lTimes (x := y) (y := sc) (by omega)) ?_
  symm
  refine H.det (.cFQ2 (by omega) (qMul x sc).x (.inr rfl)) ?_
  symm
  refine H.det (.cFQ2 (by omega) (qMul y sc).x (.inr rfl)) ?_
  symm
  refine H.det (.cFQ2 (by omega) sc.x (.inr rfl)) ?_
  symm
  rw [mk_self, mk_self, mk_self]
  exact hk
end
end
section
open Classical
section
variable {p : Int} {hp : Pr p} {n : Nat} {T : Tab} {k : V → Prop}
theorem q0 : (qInt 0 : Q p) = ⟨⟨0, 0⟩, by simp⟩ := Q.ext (F.ext (by show (0 : Int) % p = 0; simp) (by show (0 : Int) % p = 0; simp))
theorem pr0 : pr (qInt 0 : Q p) = .tup [.int 0, .int 0] := by rw [q0]; rfl
theorem veq_p0 (m : Nat) (x : Q p) : veq (m + 2) (pr x) (.tup [.int 0, .int 0]) = decide (x = qInt 0) := by rw [← pr0, veq_pr]
theorem pr_smul (a : Int) (u : Q p) : V.tup [.int (a * u.x.a % p), .int (a * u.x.b % p)] = pr (qMul (qInt a) u) := by
 rw [← smul2, Int.mul_comm a, Int.mul_comm a]
 unfold pr
 show _ = V.tup [.int (u.x.a * a % p % p), .int (u.x.b * a % p % p)]
 rw [Int.emod_emod, Int.emod_emod]
theorem qadd_ltan {x y : Q p} (hy : y ≠ qInt 0) : qadd hp (some (x, y)) (some (x, y)) = (let m := qMul (qMul (qInt 3) (qMul x x)) (qInv (qMul (qInt 2) y)); let X := qSub (qSub (qMul m m) x) x; some (X, qSub (qMul m (qSub x X)) y)) := by
 unfold qadd padd
 refine (if_pos rfl).trans (if_neg fun q => ?_)
 rcases q with q | q
 ·exact q rfl
 ·exact hy q
theorem qadd_lsec {x1 y1 x2 y2 : Q p} (hx : x1 ≠ x2) : qadd hp (some (x1, y1)) (some (x2, y2)) = (let m := qMul (qSub y2 y1) (qInv (qSub x2 x1)); let X := qSub (qSub (qMul m m) x1) x2; some (X, qSub (qMul m (qSub x1 X)) y1)) := by
 unfold qadd padd
 exact if_neg hx
theorem add_tail (H : TabS p hp n T) (hn : 1 ≤ n) {x1 y1 x2 y2 m : Q p} {s3 : Slot} {kn : List Slot → Prop} (hk : k (ptV (some (qSub (qSub (qMul m m) x1) x2, qSub (qMul m (qSub x1 (qSub (qSub (qMul m m) x1) x2))) y1)))) :
  wS T (.cons (.asg false 5 (.call .lLess (.ac (.call .lLess (.ac (.call .lTimes (.ac (.va 4) (.ac (.va 4) (.ac (.va 2) .an)))) (.ac (.idx (.va 0) (.int 0)) (.ac (.va 2) .an)))) (.ac (.idx (.va 1) (.int 0)) (.ac (.va 2) .an)))))
   (.cons (.ret (.tup (.ac (.va 5) (.ac (.call .lLess (.ac (.call .lTimes (.ac (.va 4) (.ac (.call .lLess (.ac (.idx (.va 0) (.int 0)) (.ac (.va 5) (.ac (.va 2) .an)))) (.ac (.va 2) .an)))) (.ac (.idx (.va 0) (.int 1)) (.ac (.va 2) .an)))) .an)))) .nil))
   [.v (ptV (some (x1, y1))), .v (ptV (some (x2, y2))), .v (.int p), s3, .v (pr m), .u] kn k := by
 symm
 refine H.det (.lTimes (x := m) (y := m) (by omega)) ?_
 symm
 refine H.det (.lLess (x := qMul m m) (y := x1) (by omega)) ?_
 symm
 refine H.det (.lLess (x := qSub (qMul m m) x1) (y := x2) (by omega)) ?_
 revert hk
 generalize qSub (qSub (qMul m m) x1) x2 = X
 intro hk
 symm
 refine H.det (.lLess (x := x1) (y := X) (by omega)) ?_
 symm
 refine H.det (.lTimes (x := m) (y := qSub x1 X) (by omega)) ?_
 symm
 refine H.det (.lLess (x := qMul m (qSub x1 X)) (y := y1) (by omega)) ?_
 symm
 exact hk
theorem vc_lAdd (H : TabS p hp n T) (hn : 3 ≤ n + 1) {P R : Option (Q p × Q p)} (hk : k (ptV (qadd hp P R))) : Vc T ir_lAdd xt_lAdd [ptV P, ptV R, .int p] k := by
 haveI h0 := hp.ge
 match P, R, hk with
 | none, R, hk =>
  rw [none_qadd] at hk
  cases R with
  | none => symm; exact hk
  | some R => symm; exact hk
 | some (x1, y1), none, hk =>
  rw [qadd_none] at hk
  symm; exact hk
 | some (x1, y1), some (x2, y2), hk =>
  symm
  by_cases hx : x1 = x2
  ·subst hx
   refine br_t (by rw [veq_pr]; simp) ?_
   conv => whnf
   by_cases hy : y1 = y2
   ·subst hy
    refine br_f (by rw [veq_pr]; simp) ?_
    conv => whnf
    by_cases hy0 : y1 = qInt 0
    ·rw [qadd_opp (.inr hy0)] at hk
     refine br_t (by rw [veq_p0]; simp [hy0]) ?_
     symm
     exact hk
    ·rw [qadd_ltan hy0] at hk
     refine br_f (by rw [veq_p0]; simp [hy0]) ?_
     symm
     refine H.det (.lTimes (x := x1) (y := x1) (by omega)) ?_
     walk_at "vc"
     rw [pr_smul, pr_smul]
     refine H.det (.lOver (x := qMul (qInt 3) (qMul x1 x1)) (y := qMul (qInt 2) y1) (by omega)) ?_
     exact add_tail H (by omega) hk
   ·rw [qadd_opp (.inl hy)] at hk
    refine br_t (by rw [veq_pr]; simp [hy]) ?_
    symm
    exact hk
  ·rw [qadd_lsec hx] at hk
   refine br_f (by rw [veq_pr]; simp [hx]) ?_
   symm
   refine H.det (.lLess (x := y2) (y := y1) (by omega)) ?_
   symm
   refine H.det (.lLess (x := x2) (y := x1) (by omega)) ?_
   symm
   refine H.det (.lOver (x := qSub y2 y1) (y := qSub x2 x1) (by omega)) ?_
   exact add_tail H (by omega) hk
theorem vc_lMult (H : TabS p hp n T) (hn : 4 ≤ n + 1) {P : Option (Q p × Q p)} (e : Nat) (he : e ≤ 60) (hk : k (ptV (qmulti hp P e))) : Vc T ir_lMult xt_lMult [ptV P, .int e, .int p] k := by
 conv => whnf
 refine ⟨by omega, ?_⟩
 refine ⟨by omega, ?_⟩
 rw [evL_eq]
 refine ⟨fun i ρ => ∃ s4, ρ = [.v (ptV P), .v (.int e), .v (.int p), .v (ptV (qmulti hp P i)), s4], ⟨_, rfl⟩, fun i v ρ' hv hi => ?_, fun ρ' hi => ?_⟩
 ·obtain ⟨s4, rfl⟩ := hi
  symm
  refine H.det (.lAdd (P := qmulti hp P i) (R := P) (by omega)) ?_
  exact ⟨_, rfl⟩
 ·obtain ⟨s4, rfl⟩ := hi
  rw [List.length_map, List.length_range]
  haveI : ((e : Nat) : Int).toNat = e := rfl
  rw [this]
  symm
  exact hk
end
end
section
open Classical
section
variable {p : Int} {hp : Pr p} {n : Nat} {T : Tab} {k : V → Prop}
theorem neg_sq {K : Type} [Lean.Grind.Field K] (y : K) : (0 - y) * (0 - y) = y * y := by grind
theorem neg_z {K : Type} [Lean.Grind.Field K] (y : K) (h : 0 - y = 0) : y = 0 := by grind
theorem qrd3_eq {x y z : Q p} : qrd3 hp (x, y, z) = if z = qInt 0 then none else some (qMul x (qInv z), qMul y (qInv z)) := rfl
theorem vc_lRead (H : TabS p hp n T) (hn : 3 ≤ n + 1) {a : Q p × Q p × Q p} (hk : k (ptV (qrd3 hp a))) : Vc T ir_lRead xt_lRead [pj false 0 0 0 a, .int p] k := by
 obtain ⟨x, y, z⟩ := a
 rw [qrd3_eq] at hk
 symm
 refine H.det (.lPair (by omega) (x := x) (.inl rfl)) ?_
 symm
 refine H.det (.lPair (by omega) (x := y) (.inl rfl)) ?_
 symm
 refine H.det (.lPair (by omega) (x := z) (.inl rfl)) ?_
 symm
 by_cases hz : z = qInt 0
 ·rw [if_pos hz] at hk
  refine br_t (by rw [veq_p0]; simp [hz]) ?_
  symm
  exact hk
 ·rw [if_neg hz] at hk
  refine br_f (by rw [veq_p0]; simp [hz]) ?_
  symm
  refine H.det (.lOver (x := x) (y := z) (by omega)) ?_
  symm
  refine H.det (.lOver (x := y) (y := z) (by omega)) ?_
  symm
  exact hk
theorem veq_q {x y : Q p} (m : Nat) (h : veq (m + 2) (pr x) (pr y) = true) : x = y := by
 rw [veq_pr] at h
 exact of_decide_eq_true h
noncomputable abbrev rootBody : IS := (.cons (.asg false 5 (.bin .Mod (.bin .Mult (.bin .Add (.idx (.va 0) (.int 0)) (.bin .Mult (.va 4) (.va 3))) (.bin .FloorDiv (.bin .Add (.va 1) (.int 1)) (.int 2))) (.va 1)))
 (.cons (.asg false 6 (.pow3 (.va 5) (.bin .FloorDiv (.bin .Add (.va 1) (.int 1)) (.int 4)) (.va 1)))
 (.cons (.ite (.cmp .Eq (.bin .Mod (.bin .Mult (.va 6) (.va 6)) (.va 1)) (.va 5)) (.cons (.ite (.cmp .Eq (.va 6) (.int 0)) (.cons (.asg false 7 (.pow3 (.bin .Mod (.neg (.idx (.va 0) (.int 0))) (.va 1)) (.bin .FloorDiv (.bin .Add (.va 1) (.int 1)) (.int 4)) (.va 1)))
 .nil) (.cons (.asg false 7 (.bin .Mod (.bin .Mult (.idx (.va 0) (.int 1)) (.pow3 (.bin .Mult (.int 2) (.va 6)) (.bin .Sub (.va 1) (.int 2)) (.va 1))) (.va 1)))
 .nil))
 (.cons (.ite (.cmp .Eq (.call .lTimes (.ac (.tup (.ac (.va 6) (.ac (.va 7) .an))) (.ac (.tup (.ac (.va 6) (.ac (.va 7) .an))) (.ac (.va 1) .an)))) (.tup (.ac (.bin .Mod (.idx (.va 0) (.int 0)) (.va 1)) (.ac (.bin .Mod (.idx (.va 0) (.int 1)) (.va 1)) .an)))) (.cons (.ret (.tup (.ac (.va 6) (.ac (.va 7) .an))))
 .nil) .nil)
 .nil)) .nil)
 .nil)))
theorem root_turn (H : TabS p hp n T) (hn : 2 ≤ n + 1) {x : Q p} (hk : ∀ v, (v = .none ∨ ∃ y : Q p, v = pr y ∧ qMul y y = x) → k v) {s half : Int} (hs : Sm s) (hh : 0 ≤ half ∧ half < p) {s5 s6 s7 : Slot} (kn : List Slot → Prop)
  (N : Int) (hkn : ∀ s4 s5 s6 s7, kn [.v (pr x), .v (.int p), .v (.int N), .v (.int half), s4, s5, s6, s7]) :
  wS T rootBody [.v (pr x), .v (.int p), .v (.int N), .v (.int half), .v (.int s), s5, s6, s7] kn k := by
 haveI h0 := hp.ge
 haveI hx := q_rm hp x
 haveI fin : ∀ y : Q p, veq 5 (pr (qMul y y)) (.tup [.int (x.x.a % p), .int (x.x.b % p)]) = true → k (pr y) := fun y h => hk _ (.inr ⟨y, rfl, by
  rw [x.h.1, x.h.2] at h
  exact veq_q 3 h⟩)
 haveI sm2 : (p + 1) / 2 ≤ p := by omega
 symm
 generalize (x.x.a + s * half) * ((p + 1) / 2) % p = part
 symm
 refine br_i (fun J => ?_) (fun J => ?_)
 ·symm
  refine br_i (fun J => ?_) (fun J => ?_)
  ·symm
   refine H.det (.lTimes (x := mk' ⟨_, _⟩) (y := mk' ⟨_, _⟩) (by omega)) ?_
   symm
   refine br_i (fun h => ?_) (fun J => ?_)
   ·symm
    exact fin _ h
   ·symm
    exact hkn _ _ _ _
  ·symm
   refine H.det (.lTimes (x := mk' ⟨_, _⟩) (y := mk' ⟨_, _⟩) (by omega)) ?_
   symm
   refine br_i (fun h => ?_) (fun J => ?_)
   ·symm
    exact fin _ h
   ·symm
    exact hkn _ _ _ _
 ·symm
  exact hkn _ _ _ _
theorem vc_lRoot (H : TabS p hp n T) (hn : 2 ≤ n + 1) {x : Q p} (hk : ∀ v, (v = .none ∨ ∃ y : Q p, v = pr y ∧ qMul y y = x) → k v) : Vc T ir_lRoot xt_lRoot [pr x, .int p] k := by
 haveI h0 := hp.ge
 haveI hx := q_rm hp x
 have hN := hk .none (.inl rfl)
 have rmm : ∀ e : Int, 0 ≤ e % p ∧ e % p < p := fun e => ⟨Int.emod_nonneg _ (by omega), Int.emod_lt_of_pos _ (by omega)⟩
 symm
 refine br_i (fun J => hN) (fun J => ?_)
 generalize hh : ((x.x.a * x.x.a + x.x.b * x.x.b) % p) ^ ((p + 1) / 4).toNat % p = half
 have hhr : 0 ≤ half ∧ half < p := by rw [← hh]; exact rmm _
 refine (show forF [4] (fun ρ' k' => wS T rootBody ρ' k' k) [.int 1, .int (-1)] _ _ from ?_)
 exact root_turn H hn hk (s := 1) (by unfold Sm; omega) hhr _ _ fun s4 s5 s6 s7 => root_turn H hn hk (s := -1) (by unfold Sm; omega) hhr _ _ fun s4 s5 s6 s7 => hN
theorem vc_lPoint (H : TabS p hp n T) (hn : 3 ≤ n + 1) {a : Int} {c : Q p} (hk : ∀ v, (v = .none ∨ ∃ x y : Q p, v = ptV (some (x, y)) ∧ qMul y y = qcube c x ∧ y ≠ qInt 0) → k v) : Vc T ir_lPoint xt_lPoint [.int a, pr c, .int p] k := by
 haveI h0 := hp.ge
 haveI hsp : Sm p := by unfold Sm; omega
 symm
 refine ⟨fun i ρ => ∃ (x : Q p) (s4 s5 : Slot), ρ = [.v (.int a), .v (pr c), .v (.int p), .v (pr x), s4, s5], ⟨mk' ⟨_, _⟩, _, _, rfl⟩, fun i v ρ' hv hi => ?_, fun ρ' hi => ?_⟩
 ·obtain ⟨x, s4, s5, rfl⟩ := hi
  symm
  refine H.det (.lCube (x := x) (c := c) (by omega)) ?_
  symm
  refine H.any (.lRoot (x := qcube c x) (by omega)) ?_
  rintro v (rfl | ⟨y, rfl, hy⟩)
  ·symm
   exact ⟨mk' ⟨_, _⟩, _, _, rfl⟩
  ·symm
   by_cases hy0 : y = qInt 0
   ·refine br_f (by rw [veq_p0]; simp [hy0]) ?_
    symm
    exact ⟨mk' ⟨_, _⟩, _, _, rfl⟩
   ·refine br_t (by rw [veq_p0]; simp [hy0]) ?_
    symm
    refine br_i (fun J => ?_) (fun J => ?_)
    ·walk_at "vc"
     rw [← pr0]
     refine H.det (.lLess (x := qInt 0) (y := y) (by omega)) ?_
     symm
     refine hk _ (.inr ⟨x, qSub (qInt 0) y, rfl, ?_, ?_⟩)
     ·rw [← hy]
      exact @neg_sq (Q p) (fieldQ p hp) y
     ·intro q
      exact hy0 (@neg_z (Q p) (fieldQ p hp) y q)
    ·symm
     exact hk _ (.inr ⟨x, y, rfl, hy, hy0⟩)
 ·obtain ⟨x, s4, s5, rfl⟩ := hi
  symm
  exact hk _ (.inl rfl)
end
end
section
open Classical
section
variable {K : Type} [Lean.Grind.Field K]
theorem g_form {x y s : K} (hs : s ≠ 0) : rd3 (x * s, y * s, s) = some (x, y) := rd3_eq hs rfl rfl
theorem g_on {c x y z : K} : (z = 0 ∨ y * y * z - x * x * x = c * (z * z * z)) ↔ onC c (rd3 (x, y, z)) := by
 by_cases hz : z = 0
 ·rw [rd3_inf hz]
  exact ⟨fun J => trivial, fun J => .inl hz⟩
 ·obtain ⟨a, b, h1, h2, e⟩ := (rd3_ex (x := x) (y := y) hz)
  rw [e]
  show _ ↔ b * b = a * (a * a) + c
  haveI hz3 : z * z * z ≠ 0 := f_mul_ne (f_mul_ne hz hz) hz
  constructor
  ·rintro (h | h)
   ·exact absurd h hz
   ·refine f_cancel hz3 ?_
    subst h1 h2
    grind
  ·intro h
   right
   subst h1 h2
   grind
theorem g_eq {x1 y1 z1 x2 y2 z2 : K} (h1 : z1 ≠ 0) (h2 : z2 = 0 → x2 ≠ 0 ∨ y2 ≠ 0) : (x1 * z2 = x2 * z1 ∧ y1 * z2 = y2 * z1) ↔ rd3 (x1, y1, z1) = rd3 (x2, y2, z2) := by
 obtain ⟨a1, b1, e1, f1, g1⟩ := (rd3_ex (x := x1) (y := y1) h1)
 by_cases hz : z2 = 0
 ·rw [rd3_inf (x := x2) (y := y2) hz, g1]
  refine ⟨fun ⟨q1, q2⟩ => ?_, fun q => by cases q⟩
  rw [hz] at q1 q2
  rcases h2 hz with h | h
  ·exact absurd (f_cancel h1 (a := x2) (b := 0) (by grind)) h
  ·exact absurd (f_cancel h1 (a := y2) (b := 0) (by grind)) h
 ·obtain ⟨a2, b2, e2, f2, g2⟩ := (rd3_ex (x := x2) (y := y2) hz)
  rw [g1, g2]
  haveI hzz := f_mul_ne h1 hz
  constructor
  ·intro zz; obtain ⟨q1, q2⟩ := (zz)
   haveI ha : a1 = a2 := f_cancel hzz (by subst e1 e2; grind)
   haveI hb : b1 = b2 := f_cancel hzz (by subst f1 f2; grind)
   rw [ha, hb]
  ·intro q
   injection q with q
   injection q with qa qb
   subst qa qb e1 e2 f1 f2
   constructor <;> grind
theorem g_neg {x y z : K} : rd3 (x, -y, z) = (match rd3 (x, y, z) with | none => none | some (a, b) => some (a, 0 - b)) := by
 by_cases hz : z = 0
 ·rw [rd3_inf hz, rd3_inf hz]
 ·obtain ⟨a, b, h1, h2, e⟩ := (rd3_ex (x := x) (y := y) hz)
  rw [e]
  exact rd3_eq hz h1 (by subst h2; grind)
theorem g_off {c x y : K} (h3 : (3 : K) ≠ 0) (hy : y ≠ 0) (h : y * y = x * (x * x) + c) : ¬ ((y + y) * (y + y) = x * (x * x) + c) := fun q => by
 have : 3 * (y * y) = 0 := by grind
 exact f_mul_ne h3 (f_mul_ne hy hy) this
theorem g_negne {y : K} (h2 : (2 : K) ≠ 0) (hy : y ≠ 0) : y ≠ 0 - y := fun q => by
 have : 2 * y = 0 := by grind
 exact f_mul_ne h2 hy this
end
section
variable {p : Int} {hp : Pr p}
abbrev Z3 (p : Int) := Q p × Q p × Q p
theorem form_rd {P : Option (Q p × Q p)} {s : Q p} (hs : s ≠ qInt 0) : qrd3 hp (form P s) = P := by
 refine opt_e P ?_ fun x y => ?_
 ·exact @rd3_inf (Q p) (fieldQ p hp) s (qInt 1) (qInt 0) rfl
 ·exact @g_form (Q p) (fieldQ p hp) x y s hs
theorem q_add_rd (a b : Z3 p) : qrd3 hp (qadd3 hp a b) = qadd hp (qrd3 hp a) (qrd3 hp b) := @add_rd (Q p) (fieldQ p hp) (q_two hp) a b
theorem q_dbl_rd (a : Z3 p) : qrd3 hp (qdbl3 hp a) = qadd hp (qrd3 hp a) (qrd3 hp a) := @dbl_rd (Q p) (fieldQ p hp) (q_two hp) a
theorem q_four (P : Option (Q p × Q p)) : qadd hp (qadd hp P P) (qadd hp P P) = qadd hp (qadd hp (qadd hp P P) P) P := @four (Q p) (fieldQ p hp) (q_two hp) (q_three hp) P
theorem on3_iff {c : Q p} {a : Z3 p} : on3 c a ↔ onQ c (qrd3 hp a) := by
 obtain ⟨x, y, z⟩ := a
 haveI h := @g_on (Q p) (fieldQ p hp) c x y z
 haveI e : ∀ P : Option (Q p × Q p), @onC (Q p) (fieldQ p hp) c P ↔ onQ c P := fun P => by
  refine opt_e P ?_ fun x y => ?_
  ·exact Iff.rfl
  ·exact Iff.rfl
 haveI hl : on3 c (x, y, z) ↔ (z = qInt 0 ∨ qSub (qMul (qMul y y) z) (qMul (qMul x x) x) = qMul c (qMul (qMul z z) z)) := Iff.rfl
 exact hl.trans (h.trans (e _))
theorem eq3_iff {a b : Z3 p} (h1 : a.2.2 ≠ qInt 0) (h2 : b.2.2 = qInt 0 → b.1 ≠ qInt 0 ∨ b.2.1 ≠ qInt 0) : eq3 a b ↔ qrd3 hp a = qrd3 hp b := by
 obtain ⟨x1, y1, z1⟩ := a
 obtain ⟨x2, y2, z2⟩ := b
 exact @g_eq (Q p) (fieldQ p hp) x1 y1 z1 x2 y2 z2 h1 h2
theorem neg_rd {x y z : Q p} : qrd3 hp (x, qNeg y, z) = qneg (qrd3 hp (x, y, z)) := by
 refine (@g_neg (Q p) (fieldQ p hp) x y z).trans ?_
 unfold qrd3
 generalize @rd3 (Q p) (fieldQ p hp) (x, y, z) = R
 refine opt_e R ?_ fun a b => ?_
 ·rfl
 ·rfl
theorem q_off {c x y : Q p} (hp : Pr p) (hy : y ≠ qInt 0) (h : qMul y y = qcube c x) : ¬ (qMul (qAdd y y) (qAdd y y) = qcube c x) := @g_off (Q p) (fieldQ p hp) c x y (q_three hp) hy h
theorem q_negne {y : Q p} (hp : Pr p) (hy : y ≠ qInt 0) : y ≠ qSub (qInt 0) y := @g_negne (Q p) (fieldQ p hp) y (q_two hp) hy
theorem on_qadd {c : Q p} {P R : Option (Q p × Q p)} (hP : onQ c P) (hR : onQ c R) : onQ c (qadd hp P R) := by
 have e : ∀ P : Option (Q p × Q p), @onC (Q p) (fieldQ p hp) c P ↔ onQ c P := fun P => by
  refine opt_e P ?_ fun x y => ?_
  ·exact Iff.rfl
  ·exact Iff.rfl
 exact (e _).mp (@on_padd (Q p) (fieldQ p hp) (q_two hp) c P R ((e _).mpr hP) ((e _).mpr hR))
theorem rd_none {x y z : Q p} : qrd3 hp (x, y, z) = none ↔ z = qInt 0 := by
 rw [qrd3_eq]
 constructor
 ·intro h
  by_cases hz : z = qInt 0
  ·exact hz
  ·rw [if_neg hz] at h; cases h
 ·intro h; rw [if_pos h]
theorem multi1 (P : Option (Q p × Q p)) : qmulti hp P 1 = P := none_qadd P
theorem mul_rd (a : Z3 p) (e : Nat) (he : e ≤ 5) : qrd3 hp (qmul3 hp a e) = qmulti hp (qrd3 hp a) e := by
 haveI h0 : ∀ a : Z3 p, qrd3 hp (qmul3 hp a 0) = none := fun a => by rw [qmul3_0]; exact rd_none.mpr rfl
 have h1 : ∀ a : Z3 p, qrd3 hp (qmul3 hp a 1) = qrd3 hp a := fun a => by rw [qmul3_1]
 haveI h2 : ∀ a : Z3 p, qrd3 hp (qmul3 hp a 2) = qadd hp (qrd3 hp a) (qrd3 hp a) := fun a => by rw [qmul3_even a 0 rfl]; rw [show (0 + 2) / 2 = 1 from rfl, h1, q_dbl_rd]
 have m2 : ∀ P : Option (Q p × Q p), qmulti hp P 2 = qadd hp P P := fun P => by show qadd hp (qmulti hp P 1) P = _; rw [multi1]
 have m3 : ∀ P : Option (Q p × Q p), qmulti hp P 3 = qadd hp (qadd hp P P) P := fun P => by show qadd hp (qmulti hp P 2) P = _; rw [m2]
 have m4 : ∀ P : Option (Q p × Q p), qmulti hp P 4 = qadd hp (qadd hp P P) (qadd hp P P) := fun P => by show qadd hp (qmulti hp P 3) P = _; rw [m3, q_four]
 haveI m5 : ∀ P : Option (Q p × Q p), qmulti hp P 5 = qadd hp (qadd hp (qadd hp P P) (qadd hp P P)) P := fun P => by show qadd hp (qmulti hp P 4) P = _; rw [m4]
 match e, he with
 | 0, _ => rw [h0]; rfl
 | 1, _ => rw [h1, multi1]
 | 2, _ => rw [h2, m2]
 | 3, _ => rw [qmul3_odd a 1 (by decide), m3]; rw [show (1 + 2) / 2 = 1 from rfl, q_add_rd, h1, q_dbl_rd]
 | 4, _ => rw [qmul3_even a 2 rfl, m4]; rw [show (2 + 2) / 2 = 2 from rfl, h2, q_dbl_rd]
 | 5, _ => rw [qmul3_odd a 3 (by decide), m5]; rw [show (3 + 2) / 2 = 2 from rfl, q_add_rd, h2, q_dbl_rd]
end
end
section
open Classical
section
variable {p : Int} {hp : Pr p} {n : Nat} {T : Tab} {k : V → Prop}
noncomputable def oneQ (hp : Pr p) : Q p := ⟨⟨1, 0⟩, by have := hp.ge; exact ⟨by show (1 : Int) % p = 1; exact Int.emod_eq_of_lt (by omega) (by omega), by show (0 : Int) % p = 0; simp⟩⟩
theorem oneQ_eq : oneQ hp = qInt 1 := Q.ext (F.ext (by show (1 : Int) = 1 % p; have := hp.ge; rw [Int.emod_eq_of_lt (by omega) (by omega)]) (by show (0 : Int) = 0 % p; simp))
theorem oneQ_ne : oneQ hp ≠ qInt 0 := by rw [oneQ_eq]; exact fun q => q_01 hp q.symm
theorem vc_lTwisted (H : TabS p hp n T) (hn : 9 ≤ n + 1) {x1 y1 x2 y2 : Q p} (hk : k (.bool true)) : Vc T ir_lTwisted xt_lTwisted [.lst [ptV (some (x1, y1)), ptV (some (x2, y2))], .int p] k := by
 haveI f1 : qrd3 hp (form (some (x1, y1)) (oneQ hp)) = some (x1, y1) := form_rd oneQ_ne
 haveI f2 : qrd3 hp (form (some (x2, y2)) (oneQ hp)) = some (x2, y2) := form_rd oneQ_ne
 haveI z1 : (form (some (x1, y1)) (oneQ hp)).2.2 ≠ qInt 0 := oneQ_ne (hp := hp)
 haveI z2 : (form (some (x2, y2)) (oneQ hp)).2.2 ≠ qInt 0 := oneQ_ne (hp := hp)
 haveI hf := q_add_rd (hp := hp) (form (some (x1, y1)) (oneQ hp)) (form (some (x2, y2)) (oneQ hp))
 rw [f1, f2] at hf
 symm
 refine H.det (.cOPT (by omega) [0, 0, 0, 0, 0, 0, 0, 0, 0, 0, 0, 0] rfl (.inl rfl)) ?_
 symm
 refine H.det (.lForm (P := some (x1, y1)) (sc := oneQ hp) (by omega)) ?_
 symm
 refine H.det (.twist (by omega) (a := form (some (x1, y1)) (oneQ hp))) ?_
 symm
 refine H.det (.lForm (P := some (x2, y2)) (sc := oneQ hp) (by omega)) ?_
 symm
 refine H.det (.twist (by omega) (a := form (some (x2, y2)) (oneQ hp))) ?_
 symm
 refine H.det (.lAdd (P := some (x1, y1)) (R := some (x2, y2)) (by omega)) ?_
 symm
 revert z1 z2 hf
 generalize form (some (x1, y1)) (oneQ hp) = a
 generalize form (some (x2, y2)) (oneQ hp) = b
 generalize qadd hp (some (x1, y1)) (some (x2, y2)) = total
 intro z1 z2 hf
 refine H.any (.add (t := true) (by omega) (.inl rfl) (a := a) (b := b)) ?_
 intro v zz; obtain ⟨i, j, m, rfl, hd⟩ := (zz)
 haveI hd' := hd z1 z2
 clear hd
 revert hf hd'
 generalize qadd3 hp a b = w
 intro hf hd'
 symm
 refine H.detE (.isInf (t := true) (i := 1) (j := 0) (k := 3) (a := a) (by omega) (.inl rfl)) (by rw [show Bo (a.2.2 = qInt 0) = .bool false from (bo_neg z1).symm]) ?_
 symm
 refine H.det (.lTells (by omega)) ?_
 symm
 obtain ⟨X, Y, Z⟩ := w
 refine H.det (.isInf (t := true) (i := i) (j := j) (k := m) (a := (X, Y, Z)) (by omega) (.inl rfl)) ?_
 match total, hf with
 | none, hf =>
  haveI hz : Z = qInt 0 := rd_none.mp hf
  rw [show Bo ((X, Y, Z).2.2 = qInt 0) = .bool true from (bo_pos hz).symm]
  symm
  refine H.det (.lTells (by omega)) ?_
  symm
  exact hk
 | some (x, y), hf =>
  have hz : Z ≠ qInt 0 := fun q => by rw [rd_none.mpr q] at hf; cases hf
  rw [show Bo ((X, Y, Z).2.2 = qInt 0) = .bool false from (bo_neg hz).symm]
  symm
  refine H.det (.lTells (by omega)) ?_
  symm
  refine H.det (.lForm (P := some (x, y)) (sc := oneQ hp) (by omega)) ?_
  symm
  refine H.det (.twist (by omega) (a := form (some (x, y)) (oneQ hp))) ?_
  symm
  haveI hdd := hd' hz
  refine H.det (.eq (t := true) (i := i) (j := j) (k := m) (i' := 1) (j' := 0) (k' := 3) (a := (X, Y, Z)) (b := form (some (x, y)) (oneQ hp)) (by omega) (.inl rfl) (.inr (by omega))) ?_
  haveI he : eq3 (X, Y, Z) (form (some (x, y)) (oneQ hp)) := (eq3_iff (hp := hp) hz (fun q => absurd q (oneQ_ne (hp := hp)))).mpr (by rw [hf, form_rd (oneQ_ne (hp := hp))])
  rw [show Bo (eq3 (X, Y, Z) (form (some (x, y)) (oneQ hp))) = .bool true from (bo_pos he).symm]
  symm
  refine H.det (.lTells (by omega)) ?_
  symm
  exact hk
end
end
section
open Classical
section
variable {p : Int} {hp : Pr p} {n : Nat} {T : Tab} {k : V → Prop}
theorem data_pts (A B C D : Option (Q p × Q p)) : isData 5 (.lst [ptV A, ptV B, ptV C, ptV D]) = true := by
 show (isData 4 (ptV A) && (isData 4 (ptV B) && (isData 4 (ptV C) && (isData 4 (ptV D) && true)))) = true
 rw [data_pt 1, data_pt 1, data_pt 1, data_pt 1]; rfl
theorem veq_pts (A B C D : Option (Q p × Q p)) : veq 5 (.lst [ptV A, ptV B, ptV C, ptV D]) (.lst [ptV A, ptV B, ptV C, ptV D]) = true := by
 show (veq 4 (ptV A) (ptV A) && (veq 4 (ptV B) (ptV B) && (veq 4 (ptV C) (ptV C) && (veq 4 (ptV D) (ptV D) && true)))) = true
 rw [veq_pt 1, veq_pt 1, veq_pt 1, veq_pt 1]; simp
noncomputable def numT (W : Option (Q p × Q p)) (e : Nat) : Nat := match W with | none => e | some (_, y) => if y = qInt 0 then e % 2 else e
theorem numT_le (W : Option (Q p × Q p)) (e : Nat) : numT W e ≤ e := by
 refine opt_e W (Nat.le_refl _) fun x y => ?_
 by_cases h : y = qInt 0
 ·exact Nat.le_trans (Nat.le_of_eq (if_pos h)) (Nat.mod_le _ _)
 ·exact Nat.le_of_eq (if_neg h)
noncomputable abbrev numBody : IS := (.cons (.ite (.and (.cmp .IsNot (.va 6) .none) (.cmp .Eq (.idx (.va 6) (.int 1)) (.tup (.ac (.int 0) (.ac (.int 0) .an))))) (.cons (.asg false 2 (.bin .Mod (.va 2) (.int 2))) .nil) .nil) .nil)
theorem num_loop {x0 x1 x3 x4 x5 : V} {kn : List Slot → Prop} (Ws : List (Option (Q p × Q p))) : ∀ (e : Nat) (s6 : Slot), (∀ s6, kn [.v x0, .v x1, .v (.int (Ws.foldl (fun e W => numT W e) e : Nat)), .v x3, .v x4, .v x5, s6, .u, .u, .u, .u, .u, .u]) →
  forF [6] (fun ρ' k' => wS T numBody ρ' k' k) (Ws.map ptV) [.v x0, .v x1, .v (.int e), .v x3, .v x4, .v x5, s6, .u, .u, .u, .u, .u, .u] kn := by
 induction Ws with
 | nil => exact fun e s6 h => h s6
 | cons W Ws ih =>
  intro e s6
  refine opt_e W (fun h => ih e _ h) fun x y h => ?_
  haveI h : ∀ s6, kn [.v x0, .v x1, .v (.int (Ws.foldl (fun e W => numT W e) (numT (some (x, y)) e) : Nat)), .v x3, .v x4, .v x5, s6, .u, .u, .u, .u, .u, .u] := h
  by_cases hy : y = qInt 0
  ·rw [show numT (some (x, y)) e = e % 2 from if_pos hy] at h
   refine br_t (by rw [veq_p0]; simp [hy]) ?_
   exact And.intro (by decide) (ih (e % 2) (.v (ptV (some (x, y)))) h)
  ·rw [show numT (some (x, y)) e = e from if_neg hy] at h
   refine br_f (by rw [veq_p0]; simp [hy]) ?_
   exact ih e (.v (ptV (some (x, y)))) h
noncomputable def tl : IS → IS | .cons _ r => r | s => s
theorem vc_lPlainRight (H : TabS p hp n T) (hn : 15 ≤ n + 1) {c x y : Q p} {R : Option (Q p × Q p)} (e : Nat) (he : e ≤ 3) (hc : qMul y y = qcube c x) (hy : y ≠ qInt 0) (hk : k (.bool true)) : Vc T ir_lPlainRight xt_lPlainRight [.lst [ptV (some (x, y)), ptV R], pr c, .int e, .int p] k := by
 have hN1 : numT (qadd hp R R) (numT R e) ≤ 3 := Nat.le_trans (numT_le _ _) (Nat.le_trans (numT_le _ _) he)
 haveI hN2 : ∀ a b, R = some (a, b) → 2 ≤ numT (qadd hp R R) (numT R e) → b ≠ qInt 0 := fun a b hR h2 hb => by
  haveI h3 : numT R e = e % 2 := by rw [hR]; exact if_pos hb
  haveI := numT_le (qadd hp R R) (numT R e)
  rw [h3] at this
  haveI := Nat.mod_lt e (show 2 > 0 by omega)
  rw [h3] at h2
  omega
 symm
 refine H.det (.lPlain (P := some (x, y)) (by omega)) ?_
 symm
 refine H.det (.lPlain (P := R) (by omega)) ?_
 symm
 refine H.det (.lAdd (P := R) (R := R) (by omega)) ?_
 show forF [6] (fun ρ' k' => wS T numBody ρ' k' k) ([R, qadd hp R R].map ptV) [.v (.lst [ptV (some (x, y)), ptV R]), .v (pr c), .v (.int e), .v (.int p), .v (plV (some (x, y))), .v (plV R), .u, .u, .u, .u, .u, .u, .u] (fun ρ' => wS T (tl (tl ir_lPlainRight)) ρ' (fun J => k .none) k)
 refine num_loop _ _ _ fun s6 => ?_
 show wS T (tl (tl ir_lPlainRight)) [.v (.lst [ptV (some (x, y)), ptV R]), .v (pr c), .v (.int ((numT (qadd hp R R) (numT R e) : Nat) : Int)), .v (.int p), .v (plV (some (x, y))), .v (plV R), s6, .u, .u, .u, .u, .u, .u] _ k
 revert hN1 hN2
 generalize numT (qadd hp R R) (numT R e) = N
 intro hN1 hN2
 symm
 refine H.det (.pAdd (P := some (x, y)) (R := R) (by omega) (fun a b q J => by cases q; exact hy)) ?_
 symm
 refine H.det (.pDbl (P := some (x, y)) (by omega) (fun a b q => by cases q; exact hy)) ?_
 symm
 refine H.det (.pNeg (P := some (x, y)) (by omega)) ?_
 symm
 refine H.det (.pMul (P := R) N (by omega) hN1 hN2) ?_
 symm
 refine H.det (.lAdd (P := some (x, y)) (R := R) (by omega)) ?_
 symm
 refine H.det (.lAdd (P := some (x, y)) (R := some (x, y)) (by omega)) ?_
 symm
 refine H.det (.lNeg (P := some (x, y)) (by omega)) ?_
 symm
 refine H.det (.lMult (P := R) (by omega) N (by omega)) ?_
 haveI hm : qneg (some (x, y)) = some (x, qSub (qInt 0) y) := rfl
 generalize qadd hp (some (x, y)) R = A
 generalize qadd hp (some (x, y)) (some (x, y)) = A2
 generalize qmulti hp R N = M
 symm
 refine H.det (.lPlainRead (P := A) (by omega)) ?_
 symm
 refine H.det (.lPlainRead (P := A2) (by omega)) ?_
 symm
 refine H.det (.lPlainRead (P := qneg (some (x, y))) (by omega)) ?_
 symm
 refine H.det (.lPlainRead (P := M) (by omega)) ?_
 generalize qneg (some (x, y)) = A3 at *
 walk_at "vc"
 rw [data_pts, veq_pts]
 subst hm
 symm
 refine H.det (.cFP (by omega) c (.inr rfl) (.inl ⟨_, rfl, hp.pos, c.h.1.symm⟩) (.inl ⟨_, rfl, hp.pos, c.h.2.symm⟩)) ?_
 symm
 refine H.det (.fAdd (x := y) (y := y) (by omega)) ?_
 symm
 refine H.detE (.pIsInf (P := some (x, y)) (by omega)) (by rw [show Bo ((some (x, y) : Option (Q p × Q p)) = none) = .bool false from (bo_neg (by simp)).symm]) ?_
 symm
 refine H.detE (.pIsInf (P := none) (by omega)) (by rw [show Bo ((none : Option (Q p × Q p)) = none) = .bool true from (bo_pos rfl).symm]) ?_
 symm
 refine H.detE (.pOnC (P := some (x, y)) (c := c) (by omega)) (by rw [show Bo (onQ c (some (x, y))) = .bool true from (bo_pos hc).symm]) ?_
 symm
 refine H.detE (.pOnC (P := some (x, qAdd y y)) (c := c) (by omega)) (by rw [show Bo (onQ c (some (x, qAdd y y))) = .bool false from (bo_neg (q_off hp hy hc)).symm]) ?_
 symm
 refine H.detE (.pEq (x := x) (y := y) (x' := x) (y' := y) (by omega)) (by rw [show Bo (x = x ∧ y = y) = .bool true from (bo_pos ⟨rfl, rfl⟩).symm]) ?_
 symm
 refine H.detE (.pEq (x := x) (y := y) (x' := x) (y' := qSub (qInt 0) y) (by omega)) (by rw [show Bo (x = x ∧ y = qSub (qInt 0) y) = .bool false from (bo_neg (fun q => q_negne hp hy q.2)).symm]) ?_
 iterate 6
  symm
  refine H.det (.lTells (by omega)) ?_
 symm
 exact hk
end
end
section
open Classical
local macro_rules | `(tactic| walk_at "ii") => `(tactic| first | exact .inl rfl | exact .inr rfl)
section
variable {p : Int} {hp : Pr p} {n : Nat} {T : Tab} {k : V → Prop}
noncomputable def onW (c : Q p) (W : Option (Q p × Q p)) : Bool := match W with | none => true | some (u, v) => veq 5 (pr (qcube c u)) (pr (qMul v v))
theorem onW_eq (c : Q p) (W : Option (Q p × Q p)) : Bo (onQ c W) = .bool (onW c W) := by
 refine opt_e W ?_ fun u v => ?_
 ·exact (bo_pos trivial).symm
 ·show Bo (qMul v v = qcube c u) = .bool (veq 5 (pr (qcube c u)) (pr (qMul v v)))
  rw [veq_pr 3, bo_dec (P := qMul v v = qcube c u) (decidable_of_iff (qcube c u = qMul v v) eq_comm)]
  congr 1
  exact decide_eq_decide.mpr eq_comm
theorem tells (H : TabS p hp n T) (hn : 1 ≤ n) {a b : Bool} {K : V → Prop} (hab : a = b) (hK : K (.bool true)) : T .lTells [.bool a, .bool b] K := by
 subst hab
 refine H.detE (.lTells hn) (by rw [beq_self_eq_true]) ?_
 exact hK
set_option maxHeartbeats 2000000 in
theorem vc_lOpt (H : TabS p hp n T) (hn : 14 ≤ n + 1) {w : Int} (hw : w = 0 ∨ w = 1) {c x y s0 s1 : Q p} {R : Option (Q p × Q p)} {S : Q p × Q p × Q p} (e : Nat) (he : e ≤ 5) (hc : qMul y y = qcube c x) (hy : y ≠ qInt 0) (hR : onQ c R) (h0 : s0 ≠ qInt 0) (h1 : s1 ≠ qInt 0)
  (hS : S.2.2 = qInt 0 → S.1 ≠ qInt 0 ∨ S.2.1 ≠ qInt 0) (hk : k (.bool true)) : Vc T ir_lOpt xt_lOpt [.int w, .lst [ptV (some (x, y)), ptV R], pr c, .lst [pr s0, pr s1], pj false 0 0 0 S, .int e, .int p] k := by
 haveI ra : qrd3 hp (form (some (x, y)) s0) = some (x, y) := form_rd h0
 haveI rb : qrd3 hp (form R s1) = R := form_rd h1
 haveI rs := q_add_rd (hp := hp) (form (some (x, y)) s0) (form R s1)
 haveI rd := q_dbl_rd (hp := hp) (form (some (x, y)) s0)
 haveI rm := mul_rd (hp := hp) (form R s1) e he
 haveI rn : qrd3 hp (qMul x s0, qNeg (qMul y s0), s0) = qneg (some (x, y)) := by rw [neg_rd]; exact congrArg qneg ra
 rw [ra, rb] at rs
 rw [ra] at rd
 rw [rb] at rm
 haveI za : (form (some (x, y)) s0).2.2 ≠ qInt 0 := h0
 haveI zb : (form R s1).2.2 = qInt 0 → (form R s1).1 ≠ qInt 0 ∨ (form R s1).2.1 ≠ qInt 0 := fun q => by
  revert q
  refine opt_e R (fun q => ?_) fun u v q => ?_
  ·exact .inr fun q => q_01 hp q.symm
  ·exact absurd q h1
 haveI p1 : (form (some (x, y)) s0).2.2 = qInt 0 ↔ False := ⟨fun q => za q, fun q => q.elim⟩
 haveI p2 : on3 c (qadd3 hp (form (some (x, y)) s0) (form R s1)) ↔ True := ⟨fun J => trivial, fun J => on3_iff.mpr (by rw [rs]; exact on_qadd hc hR)⟩
 haveI p3 : eq3 (form (some (x, y)) s0) (form R s1) ↔ some (x, y) = R := by rw [eq3_iff (hp := hp) za zb, ra, rb]
 haveI p4 : eq3 (form (some (x, y)) s0) S ↔ some (x, y) = qrd3 hp S := by rw [eq3_iff (hp := hp) za hS, ra]
 haveI p5 : eq3 (qMul x s0, qNeg (qMul y s0), s0) (form (some (x, y)) s0) ↔ False := by
  rw [eq3_iff (hp := hp) (show (qMul x s0, qNeg (qMul y s0), s0).2.2 ≠ qInt 0 from h0) (fun q => absurd q za), rn, ra]
  refine ⟨fun q => ?_, fun q => q.elim⟩
  haveI : some (x, qSub (qInt 0) y) = some (x, y) := q
  injection this with q
  injection q with q1 q2
  exact q_negne hp hy q2.symm
 obtain ⟨n1, n2⟩ : qMul (qMul x s0) (qInv s0) = x ∧ qMul (qMul y s0) (qInv s0) = y := by
  haveI : qrd3 hp (qMul x s0, qMul y s0, s0) = some (x, y) := ra
  rw [qrd3_eq, if_neg h0] at this
  injection this with q
  injection q with q1 q2
  exact ⟨q1, q2⟩
 haveI b1 : Bo ((form (some (x, y)) s0).2.2 = qInt 0) = .bool false := (bo_neg za).symm
 haveI b2 : Bo (S.2.2 = qInt 0) = .bool (isNone (ptV (qrd3 hp S))) := by
  obtain ⟨sx, sy, sz⟩ := S
  haveI : ((sx, sy, sz).2.2 = qInt 0) = (qrd3 hp (sx, sy, sz) = none) := propext rd_none.symm
  rw [this, is_none_pt]; exact bo_dec _
 haveI b3 : Bo (on3 c S) = .bool (onW c (qrd3 hp S)) := by rw [show on3 c S = onQ c (qrd3 hp S) from propext on3_iff]; exact onW_eq _ _
 haveI b4 : Bo (on3 c (qadd3 hp (form (some (x, y)) s0) (form R s1))) = .bool true := (bo_pos (p2.mpr trivial)).symm
 haveI b5 : Bo (eq3 (form (some (x, y)) s0) (form R s1)) = .bool (veq 5 (ptV (some (x, y))) (ptV R)) := by rw [propext p3, veq_pt 2]; exact bo_dec _
 haveI b6 : Bo (eq3 (form (some (x, y)) s0) S) = .bool (veq 5 (ptV (some (x, y))) (ptV (qrd3 hp S))) := by rw [propext p4, veq_pt 2]; exact bo_dec _
 haveI b7 : Bo (eq3 (qMul x s0, qNeg (qMul y s0), s0) (form (some (x, y)) s0)) = .bool false := (bo_neg p5.mp).symm
 haveI hE : wS T (tl (tl (tl ir_lOpt))) [.v (.int w), .v (.lst [ptV (some (x, y)), ptV R]), .v (pr c), .v (.lst [pr s0, pr s1]), .v (pj false 0 0 0 S), .v (.int e), .v (.int p), .v (pj false 0 0 0 (form (some (x, y)) s0)), .v (pj false 0 0 0 (form R s1)), .v (.e2 c.x p), .v (.lst [pj false 0 0 0 (qadd3 hp (form (some (x, y)) s0) (form R s1)), pj false 0 0 0 (qdbl3 hp (form (some (x, y)) s0)), pj false 0 0 0 (qMul x s0, qNeg (qMul y s0), s0), pj false 0 0 0 (qmul3 hp (form R s1) e)]), .v (.lst [.bool false, .bool (isNone (ptV (qrd3 hp S))), .bool (onW c (qrd3 hp S)), .bool true, .bool (veq 5 (ptV (some (x, y))) (ptV R)), .bool (veq 5 (ptV (some (x, y))) (ptV (qrd3 hp S))), .bool false]), .v (.tup [.e2 x.x p, .e2 y.x p]), .u, .u, .u, .u] (fun _ => k .none) k := by
  symm
  refine H.det (.lAdd (P := some (x, y)) (R := R) (by omega)) ?_
  symm
  refine H.det (.lAdd (P := some (x, y)) (R := some (x, y)) (by omega)) ?_
  symm
  refine H.det (.lNeg (P := some (x, y)) (by omega)) ?_
  symm
  refine H.det (.lMult (P := R) (by omega) e (by omega)) ?_
  symm
  refine H.detE (.lRead (a := qadd3 hp (form (some (x, y)) s0) (form R s1)) (by omega)) (by rw [rs]) ?_
  symm
  refine H.detE (.lRead (a := qdbl3 hp (form (some (x, y)) s0)) (by omega)) (by rw [rd]) ?_
  symm
  refine H.detE (.lRead (a := (qMul x s0, qNeg (qMul y s0), s0)) (by omega)) (by rw [rn]) ?_
  symm
  refine H.detE (.lRead (a := qmul3 hp (form R s1) e) (by omega)) (by rw [rm]) ?_
  generalize qneg (some (x, y)) = N3
  generalize qadd hp (some (x, y)) (some (x, y)) = N2
  generalize qadd hp (some (x, y)) R = N1
  generalize qmulti hp R e = N4
  walk_at "vc"
  rw [data_pts, veq_pts]
  symm
  refine H.det (.lRead (a := S) (by omega)) ?_
  generalize qrd3 hp S = W
  refine opt_e W ?_ fun u v => ?_
  ·walk_at "vc"
   rw [data_pt 2, data_pt 2]
   iterate 7
    symm
    refine tells H (by omega) rfl ?_
   symm
   refine H.det (.lPair (by omega) (x := x) (.inl rfl)) ?_
   symm
   refine H.det (.lPair (by omega) (x := y) (.inl rfl)) ?_
   walk_at "vc"
   haveI hv : veq 5 (.lst [pr x, pr y]) (.lst [pr x, pr y]) = true := by
    show (veq 4 (pr x) (pr x) && (veq 4 (pr y) (pr y) && true)) = true
    rw [veq_pr 2, veq_pr 2]; simp
   exact hv ▸ hk
  ·symm
   refine H.det (.lCube (x := u) (c := c) (by omega)) ?_
   symm
   refine H.det (.lTimes (x := v) (y := v) (by omega)) ?_
   walk_at "vc"
   rw [data_pt 2, data_pt 2]
   iterate 7
    symm
    refine tells H (by omega) rfl ?_
   symm
   refine H.det (.lPair (by omega) (x := x) (.inl rfl)) ?_
   symm
   refine H.det (.lPair (by omega) (x := y) (.inl rfl)) ?_
   walk_at "vc"
   haveI hv : veq 5 (.lst [pr x, pr y]) (.lst [pr x, pr y]) = true := by
    show (veq 4 (pr x) (pr x) && (veq 4 (pr y) (pr y) && true)) = true
    rw [veq_pr 2, veq_pr 2]; simp
   exact hv ▸ hk
 rcases hw with rfl | rfl
 all_goals
  symm
  refine H.det (.lForm (P := some (x, y)) (sc := s0) (by omega)) ?_
  symm
  refine H.det (.lForm (P := R) (sc := s1) (by omega)) ?_
  symm
  refine H.detE (.cFQ2 (by omega) c.x (.inr rfl)) (by rw [mk_self]) ?_
  symm
  refine H.any (.add (t := false) (by omega) (by walk_at "ii") (a := form (some (x, y)) s0) (b := form R s1)) ?_
  intro v zz; obtain ⟨i, j, m, rfl, _⟩ := (zz)
  rw [pj_false i j m]
  symm
  refine H.det (.dbl (t := false) (by omega) (by walk_at "ii") (a := form (some (x, y)) s0)) ?_
  symm
  refine H.det (.neg (by omega) (by walk_at "ii") (x := qMul x s0) (y := qMul y s0) (z := s0)) ?_
  symm
  refine H.det (.mul (by walk_at "ii") (a := form R s1) e (by omega)) ?_
  symm
  refine H.detE (.isInf (t := false) (i := 0) (j := 0) (k := 0) (a := form (some (x, y)) s0) (by omega) (by walk_at "ii")) (by rw [b1]) ?_
  symm
  refine H.detE (.isInf (t := false) (i := 0) (j := 0) (k := 0) (a := S) (by omega) (by walk_at "ii")) (by rw [b2]) ?_
  symm
  refine H.detE (.onC (a := S) (c := c) (by omega) (by walk_at "ii")) (by rw [b3]) ?_
  symm
  refine H.detE (.onC (a := qadd3 hp (form (some (x, y)) s0) (form R s1)) (c := c) (by omega) (by walk_at "ii")) (by rw [b4]) ?_
  symm
  refine H.detE (.eq (t := false) (i := 0) (j := 0) (k := 0) (i' := 0) (j' := 0) (k' := 0) (a := form (some (x, y)) s0) (b := form R s1) (by omega) (by walk_at "ii") (.inl rfl)) (by rw [b5]) ?_
  symm
  refine H.detE (.eq (t := false) (i := 0) (j := 0) (k := 0) (i' := 0) (j' := 0) (k' := 0) (a := form (some (x, y)) s0) (b := S) (by omega) (by walk_at "ii") (.inl rfl)) (by rw [b6]) ?_
  symm
  refine H.detE (.eq (t := false) (i := 0) (j := 0) (k := 0) (i' := 0) (j' := 0) (k' := 0) (a := (qMul x s0, qNeg (qMul y s0), s0)) (b := form (some (x, y)) s0) (by omega) (by walk_at "ii") (.inl rfl)) (by rw [b7]) ?_
  symm
  refine H.detE (.norm (by omega) (by walk_at "ii") (x := qMul x s0) (y := qMul y s0) (z := s0) h0) (by rw [n1, n2]) ?_
  symm
  exact hE
end
end
section
open Classical
section
variable {n : Nat} {T : Tab} {k : V → Prop}
noncomputable abbrev givenE : IE := .ite (.cmp .Lt (.va 9) (.bi .len (.va 0))) (.bi .abs (.idx (.va 0) (.va 9))) (.bin .Add (.bin .Mult (.int 9) (.va 9)) (.int 7))
theorem given_comp {l : List Int} {cond : List (Option V) → (Bool → Prop) → Prop} (ks : List Nat) : ∀ (s9 : Option V) (kk : List V → Prop), (∀ q ∈ ks, q < 60) → (∀ gs : List Int, gs.length = ks.length → kk (vl gs)) →
  compF [9] true cond (fun ρ' k' => wE T givenE ρ' k') (ks.map fun (q : Nat) => V.int ((q : Nat) : Int)) [some (.lst (vl l)), none, none, none, none, none, none, none, none, s9] kk := by
 induction ks with
 | nil => exact fun _ _ _ h => h [] rfl
 | cons q ks ih =>
  intro s9 kk hq h
  haveI next := fun (g : Int) => ih (some (.int (q : Int))) (fun xs => kk (V.int g :: xs)) (fun q' hq' => hq q' (.tail _ hq')) fun gs hl => h (g :: gs) (congrArg (· + 1) hl)
  haveI hq60 := hq q (.head _)
  by_cases hlt : q < l.length
  ·refine br_t (decide_eq_true (by rw [vl_len]; exact Int.ofNat_lt.mpr hlt)) ?_
   exact onSome_nth (List.getElem?_eq_getElem (show (Int.toNat (q : Int)) < l.length from hlt)) (next _)
  ·refine br_f (decide_eq_false (by rw [vl_len]; exact fun z => hlt (Int.ofNat_lt.mp z))) ?_
   exact And.intro (.inl (by unfold Sm; omega)) (next _)
theorem vc_lPrimes (hk : k (.lst (primes.map fun (q : Nat) => V.int (q : Int)))) : Vc T ir_lPrimes [] [] k := by
 symm
 exact hk
end
end
section
open Classical
theorem len_s {α : Type} {n : Nat} {l : List α} (h : l.length = n + 1) : ∃ a r, l = a :: r ∧ r.length = n := by
 cases l with
 | nil => cases h
 | cons a r => exact ⟨a, r, rfl, Nat.succ.inj h⟩
noncomputable def tln : Nat → IS → IS | 0, s => s | n + 1, s => tln n (tl s)
section
variable {p : Int} {hp : Pr p} {n : Nat} {T : Tab} {k : V → Prop}
theorem form_nz {P : Option (Q p × Q p)} {s : Q p} (hp : Pr p) (hs : s ≠ qInt 0) : (form P s).2.2 = qInt 0 → (form P s).1 ≠ qInt 0 ∨ (form P s).2.1 ≠ qInt 0 :=
 opt_e P (fun _ => .inr fun q => q_01 hp q.symm) fun u v q => absurd q hs
noncomputable def rowG (g : Nat → Int) : List V := [.int (g 0), .int (g 1), .int (g 2), .int (g 3), .int (g 4), .int (g 5), .int (g 6), .int (g 7), .int (g 8), .int (g 9), .int (g 10), .int (g 11), .int (g 12), .int (g 13), .int (g 14)]
theorem law_end (H : TabS p hp n T) (hn : 17 ≤ n + 1) {g : Nat → Int} {x0 : V} {c x y s0 s1 : Q p} {R : Option (Q p × Q p)} {S : Q p × Q p × Q p} {s7 : Slot} {kn : List Slot → Prop} (hc : qMul y y = qcube c x) (hy : y ≠ qInt 0) (hR : onQ c R) (h0 : s0 ≠ qInt 0) (h1 : s1 ≠ qInt 0)
  (hS : S.2.2 = qInt 0 → S.1 ≠ qInt 0 ∨ S.2.1 ≠ qInt 0) (h6 : (g 6) % 4 = 0 ∨ (g 6) % 4 = 1) (hk : k (.bool true)) :
  wS T (tln 16 ir_law) [.v x0, .v (.lst (rowG g)), .v (.int p), .v (pr c), .v (ptV (some (x, y))), .v (ptV R), .v (.lst [pr s0, pr s1]), s7, .v (pj false 0 0 0 S)] kn k := by
 haveI hp0 := hp.ge
 haveI f5 : onQ c (some (x, y)) := hc
 symm
 by_cases h4 : (g 14) % 8 = 4
 ·refine br_t (by rw [h4]; rfl) ?_
  symm
  refine H.det (.lAdd (P := some (x, y)) (R := R) (by omega)) ?_
  symm
  refine H.det (.lForm (P := qadd hp (some (x, y)) R) (sc := s1) (by omega)) ?_
  symm
  obtain ⟨e, he⟩ : ∃ e : Nat, (g 7) % 6 = e := ⟨((g 7) % 6).toNat, by omega⟩
  rw [he]
  exact H.det (.lOpt (by omega) h6 e (by omega) hc hy hR h0 h1 (form_nz hp h1)) hk
 ·refine br_f (veq_int_f h4) ?_
  symm
  obtain ⟨e, he⟩ : ∃ e : Nat, (g 7) % 6 = e := ⟨((g 7) % 6).toNat, by omega⟩
  rw [he]
  exact H.det (.lOpt (by omega) h6 e (by omega) hc hy hR h0 h1 hS) hk
theorem law_strange (H : TabS p hp n T) (hn : 17 ≤ n + 1) {g : Nat → Int} {x0 : V} {c x y s0 s1 a b d : Q p} {R : Option (Q p × Q p)} {s8 : Slot} {kn : List Slot → Prop} (hc : qMul y y = qcube c x) (hy : y ≠ qInt 0) (hR : onQ c R) (h0 : s0 ≠ qInt 0) (h1 : s1 ≠ qInt 0)
  (hS : d = qInt 0 → a ≠ qInt 0 ∨ b ≠ qInt 0) (h6 : (g 6) % 4 = 0 ∨ (g 6) % 4 = 1) (hk : k (.bool true)) :
  wS T (tln 14 ir_law) [.v x0, .v (.lst (rowG g)), .v (.int p), .v (pr c), .v (ptV (some (x, y))), .v (ptV R), .v (.lst [pr s0, pr s1]), .o [pr a, pr b, pr d], s8] kn k := by
 symm
 refine H.detE (.cFQ2 (by omega) a.x (.inr rfl)) (by rw [mk_self]) ?_
 symm
 refine H.detE (.cFQ2 (by omega) b.x (.inr rfl)) (by rw [mk_self]) ?_
 symm
 refine H.detE (.cFQ2 (by omega) d.x (.inr rfl)) (by rw [mk_self]) ?_
 haveI := law_end H hn (x0 := x0) (s7 := .v (.lst [pr a, pr b, pr d])) (kn := kn) (g := g) (S := (a, b, d)) hc hy hR h0 h1 hS h6 hk
 exact this
theorem row_end (H : TabS p hp n T) (hn : 17 ≤ n + 1) {g : Nat → Int} {x0 : V} {c x y s0 s1 a b d : Q p} {R : Option (Q p × Q p)} {s8 : Slot} {kn : List Slot → Prop} (hc : qMul y y = qcube c x) (hy : y ≠ qInt 0) (hR : onQ c R) (h0 : s0 ≠ qInt 0) (h1 : s1 ≠ qInt 0)
  (h6 : (g 6) % 4 = 0 ∨ (g 6) % 4 = 1) (hk : k (.bool true)) :
  wS T (tln 13 ir_law) [.v x0, .v (.lst (rowG g)), .v (.int p), .v (pr c), .v (ptV (some (x, y))), .v (ptV R), .v (.lst [pr s0, pr s1]), .o [pr a, pr b, pr d], s8] kn k := by
 haveI hv : veq 5 (.lst [pr a, pr b, pr d]) (.lst [.tup [.int 0, .int 0], .tup [.int 0, .int 0], .tup [.int 0, .int 0]]) = (decide (a = qInt 0) && (decide (b = qInt 0) && decide (d = qInt 0))) := by
  show (veq 4 (pr a) (.tup [.int 0, .int 0]) && (veq 4 (pr b) (.tup [.int 0, .int 0]) && (veq 4 (pr d) (.tup [.int 0, .int 0]) && true))) = _
  rw [veq_p0 2, veq_p0 2, veq_p0 2, Bool.and_true]
 symm
 by_cases hz : a = qInt 0 ∧ b = qInt 0 ∧ d = qInt 0
 ·refine br_t (hv.trans (by simp [hz])) ?_
  haveI := law_strange H hn (x0 := x0) (s8 := s8) (kn := kn) (a := a) (b := oneQ hp) (d := d) (g := g) hc hy hR h0 h1 (fun J => .inr oneQ_ne) h6 hk
  exact this
 ·refine br_f (hv.trans (by
   by_cases h1 : a = qInt 0
   ·by_cases h2 : b = qInt 0
    ·haveI : d ≠ qInt 0 := fun q => hz ⟨h1, h2, q⟩
     simp [this]
    ·simp [h2]
   ·simp [h1])) ?_
  haveI := law_strange H hn (x0 := x0) (s8 := s8) (kn := kn) (a := a) (b := b) (d := d) (g := g) hc hy hR h0 h1 (fun q => by
   by_cases h1 : a = qInt 0
   ·exact .inr fun h2 => hz ⟨h1, h2, q⟩
   ·exact .inl h1) h6 hk
  exact this
theorem law_mid (H : TabS p hp n T) (hn : 17 ≤ n + 1) {g : Nat → Int} {x0 : V} {c x y : Q p} {R : Option (Q p × Q p)} {kn : List Slot → Prop} (hc : qMul y y = qcube c x) (hy : y ≠ qInt 0) (hR : onQ c R) (hk : k (.bool true)) :
  wS T (tln 8 ir_law) [.v x0, .v (.lst (rowG g)), .v (.int p), .v (pr c), .v (ptV (some (x, y))), .v (ptV R), .u, .u, .u] kn k := by
 haveI hp0 := hp.ge
 symm
 by_cases h3 : (g 6) % 4 = 3
 ·refine br_t (by rw [h3]; rfl) ?_
  refine opt_e R ?_ fun x2 y2 => ?_
  ·symm
   exact hk
  ·symm
   exact H.det (.lTwisted (by omega)) hk
 ·refine br_f (veq_int_f h3) ?_
  symm
  by_cases h2 : (g 6) % 4 = 2
  ·refine br_t (by rw [h2]; rfl) ?_
   symm
   obtain ⟨e, he⟩ : ∃ e : Nat, (g 7) % 4 = e := ⟨((g 7) % 4).toNat, by omega⟩
   rw [he]
   exact H.det (.lPlainRight (by omega) e (by omega) hc hy) hk
  ·refine br_f (veq_int_f h2) ?_
   symm
   haveI key : ∀ (ss : List (Q p)), ss.length = 2 → (∀ s ∈ ss, s ≠ qInt 0) → wS T (tln 11 ir_law) [.v x0, .v (.lst (rowG g)), .v (.int p), .v (pr c), .v (ptV (some (x, y))), .v (ptV R), .v (.lst (ss.map pr)), .u, .u] kn k := by
    intro ss hl hs
    obtain ⟨s0, s2, rfl, l2⟩ := (len_s hl)
    obtain ⟨s1, s3, rfl, l3⟩ := (len_s l2)
    cases List.length_eq_zero_iff.mp l3
    haveI h0 := hs s0 (by simp)
    haveI h1 := hs s1 (by simp)
    haveI h6 : (g 6) % 4 = 0 ∨ (g 6) % 4 = 1 := by omega
    symm
    by_cases h8 : (g 14) % 8 = 3
    ·refine br_t (by rw [h8]; rfl) ?_
     haveI := row_end H hn (x0 := x0) (s8 := .u) (kn := kn) (a := mk' ⟨(g 12), (g 13)⟩) (b := mk' ⟨(g 13), (g 14)⟩) (d := ⟨⟨0, 0⟩, by simp⟩) (g := g) hc hy hR h0 h1 h6 hk
     exact this
    ·refine br_f (veq_int_f h8) ?_
     haveI := row_end H hn (x0 := x0) (s8 := .u) (kn := kn) (a := mk' ⟨(g 12), (g 13)⟩) (b := mk' ⟨(g 13), (g 14)⟩) (d := mk' ⟨(g 14) / 5, (g 12) / 7⟩) (g := g) hc hy hR h0 h1 h6 hk
     exact this
   haveI e1 := congrArg (fun b => !b) (veq_p0 3 (mk' ⟨(g 8), (g 9)⟩ : Q p))
   haveI e2 := congrArg (fun b => !b) (veq_p0 3 (mk' ⟨(g 10), (g 11)⟩ : Q p))
   by_cases z1 : (mk' ⟨(g 8), (g 9)⟩ : Q p) = qInt 0
   ·refine br_f (e1.trans (by simp [z1])) ?_
    symm
    by_cases z2 : (mk' ⟨(g 10), (g 11)⟩ : Q p) = qInt 0
    ·refine br_f (e2.trans (by simp [z2])) ?_
     haveI := key [oneQ hp, oneQ hp] rfl (fun s hs => by
      rcases List.mem_cons.mp hs with rfl | hs
      ·exact oneQ_ne
      ·rw [List.mem_singleton.mp hs]; exact oneQ_ne)
     exact this
    ·refine br_t (e2.trans (by simp [z2])) ?_
     haveI := key [oneQ hp, mk' ⟨(g 10), (g 11)⟩] rfl (fun s hs => by
      rcases List.mem_cons.mp hs with rfl | hs
      ·exact oneQ_ne
      ·rw [List.mem_singleton.mp hs]; exact z2)
     exact this
   ·refine br_t (e1.trans (by simp [z1])) ?_
    symm
    by_cases z2 : (mk' ⟨(g 10), (g 11)⟩ : Q p) = qInt 0
    ·refine br_f (e2.trans (by simp [z2])) ?_
     haveI := key [mk' ⟨(g 8), (g 9)⟩, oneQ hp] rfl (fun s hs => by
      rcases List.mem_cons.mp hs with rfl | hs
      ·exact z1
      ·rw [List.mem_singleton.mp hs]; exact oneQ_ne)
     exact this
    ·refine br_t (e2.trans (by simp [z2])) ?_
     haveI := key [mk' ⟨(g 8), (g 9)⟩, mk' ⟨(g 10), (g 11)⟩] rfl (fun s hs => by
      rcases List.mem_cons.mp hs with rfl | hs
      ·exact z1
      ·rw [List.mem_singleton.mp hs]; exact z2)
     exact this
theorem on_neg {c : Q p} {P : Option (Q p × Q p)} (hp : Pr p) (h : onQ c P) : onQ c (qneg P) := by
 revert h
 refine opt_e P (fun J => ?_) fun x y h => ?_
 ·trivial
 ·show qMul (qSub (qInt 0) y) (qSub (qInt 0) y) = qcube c x
  have h : qMul y y = qcube c x := h
  rw [← h]
  exact @neg_sq (Q p) (fieldQ p hp) y
theorem law_pts (H : TabS p hp n T) (hn : 17 ≤ n + 1) {g : Nat → Int} {x0 : V} {c : Q p} {kn : List Slot → Prop} (hk : k (.bool true)) :
  wS T (tln 4 ir_law) [.v x0, .v (.lst (rowG g)), .v (.int p), .v (pr c), .u, .u, .u, .u, .u] kn k := by
 haveI hp0 := hp.ge
 symm
 refine H.any (.lPoint (a := (g 3)) (c := c) (by omega)) ?_
 rintro v (rfl | ⟨x, y, rfl, hc, hy⟩)
 ·symm
  exact hk
 ·symm
  refine H.any (.lPoint (a := (g 4)) (c := c) (by omega)) ?_
  have fin : ∀ R : Option (Q p × Q p), onQ c R → wS T (tln 8 ir_law) [.v x0, .v (.lst (rowG g)), .v (.int p), .v (pr c), .v (ptV (some (x, y))), .v (ptV R), .u, .u, .u] kn k := fun R hR => law_mid H hn hc hy hR hk
  have key : ∀ R : Option (Q p × Q p), onQ c R → wS T (tln 7 ir_law) [.v x0, .v (.lst (rowG g)), .v (.int p), .v (pr c), .v (ptV (some (x, y))), .v (ptV R), .u, .u, .u] kn k := fun R hR => by
   have hP : onQ c (some (x, y)) := hc
   symm
   by_cases h5 : (g 5) % 8 < 4
   ·refine br_t (decide_eq_true h5) ?_
    symm
    refine H.det (.lNeg (P := some (x, y)) (by omega)) ?_
    symm
    refine H.det (.lAdd (P := some (x, y)) (R := some (x, y)) (by omega)) ?_
    have f0 := fin (some (x, y)) hP
    have f1 := fin (qneg (some (x, y))) (on_neg hp hP)
    haveI f2 := fin (qadd hp (some (x, y)) (some (x, y))) (on_qadd hP hP)
    haveI f3 := fin none trivial
    clear fin
    have hg : (g 5) % 8 = 0 ∨ (g 5) % 8 = 1 ∨ (g 5) % 8 = 2 ∨ (g 5) % 8 = 3 := by omega
    revert f1 f2
    generalize qneg (some (x, y)) = N1
    generalize qadd hp (some (x, y)) (some (x, y)) = N2
    intro f1 f2
    symm
    rcases hg with h | h | h | h
    ·rw [h]; exact f0
    ·rw [h]; exact f1
    ·rw [h]; exact f2
    ·rw [h]; exact f3
   ·refine br_f (decide_eq_false h5) ?_
    exact fin R hR
  rintro v (rfl | ⟨x2, y2, rfl, hc2, hy2⟩)
  ·exact key none trivial
  ·exact key (some (x2, y2)) hc2
end
theorem pr7 : Pr 7 := ⟨7, by decide, rfl⟩
theorem nthV_map (f : Nat → V) (l : List Nat) : ∀ k, nthV (l.map f) k = l[k]?.map f := by
 induction l with
 | nil => intro k; cases k <;> rfl
 | cons a l ih => intro k; cases k with
  | zero => rfl
  | succ k => exact ih k
theorem prime_at : ∀ k, k < 12 → ∃ q ∈ primes, primes[k]? = some q := by decide +kernel
theorem prime_idx (i : Int) (h0 : 0 ≤ i) (h12 : i < 12) : ∃ q ∈ primes, idxA (.lst (primes.map fun (q : Nat) => V.int (q : Int))) i = some (.int (q : Nat)) := by
 obtain ⟨k, rfl⟩ := Int.eq_ofNat_of_zero_le h0
 obtain ⟨q, h, e⟩ := (prime_at k (Int.ofNat_lt.mp h12))
 refine ⟨q, h, ?_⟩
 show (match decide (0 ≤ (k : Int)) with | true => nthV (primes.map fun (q : Nat) => V.int (q : Int)) k | false => none) = _
 rw [decide_eq_true h0]
 exact (nthV_map _ _ k).trans (by rw [e]; rfl)
section
variable {n : Nat} {T : Tab} {k : V → Prop}
theorem getD_map (l : List Int) : l = (List.range l.length).map fun i => l.getD i 0 :=
 List.ext_getElem (by rw [List.length_map, List.length_range]) fun i h1 h2 => by rw [List.getElem_map, List.getElem_range]; show l[i] = (l[i]?).getD 0; rw [List.getElem?_eq_getElem h1]; rfl
theorem row_of {gs : List Int} (hl : gs.length = 15) : vl gs = rowG fun i => gs.getD i 0 := by
 have e := congrArg vl (getD_map gs)
 rw [hl] at e
 exact e
theorem law_given (HT : ∀ (p : Int) (hp : Pr p), TabS p hp n T) (hn : 17 ≤ n + 1) {x0 : V} {kn : List Slot → Prop} (hk : k (.bool true)) (gs : List Int) (hl : gs.length = 15) :
  wS T (tln 1 ir_law) [.v x0, .v (.lst (vl gs)), .u, .u, .u, .u, .u, .u, .u] kn k := by
 rw [row_of hl]
 generalize (fun i => gs.getD i 0) = g
 symm
 refine (HT 7 pr7).det (.lPrimes (by omega)) ?_
 walk_at "vc"
 obtain ⟨q, hq, hi⟩ := (prime_idx ((g 0) % 12) (by omega) (by omega))
 rw [hi]
 have hp : Pr ((q : Nat) : Int) := ⟨q, hq, rfl⟩
 generalize ((q : Nat) : Int) = p at *
 haveI hp0 := hp.ge
 symm
 haveI e1 := veq_p0 3 (mk' ⟨(g 1), (g 2)⟩ : Q p)
 by_cases z : (mk' ⟨(g 1), (g 2)⟩ : Q p) = qInt 0
 ·refine br_t (e1.trans (by simp [z])) ?_
  haveI := law_pts (HT p hp) hn (x0 := x0) (kn := kn) (g := g) (c := ⟨⟨1, 1⟩, by constructor <;> (show (1 : Int) % p = 1; exact Int.emod_eq_of_lt (by omega) (by omega))⟩) hk
  exact this
 ·refine br_f (e1.trans (by simp [z])) ?_
  haveI := law_pts (HT p hp) hn (x0 := x0) (kn := kn) (g := g) (c := mk' ⟨(g 1), (g 2)⟩) hk
  exact this
theorem vc_law (HT : ∀ (p : Int) (hp : Pr p), TabS p hp n T) (hn : 17 ≤ n + 1) (l : List Int) (hk : k (.bool true)) : Vc T ir_law xt_law [.lst (vl l)] k := by
 conv => whnf
 refine ⟨by omega, ?_⟩
 refine ⟨by omega, ?_⟩
 rw [evL_eq]
 refine okL_i (Nat.le_of_ble_eq_true rfl) ?_
 generalize hL : List.map (fun (i : Nat) => V.int (i : Int)) (List.range (15 : Int).toNat) = items
 conv => whnf
 rw [← hL]
 refine given_comp _ _ _ (fun q hq => by haveI := List.mem_range.mp hq; omega) fun gs hl => ?_
 haveI := law_given HT hn (x0 := .lst (vl l)) (kn := fun J => k .none) hk gs (by simpa using hl)
 exact this
end
end
noncomputable def irs : List (Fn × List Str × List Str × IS) := (.isInf, ["pt"], [], ir_isInf) :: (.onC, ["pt", "b"], xt_onC, ir_onC) :: (.dbl, ["pt"], xt_dbl, ir_dbl) :: (.add, ["p1", "p2"], xt_add, ir_add) :: (.mul, ["pt", "n"], [], ir_mul) :: (.eq, ["p1", "p2"], xt_eq, ir_eq) :: (.norm, ["pt"], xt_norm, ir_norm) :: (.neg, ["pt"], xt_neg, ir_neg) :: (.twist, ["pt", "twelve"], xt_twist, ir_twist) :: (.pIsInf, ["pt"], [], ir_pIsInf) :: (.pOnC, ["pt", "b"], xt_pOnC, ir_pOnC) :: (.pDbl, ["pt"], xt_pDbl, ir_pDbl) :: (.pAdd, ["p1", "p2"], xt_pAdd, ir_pAdd) :: (.pMul, ["pt", "n"], [], ir_pMul) :: (.pEq, ["p1", "p2"], [], ir_pEq) :: (.pNeg, ["pt"], xt_pNeg, ir_pNeg) :: (.pfi, ["a", "n"], xt_pfi, ir_pfi) :: (.deg, ["p"], xt_deg, ir_deg) :: (.prd, ["a", "b"], xt_prd, ir_prd) :: (.qAdd, ["self", "other"], xt_qAdd, ir_qAdd) :: (.qMul, ["self", "other"], xt_qMul, ir_qMul) :: (.qRmul, ["self", "other"], [], ir_qRmul) :: (.qRsub, ["self", "other"], xt_qRsub, ir_qRsub) :: (.qSub, ["self", "other"], xt_qSub, ir_qSub) :: (.qDiv, ["self", "other"], xt_qDiv, ir_qDiv) :: (.qRdiv, ["self", "other"], xt_qRdiv, ir_qRdiv) :: (.qEq, ["self", "other"], [], ir_qEq) :: (.qNe, ["self", "other"], [], ir_qNe) :: (.qNeg, ["self"], [], ir_qNeg) :: (.qInt, ["self"], [], ir_qInt) :: (.qMade, ["self", "val"], [], ir_qMade) :: (.fMade, ["self", "coeffs"], [], ir_fMade) :: (.fFqc, ["self", "val"], [], ir_fFqc) :: (.fAdd, ["self", "other"], [], ir_fAdd) :: (.fSub, ["self", "other"], [], ir_fSub) :: (.fMul, ["self", "other"], xt_fMul, ir_fMul) :: (.fRmul, ["self", "other"], [], ir_fRmul) :: (.fDiv, ["self", "other"], [], ir_fDiv) :: (.fPow, ["self", "other"], [], ir_fPow) :: (.fInv, ["self"], xt_fInv, ir_fInv) :: (.fEq, ["self", "other"], xt_fEq, ir_fEq) :: (.fNe, ["self", "other"], [], ir_fNe) :: (.fNeg, ["self"], [], ir_fNeg) :: (.oMade, ["self", "coeffs"], [], ir_oMade) :: (.oAdd, ["self", "other"], [], ir_oAdd) :: (.oSub, ["self", "other"], [], ir_oSub) :: (.oMul, ["self", "other"], xt_oMul, ir_oMul) :: (.oRmul, ["self", "other"], [], ir_oRmul) :: (.oDiv, ["self", "other"], [], ir_oDiv) :: (.oPow, ["self", "other"], xt_oPow, ir_oPow) :: (.oOprd, ["self", "a", "b"], xt_oOprd, ir_oOprd) :: (.oInv, ["self"], xt_oInv, ir_oInv) :: (.oEq, ["self", "other"], xt_oEq, ir_oEq) :: (.oNe, ["self", "other"], [], ir_oNe) :: (.oNeg, ["self"], [], ir_oNeg) :: (.oOne, ["self"], [], ir_oOne) :: (.oZero, ["self"], [], ir_oZero) :: (.tMade, ["self", "coeffs"], [], ir_tMade) :: (.isInf2, ["pt"], [], ir_isInf2) :: (.onC2, ["pt", "b"], xt_onC2, ir_onC2) :: (.dbl2, ["pt"], xt_dbl2, ir_dbl2) :: (.add2, ["p1", "p2"], xt_add2, ir_add2) :: (.mul2, ["pt", "n"], [], ir_mul2) :: (.eq2, ["p1", "p2"], xt_eq2, ir_eq2) :: (.norm2, ["pt"], xt_norm2, ir_norm2) :: (.neg2, ["pt"], xt_neg2, ir_neg2) :: (.lPrimes, [], [], ir_lPrimes) :: (.lTimes, ["one", "two", "p"], [], ir_lTimes) :: (.lLess, ["one", "two", "p"], [], ir_lLess) :: (.lOver, ["one", "two", "p"], xt_lOver, ir_lOver) :: (.lRoot, ["value", "p"], xt_lRoot, ir_lRoot) :: (.lAdd, ["one", "two", "p"], xt_lAdd, ir_lAdd) :: (.lNeg, ["point", "p"], [], ir_lNeg) :: (.lMult, ["point", "number", "p"], xt_lMult, ir_lMult) :: (.lCube, ["x", "c", "p"], xt_lCube, ir_lCube) :: (.lPoint, ["cell", "c", "p"], xt_lPoint, ir_lPoint) :: (.lForm, ["point", "scale", "p"], xt_lForm, ir_lForm) :: (.lPair, ["element"], [], ir_lPair) :: (.lRead, ["form", "p"], xt_lRead, ir_lRead) :: (.lPlain, ["point", "p"], [], ir_lPlain) :: (.lPlainRead, ["point"], [], ir_lPlainRead) :: (.lTells, ["found", "due"], [], ir_lTells) :: (.lOpt, ["which", "points", "c", "scales", "strange", "number", "p"], xt_lOpt, ir_lOpt) :: (.lPlainRight, ["points", "c", "number", "p"], xt_lPlainRight, ir_lPlainRight) :: (.lTwisted, ["points", "p"], xt_lTwisted, ir_lTwisted) :: (.law, ["script"], xt_law, ir_law) :: []
noncomputable def irOk (K : Frag) (q : Fn × List Str × List Str × IS) : Bool := fnChk K q.1.addr (q.2.1 ++ q.2.2.1) q.2.1 q.2.2.2
noncomputable def chkI1 (K : Frag) : Bool := (irs.take 44).all (irOk K)
noncomputable def chkI2 (K : Frag) : Bool := (irs.drop 44).all (irOk K)
theorem irs_at (h : chkI1 K = true ∧ chkI2 K = true) (i : Nat) {f : Fn} {ps xt : List Str} {ir : IS} (e : irs[i]? = some (f, ps, xt, ir)) : fnChk K f.addr (ps ++ xt) ps ir = true := by
 have m := List.mem_of_getElem? e
 rw [← List.take_append_drop 44 irs] at m
 rcases List.mem_append.mp m with m | m
 ·exact List.all_eq_true.mp h.1 _ m
 ·exact List.all_eq_true.mp h.2 _ m
theorem all_and {f g : Bool} (h : (f && g) = true) : f = true ∧ g = true := Bool.and_eq_true_iff.mp h
noncomputable def allC (f : Cl → Bool) : Bool := f .fq && f .fp && f .opt && f .fq2
theorem allC_e {f : Cl → Bool} (h : allC f = true) (c : Cl) : f c = true := by
 obtain ⟨h, h4⟩ := all_and h
 obtain ⟨h, h3⟩ := all_and h
 obtain ⟨h1, h2⟩ := all_and h
 cases c <;> assumption
noncomputable def allOp (f : Operator → Bool) : Bool := f .Add && f .Sub && f .Mult && f .MatMult && f .Div && f .Mod && f .Pow && f .LShift && f .RShift && f .BitOr && f .BitXor && f .BitAnd && f .FloorDiv
theorem allOp_e {f : Operator → Bool} (h : allOp f = true) (c : Operator) : f c = true := by
 obtain ⟨h, h13⟩ := all_and h
 obtain ⟨h, h12⟩ := all_and h
 obtain ⟨h, h11⟩ := all_and h
 obtain ⟨h, h10⟩ := all_and h
 refine an8 (an2 h fun h h9 => h) fun h1 h2 h3 h4 h5 h6 h7 h8 => an2 h fun J h9 => ?_
 cases c <;> assumption
noncomputable def allFld (f : Fld → Bool) : Bool := f .n && f .fm && f .cs && f .mcs && f .deg && f .mct
theorem allFld_e {f : Fld → Bool} (h : allFld f = true) (c : Fld) : f c = true := an6 h fun h1 h2 h3 h4 h5 h6 => by cases c <;> assumption
noncomputable def fNone (o : Option (Option Value)) : Bool := match o with | some none => true | _ => false
theorem fNone_e {o : Option (Option Value)} (h : fNone o = true) : o = some none := by
 rcases o with _ | (_ | _) <;> first | rfl | exact nft h
noncomputable def refK (v : Value) (k : Addr → Bool) : Bool := match v with | .ref b => k b | _ => false
theorem refK_e {v : Value} {k : Addr → Bool} (h : refK v k = true) : ∃ b, v = .ref b ∧ k b = true := by
 cases v <;> first | exact nft h | exact ⟨_, rfl, h⟩
noncomputable def fK (o : Option (Option Value)) (k : Addr → Bool) : Bool := match o with | some (some v) => refK v k | _ => false
theorem fK_e {o : Option (Option Value)} {k : Addr → Bool} (h : fK o k = true) : ∃ b, o = some (some (.ref b)) ∧ k b = true := by
 rcases o with _ | (_ | v) <;> first | exact nft h | skip
 obtain ⟨b, rfl, q⟩ := refK_e h
 exact ⟨b, rfl, q⟩
noncomputable def fRef (o : Option (Option Value)) (a : Addr) : Bool := fK o fun b => b == a
theorem fRef_e {o : Option (Option Value)} {a : Addr} (h : fRef o a = true) : o = some (some (.ref a)) := by
 obtain ⟨b, e, q⟩ := fK_e h
 rw [e, eq_of_beq q]
noncomputable def fR (o : Option (Option Value)) : Bool := fK o fun _ => true
theorem fR_e {o : Option (Option Value)} (h : fR o = true) : ∃ d : Addr, o = some (some (.ref d)) := (fK_e h).elim fun b q => ⟨b, q.1⟩
noncomputable def fNR (o : Option (Option Value)) : Bool := fNone o || fR o
theorem fNR_e {o : Option (Option Value)} (h : fNR o = true) : ∃ rc, o = some rc ∧ (rc = none ∨ ∃ g : Addr, rc = some (.ref g)) :=
 (Bool.or_eq_true_iff.mp h).elim (fun h => ⟨_, fNone_e h, .inl rfl⟩) fun h => (fR_e h).elim fun g q => ⟨_, q, .inr ⟨g, rfl⟩⟩
noncomputable def fAny (o : Option (Option Value)) : Bool := o.isSome
theorem fAny_e {o : Option (Option Value)} (h : fAny o = true) : ∃ x, o = some x := Option.isSome_iff_exists.mp h
noncomputable def oF (b : Bool) : Option Bool → Bool | some c => b == c | none => false
theorem oF_e {b : Bool} {o : Option Bool} (h : oF b o = true) : o = some b := by
 cases o with
 | none => exact nft h
 | some c => rw [eq_of_beq h]
noncomputable def chkDun (K : Frag) (c : Cl) (op : Operator) : Bool := (match Mine.dun c op with | some f => fRef (findIn K (.ref c.addr) (PySem.dunder op.info.2)) f.addr && fNR (findIn K (.ref c.addr) (dunderR op.info.2)) | none => true) &&
 (match Mine.rdun c op with | some f => fRef (findIn K (.ref c.addr) (dunderR op.info.2)) f.addr && fR (findIn K (.ref c.addr) (PySem.dunder op.info.2)) | none => true)
noncomputable def allM (f : Mt → Bool) : Bool := f .made && f .fqc && f .one && f .zero && f .inv && f .oprd
theorem allM_e {f : Mt → Bool} (h : allM f = true) (c : Mt) : f c = true := an6 h fun h1 h2 h3 h4 h5 h6 => by cases c <;> assumption
noncomputable def chkMeth (K : Frag) (c : Cl) (m : Mt) : Bool := match mfn c m with | some f => fRef (findIn K (.ref c.addr) m.str) f.addr | none => true
noncomputable def chkCeq (K : Frag) (c : Cl) : Bool := (match ceq c .Eq with | some f => fRef (findIn K (.ref c.addr) (cmpInfo .Eq).2.1) f.addr | none => true) && (match ceq c .NotEq with | some f => fRef (findIn K (.ref c.addr) (cmpInfo .NotEq).2.1) f.addr | none => true)
theorem fns_all (f : Fn) : f ∈ fns := List.mem_of_getElem? (i := f.ctorIdx) (by cases f <;> rfl)
noncomputable def chkFns (K : Frag) : Bool := fns.all fun f => keepIn K (.ref f.addr) && (isCl f || isFn K (.ref f.addr))
noncomputable def chkInt (K : Frag) : Bool := allOp fun op => fAny (findIn K (.type "int") (PySem.dunder op.info.2)) && fAny (findIn K (.type "int") (dunderR op.info.2))
noncomputable def chkCl (K : Frag) (c : Cl) : Bool := plainGet K c.addr "n" && hasDictIn K c.addr && oF false (subIn K (.type "int") (.ref c.addr)) && oF false (subIn K (.ref c.addr) (.type "int")) && selfFirst K c.addr && kin_notT K c.addr "int" && plainGet K c.addr "__class__" &&
 oF true (mroIn K c.addr (.type "object")) && fRef (findIn K (.ref c.addr) "__neg__") (cneg c).addr && isIn K (.ref c.addr) c.addr && allFld (fun f => fNone (findIn K (.ref c.addr) f.str)) && allM (chkMeth K c) && allOp (chkDun K c) && chkCeq K c
theorem a2 {a b : Bool} {P Q : Prop} (h : (a && b) = true) (k : a = true → P) (q : b = true → Q) : P ∧ Q := ⟨k (all_and h).1, q (all_and h).2⟩
noncomputable def chkIq (K : Frag) : Bool := match clsIn K 295 with | some cd => cd.mro == [.ref 295, .type "object"] | none => false
noncomputable def chkMisc (K : Frag) : Bool := isNotIn K "int" (Cl.addr .fq) && kin_not K (Cl.addr .fp) (Cl.addr .fq) && allC (fun c => findIn K (.ref c.addr) "__class__" == some (some (.builtin "object.__class__"))) &&
 (specialIn K (.builtin "object.__class__") "__get__" == some (some (.builtin "getset_descriptor.__get__"))) && (takesIn K (.builtin "object.__class__") == some true) && fRef (findIn K (.ref (Cl.addr .fq)) "__int__") (Fn.addr .qInt) && isIn K (.ref (Cl.addr .fq2)) (Cl.addr .opt) &&
 (fNone (findIn K (.ref 295) (dunderI "add")) && fNone (findIn K (.ref 295) (dunderI "sub")))
noncomputable def chkKF (K : Frag) : Bool := allC (chkCl K) && chkFns K && chkInt K && chkIq K && chkMisc K
theorem kf_of (h : chkKF K = true) : KF K := by
 obtain ⟨h, hm⟩ := all_and h
 obtain ⟨h, hiq⟩ := all_and h
 obtain ⟨h, hint⟩ := all_and h
 obtain ⟨hcl, hfs⟩ := (all_and h)
 obtain ⟨hm, m9⟩ := (all_and hm)
 obtain ⟨hm, m8⟩ := (all_and hm)
 obtain ⟨hm, m7⟩ := (all_and hm)
 obtain ⟨hm, m6⟩ := (all_and hm)
 obtain ⟨hm, m5⟩ := (all_and hm)
 obtain ⟨hm, m4⟩ := (all_and hm)
 obtain ⟨m1, m2⟩ := (all_and hm)
 haveI hc : ∀ c, chkCl K c = true := allC_e hcl
 have hc' := fun c : Cl => a2 (hc c) (fun h => a2 h (fun h => a2 h (fun h => a2 h (fun h => a2 h (fun h => a2 h (fun h => a2 h (fun h => a2 h (fun h => a2 h (fun h => a2 h (fun h => a2 h (fun h => a2 h (fun h => a2 h id id) id) id) id) id) id) id) id) id) id) id) id) id
 have hfn : ∀ f : Fn, keepIn K (.ref f.addr) = true ∧ (isCl f = true ∨ isFn K (.ref f.addr) = true) := fun f => by
  obtain ⟨h1, h2⟩ := (all_and (List.all_eq_true.mp hfs f (fns_all f)))
  exact ⟨h1, Bool.or_eq_true_iff.mp h2⟩
 haveI hdun : ∀ c op, chkDun K c op = true := fun c op => allOp_e (hc' c).1.2 op
 refine ⟨fun c => (hc' c).1.1.1.1.1.1.1.1.1.1.1.1.1, fun c => (hc' c).1.1.1.1.1.1.1.1.1.1.1.1.2, fun x u f c J J => fNone_e (allFld_e (hc' c).1.1.1.2 f), fun c m f hm => ?_, fun c op f hd => ?_, fun c op f hd => ?_, fun c op f hd => ?_, fun f hf => ?_, fun op => ?_,
  fun c => oF_e (hc' c).1.1.1.1.1.1.1.1.1.1.1.2, fun c => oF_e (hc' c).1.1.1.1.1.1.1.1.1.1.2, fun c => (hc' c).1.1.1.1.1.1.1.1.1.2, fun c op f hq => ?_, fun c d hq => ?_, m1, m2, fun c => (hc' c).1.1.1.1.1.1.1.1.2, fun c => (hc' c).1.1.1.1.1.1.1.2,
  fun c => eq_of_beq (allC_e m4 c), eq_of_beq m5, eq_of_beq m6, fun c => oF_e (hc' c).1.1.1.1.1.1.2, fun f => (hfn f).1, fRef_e m7, ?_, fun op hop => ?_, fun c => fRef_e (hc' c).1.1.1.1.1.2⟩
 ·haveI := allM_e (hc' c).1.1.2 m
  unfold chkMeth at this
  rw [hm] at this
  exact fRef_e this
 ·have := hdun c op
  unfold chkDun at this
  rw [hd] at this
  exact fRef_e (all_and (all_and this).1).1
 ·have := hdun c op
  unfold chkDun at this
  rw [hd] at this
  exact fNR_e (all_and (all_and this).1).2
 ·have := hdun c op
  unfold chkDun at this
  rw [hd] at this
  obtain ⟨h1, h2⟩ := (all_and (all_and this).2)
  exact ⟨fRef_e h1, fR_e h2⟩
 ·rcases (hfn f).2 with h | h
  ·rw [hf] at h; cases h
  ·exact h
 ·obtain ⟨h1, h2⟩ := (all_and (allOp_e hint op))
  obtain ⟨a, ha⟩ := fAny_e h1
  obtain ⟨b, hb⟩ := fAny_e h2
  exact ⟨a, b, ha, hb⟩
 ·have := (hc' c).2
  unfold chkCeq at this
  obtain ⟨h1, h2⟩ := (all_and this)
  rcases ceq_op hq with rfl | rfl
  ·rw [hq] at h1; exact fRef_e h1
  ·rw [hq] at h2; exact fRef_e h2
 ·rcases hq with hq | ⟨rfl, rfl⟩
  ·rw [← cl_same hq]; exact (hc' c).1.1.1.1.2
  ·exact m8
 ·unfold chkIq at hiq
  cases q : clsIn K 295 with
  | none => rw [q] at hiq; exact nft hiq
  | some cd => rw [q] at hiq; exact ⟨cd, rfl, eq_of_beq hiq⟩
 ·obtain ⟨h1, h2⟩ := (all_and m9)
  rcases hop with rfl | rfl
  ·exact fNone_e h1
  ·exact fNone_e h2
noncomputable def chkKI (K : Frag) (c : Cl) : Bool := plainOver K c.addr && allFld (fun f => fNone (takerIn K c.addr f.str)) && makesIn K c.addr && (findIn K (.ref c.addr) "__setattr__" == some (some (.builtin "object.__setattr__")))
theorem ki_of (h : allC (chkKI K) = true) : KI K := by
 have hc : ∀ c : Cl, ((plainOver K c.addr = true ∧ allFld (fun f => fNone (takerIn K c.addr f.str)) = true) ∧ makesIn K c.addr = true) ∧ (findIn K (.ref c.addr) "__setattr__" == some (some (.builtin "object.__setattr__"))) = true := fun c => by
  obtain ⟨h, h4⟩ := all_and (allC_e h c)
  obtain ⟨h, h3⟩ := all_and h
  exact ⟨⟨all_and h, h3⟩, h4⟩
 exact ⟨fun c => (hc c).1.1.1, fun c f => fNone_e (allFld_e (hc c).1.1.2 f), fun c => eq_of_beq (hc c).2, fun c => (hc c).1.2⟩
noncomputable def chkMg (K : Frag) : Bool := (fns.all fun f => (gname f == "") || fRef (nsIn K mainGlobals (gname f)) f.addr) && bnames.all fun x => fNone (nsIn K mainGlobals x)
noncomputable def chkMore (K : Frag) : Bool := initChk K .fq 166 [] qPs chkQ && bodyChk K 327 [] ["self", "val"] chkFqc && initChk K .fp 313 [] iPs chkFI && initChk K .opt 425 [] iPs chkOI && initChk K .fq2 425 [] iPs chkOI && codeF K 313 312 308 && codeF K 425 424 422 && chkMg K &&
 ((K.lookup 308).isNone && (K.lookup 422).isNone) && (codeHdIn K 312 308 && codeHdIn K 424 422)
noncomputable def chkK (K : Frag) : Bool := chkKF K && allC (chkKI K)
structure CK (K : Frag) : Prop where
 ir : chkI1 K = true ∧ chkI2 K = true
 kf : KF K
 ki : KI K
 qf : QF K
 bf : BodyF K 327 [] ["self", "val"] chkFqc
 iF : InitF K .fp 313 [] iPs chkFI
 iO : InitF K .opt 425 [] iPs chkOI
 i2 : InitF K .fq2 425 [] iPs chkOI
 cF : codeF K 313 312 308 = true
 cO : codeF K 425 424 422 = true
 mg : chkMg K = true
theorem more_t {K : Frag} (hm : chkMore K = true) : chkMg K = true ∧ ((K.lookup 308).isNone && (K.lookup 422).isNone) = true ∧ codeHdIn K 312 308 = true ∧ codeHdIn K 424 422 = true :=
 ⟨(all_and (all_and (all_and hm).1).1).2, (all_and (all_and hm).1).2, all_and (all_and hm).2⟩
theorem ck_of (h1 : chkI1 K = true) (h2 : chkI2 K = true) (h : chkK K = true) (hm : chkMore K = true) : CK K := by
 haveI hr := And.intro h1 h2
 obtain ⟨hk, hi⟩ := (all_and h)
 haveI h := (all_and (all_and hm).1).1
 obtain ⟨h, h8⟩ := (all_and h)
 obtain ⟨h, h7⟩ := (all_and h)
 obtain ⟨h, h6⟩ := (all_and h)
 obtain ⟨h, h5⟩ := (all_and h)
 obtain ⟨h, h4⟩ := (all_and h)
 obtain ⟨h, h3⟩ := (all_and h)
 obtain ⟨h1, h2⟩ := (all_and h)
 refine ⟨hr, kf_of hk, ki_of hi, ⟨initF_of h1, fun c f => fNone_e ?_⟩, bodyF_of h2, initF_of h3, initF_of h4, initF_of h5, h6, h7, h8⟩
 obtain ⟨h, _⟩ := (all_and hk)
 obtain ⟨h, _⟩ := (all_and h)
 obtain ⟨h, _⟩ := (all_and h)
 obtain ⟨h, _⟩ := (all_and h)
 haveI := allC_e h c
 unfold chkCl at this
 simp only [Bool.and_eq_true] at this
 exact allFld_e this.1.1.1.2 f
section
set_option maxRecDepth 1000000
set_option maxHeartbeats 0
namespace Hd
theorem ws : PySem.Challenge.rw_af0017_01.wellSaid = true := by
 rw [Fast.te9446332074065402090]
 delta Fast.tw9446332074065402090
 repeat' with_reducible refine look_both ?_ ?_
 any_goals (delta Fast.tw17960256430627541270; repeat' with_reducible refine look_both ?_ ?_)
 any_goals (delta Fast.tw2436336058641802641; repeat' with_reducible refine look_both ?_ ?_)
 any_goals (delta Fast.tw12908688711261696721; repeat' with_reducible refine look_both ?_ ?_)
 all_goals (as_aux_lemma => kernel_rfl)
end Hd
end
section
set_option maxRecDepth 1000000
set_option maxHeartbeats 0
namespace Hd
noncomputable def qL : Program := view PW [83]
noncomputable def lo : List Str := PW.boundNames.filter (· != "law")
noncomputable def emA {α : Type} (a : Array α) : Bool := a.toList.isEmpty
theorem emA_e {α : Type} {a : Array α} (h : emA a = true) : a = #[] := by
 cases a with
 | mk l => exact congrArg Array.mk (List.isEmpty_iff.mp h)
noncomputable def emF (d : Data) : Bool := match d with | .fields a => emA a | _ => false
theorem emF_e {d : Data} (h : emF d = true) : d = .fields #[] := by
 cases d <;> first | exact nft h | exact congrArg Data.fields (emA_e h)
noncomputable def isNn (v : Value) : Bool := match v with | .none => true | _ => false
theorem isNn_e {v : Value} (h : isNn v = true) : v = .none := by cases v <;> first | rfl | exact nft h
noncomputable def emO (o : Obj) : Bool := isNn o.cls && o.dict.isNone && emF o.data && emA o.slots
noncomputable def chkT (h : Heap) : Bool := [308, 422].all fun b => match h.get? b with
 | some o => emO o
 | none => false
theorem chkT_e {h : Heap} (x : chkT h = true) : ∀ b ∈ ([308, 422] : List Addr), h.get? b = some { cls := .none, data := .fields #[] } := fun b hb => by
 have e : (match h.get? b with | some o => emO o | none => false) = true := List.all_eq_true.mp x b hb
 cases q : h.get? b with
 | none => rw [q] at e; exact nft e
 | some o =>
  rw [q] at e
  cases o with
  | mk c d dt sl => exact an4 (show (isNn c && d.isNone && emF dt && emA sl) = true from e) fun h1 h2 h3 h4 => by rw [isNn_e h1, Option.isNone_iff_eq_none.mp h2, emF_e h3, emA_e h4]
noncomputable def hk : Hook where
 α := Prop × Bool
 obs := fun s => (IsK (fragOn s.heap as0), chkT s.heap)
 val := fun J => (True, true)
 says := fun J h => (∃ K, IsK K ∧ K.In h) ∧ ∀ b ∈ ([308, 422] : List Addr), h.get? b = some { cls := .none, data := .fields #[] }
 of := fun w s e => ⟨⟨_, of_eq_true (Prod.mk.inj e).1, fragOn_in s.heap _⟩, chkT_e (Prod.mk.inj e).2⟩
 keeps := fun w h h' x k => ⟨(x.1).elim fun K p => ⟨K, p.1, p.2.keeps k⟩, fun b hb => k _ _ (x.2 b hb)⟩
theorem size0 (w : World) : ((boot_heap w.params).isNs mainGlobals, (boot_heap w.params).objs.size, (boot_heap w.params).nsMap mainGlobals "__annotations__") = (true, 11, some (.ref 6)) := by kernel_rfl
noncomputable def xt (s : Shared) : Bool := xlAt qL [] s && recOk (RowW.records PySem.Challenge.rw_af0017_01.row.toRowW) s
theorem run0 (w : World) : (fun os => (goL (F w) l0 (S0 w os) (topStub PW)).map fun r => (through r.2, (staticsOk (importedModules PW.main.body) (boot_heap w.params) r.1.abs.heap && namesBound PW r.1.abs.heap && gensDone r.1.abs && laidKept (boot_heap w.params) r.1.abs.heap),
    Fast.tw4187177175401517315 qL lo (importedModules PW.main.body) xt true r.1.abs)) = fun J => some (true, true, openGood qL lo) := by kernel_rfl
theorem run1 (w : World) (os : OsState) : ((goL (F w) l0 (S0 w os) (topStub PW)).map fun r => chkI1 (fragOn r.1.abs.heap as0)) = some true := by kernel_rfl
theorem run2 (w : World) (os : OsState) : ((goL (F w) l0 (S0 w os) (topStub PW)).map fun r => chkI2 (fragOn r.1.abs.heap as0)) = some true := by kernel_rfl
theorem run3 (w : World) (os : OsState) : ((goL (F w) l0 (S0 w os) (topStub PW)).map fun r => chkK (fragOn r.1.abs.heap as0)) = some true := by kernel_rfl
theorem run4 (w : World) (os : OsState) : ((goL (F w) l0 (S0 w os) (topStub PW)).map fun r => (chkMore (fragOn r.1.abs.heap as0), chkT r.1.abs.heap)) = some (true, true) := by kernel_rfl
theorem run5 (w : World) (os : OsState) : ((goL (F w) l0 (S0 w os) (topStub PW)).map fun r => (IsK (fragOn r.1.abs.heap as0), chkT r.1.abs.heap)) = some (True, true) := by
 obtain ⟨r, e, h⟩ := (Option.map_eq_some_iff.mp (run4 w os))
 rw [e]
 exact congrArg some (Prod.ext (eq_true ⟨w, os, r, e, rfl⟩) (Prod.mk.inj h).2)
theorem atK {f : Frag → Bool} {K : Frag} (k : IsK K) (h : ∀ (w : World) (os : OsState), ((goL (F w) l0 (S0 w os) (topStub PW)).map fun r => f (fragOn r.1.abs.heap as0)) = some true) : f K = true := by
 obtain ⟨w, os, r, e, rfl⟩ := k
 have := h w os
 rw [e] at this
 exact Option.some.inj this
theorem moreK {K : Frag} (k : IsK K) : chkMore K = true := atK k fun w os => by
 obtain ⟨r, e, h⟩ := Option.map_eq_some_iff.mp (run4 w os)
 rw [e]
 exact congrArg some (Prod.mk.inj h).1
theorem ckK (k : IsK K) : CK K := ck_of (atK k run1) (atK k run2) (atK k run3) (moreK k)
theorem left0 : LeftO PW qL lo xt hk.obs hk.val 9128 true := by
 refine leftO_run l0 (boot_open (by kernel_rfl) (by decide +kernel) fun s => by kernel_rfl) size0 (by decide +kernel) (fun w => ?_) run5
 rw [Fast.te4187177175401517315]
 exact run0 w
end Hd
end
theorem itV_on {W : V} {l : List V} (h : itV W l) : onItems W (· = l) := by
 rcases h with rfl | rfl
 ·exact (rfl : l = l)
 ·exact (rfl : l = l)
noncomputable def Tn (p : Int) (hp : Pr p) (n : Nat) : Tab := fun f args k => ∃ Post, Sp p hp n f args Post ∧ ∀ v, Post v → k v
theorem tn_s (p : Int) (hp : Pr p) (n : Nat) : TabS p hp n (Tn p hp n) := fun f args Post k h hk => ⟨Post, h, hk⟩
section
variable {n : Nat} {p : Int} {hp : Pr p} {k : V → Prop}
theorem ok_FQ (CC : CK K) (MM : MgOk mg) {U : V} {m : Int} (hu : QW U p m) (hk : k (.fq m p)) : CallOk prog w K mg mb (2 * (n + 1)) .cFQ [U, .int p] k :=
 call_cFQ (n := 2 * n) CC.kf CC.ki MM CC.qf hu hk
theorem ok_FP (CC : CK K) (MM : MgOk mg) {W U1 U2 : V} (hn : 4 ≤ n + 1) {x : Q p} (hw : itV W [U1, U2]) (h1 : QW U1 p x.x.a) (h2 : QW U2 p x.x.b) (hk : k (fpv x)) : CallOk prog w K mg mb (2 * (n + 1)) .cFP [W, mc2, .int p] k := by
 obtain ⟨m, rfl⟩ : ∃ m, n = m + 3 := ⟨n - 3, by omega⟩
 exact call_cFP (n := 2 * m) CC.kf CC.ki MM CC.qf CC.bf CC.iF CC.cF (m := fun j => match j with | 0 => x.x.a | _ => x.x.b) (itV_on hw) rfl (fun j U hj => by
  match j, hj with
  | 0, hj => cases hj; exact h1
  | 1, hj => cases hj; exact h2) hk
theorem mct2 {V1 : V} {p : Int} : wE T0 ieMct [none, some V1, some mc2, some (.int p)] (· = .lst [.tup [.int 0, .int 1]]) := by
 exact (rfl : V.lst [.tup [.int 0, .int 1]] = _)
theorem mct12 {V1 : V} {p : Int} : wE T0 ieMct [none, some V1, some mc12, some (.int p)] (· = .lst [.tup [.int 0, .int 2], .tup [.int 6, .int (-2)]]) := by
 exact (rfl : V.lst [.tup [.int 0, .int 2], .tup [.int 6, .int (-2)]] = _)
theorem ok_FQ2 (CC : CK K) (MM : MgOk mg) (hp : Pr p) {W : V} (hn : 2 ≤ n + 1) (f : F) (hw : itV W [.int f.a, .int f.b]) (hk : k (.e2 (mk' f : Q p).x p)) : CallOk prog w K mg mb (2 * (n + 1)) .cFQ2 [W, mc2, .int p] k := by
 obtain ⟨m, rfl⟩ : ∃ m, n = m + 1 := ⟨n - 1, by omega⟩
 exact call_opt (n := 2 * m) CC.kf CC.ki MM CC.qf (c := .fq2) (fn := .cFQ2) rfl CC.i2 CC.cO (is := [f.a, f.b]) (itV_on hw) rfl (by simp) (by simp) hp.pos mct2 rfl hk
theorem ok_OPT (CC : CK K) (MM : MgOk mg) (hp : Pr p) {W : V} (hn : 2 ≤ n + 1) (l : List Int) (hl : l.length = 12) (hw : itV W (vl l)) (hk : k (.e12 (l.map (· % p)) p)) : CallOk prog w K mg mb (2 * (n + 1)) .cOPT [W, mc12, .int p] k := by
 obtain ⟨m, rfl⟩ : ∃ m, n = m + 1 := ⟨n - 1, by omega⟩
 exact call_opt (n := 2 * m) CC.kf CC.ki MM CC.qf (c := .opt) (fn := .cOPT) rfl CC.iO CC.cO (is := l) (itV_on hw) hl (by omega) (by omega) hp.pos mct12 rfl hk
end
section
section
theorem mono_sm {p : Int} (hp : Pr p) {i : Nat} {x : Q p} : ∀ c ∈ mono i x, Sm c := by
 intro c hc
 unfold mono at hc
 generalize qMul x (qPow ww (i / 6)) = u at hc
 haveI h7 := hp.ge
 haveI hu := q_rm hp u
 unfold mono0 at hc
 obtain ⟨m, _, rfl⟩ := (List.mem_map.mp hc)
 split
 ·exact sm_mod hp _
 ·split
  ·unfold Sm; omega
  ·unfold Sm; omega
theorem arm (CC : CK K) (MM : MgOk mg) {n : Nat} {T : Tab} (TT : TabOk prog w K mg mb (2 * n) T) (i : Nat) {f : Fn} {ps xt : List Str} {ir : IS} (e : irs[i]? = some (f, ps, xt, ir)) {args : List V} {k : V → Prop} (hl : args.length = ps.length)
  (h : wS T ir (ofArgs xt.length args) (fun J => k .none) k) : CallOk prog w K mg mb (2 * (n + 1)) f args k := call_ok CC.kf TT MM (irs_at CC.ir i e) hl h
noncomputable def StepP (prog : Program) (w : World) (K : Frag) (mg mb : Str → Option Value) (p : Int) (hp : Pr p) (m : Nat) (f : Fn) (args : List V) (Post : V → Prop) : Prop :=
 0 < m ∧ ∀ n, m ≤ n + 1 → TabOk prog w K mg mb (2 * n) (Tn p hp n) → TabS p hp n (Tn p hp n) → ∀ k : V → Prop, (∀ v, Post v → k v) → CallOk prog w K mg mb (2 * (n + 1)) f args k
theorem stp {p : Int} {hp : Pr p} {m : Nat} {f : Fn} {args : List V} {Post : V → Prop} (h0 : 0 < m) (h : ∀ n, m ≤ n + 1 → TabOk prog w K mg mb (2 * n) (Tn p hp n) → TabS p hp n (Tn p hp n) → ∀ k : V → Prop, (∀ v, Post v → k v) → CallOk prog w K mg mb (2 * (n + 1)) f args k) : StepP prog w K mg mb p hp m f args Post := ⟨h0, h⟩
local macro_rules | `(tactic| walk_at "ps") => `(tactic| (refine stp (by first | exact Nat.lt_of_lt_of_le (Nat.zero_lt_succ _) (by assumption) | exact Nat.lt_of_lt_of_le (Nat.add_pos_left (Nat.zero_lt_succ _) _) (by assumption)) ?_))
set_option tactic.hygienic true in
theorem step (CC : CK K) (MM : MgOk mg) {p : Int} {hp : Pr p} : ∀ {m : Nat} {f : Fn} {args : List V} {Post : V → Prop}, Sp p hp m f args Post → StepP prog w K mg mb p hp m f args Post := by
 intro m f args Post hs
 induction hs with
 | cFQ h hu =>
  walk_at "ps"; intro n e0 TT H k hk; replace h := Nat.le_trans h e0
  exact ok_FQ CC MM hu (hk _ rfl)
 | cFP h x hw h1 h2 =>
  walk_at "ps"; intro n e0 TT H k hk; replace h := Nat.le_trans h e0
  exact ok_FP CC MM h hw h1 h2 (hk _ rfl)
 | cFQ2 h f hw =>
  walk_at "ps"; intro n e0 TT H k hk; replace h := Nat.le_trans h e0
  exact ok_FQ2 CC MM hp h f hw (hk _ rfl)
 | cOPT h l hl hw =>
  walk_at "ps"; intro n e0 TT H k hk; replace h := Nat.le_trans h e0
  exact ok_OPT CC MM hp h l hl hw (hk _ rfl)
 | oMul h =>
  walk_at "ps"; intro n e0 TT H k hk; replace h := Nat.le_trans h e0
  rename_i t i j x y
  cases t with
  | false => exact arm CC MM TT 46 rfl rfl (vc_oMul2 H h (hk _ rfl))
  | true =>
   haveI e := mul_mono i j x y
   exact arm CC MM TT 46 rfl rfl (vc_oMul12 H h (mono_len i x) (mono_len j y) (mono_sm hp) (by haveI := congrArg List.length e; rw [List.length_map, mono_len] at this; exact this) (by rw [e]; exact hk _ rfl))
 | pfi h a =>
  walk_at "ps"; intro n e0 TT H k hk; replace h := Nat.le_trans h e0
  exact arm CC MM TT 16 rfl rfl (vc_pfi H (hk _ rfl))
 | qEq h hu =>
  walk_at "ps"; intro n e0 TT H k hk; replace h := Nat.le_trans h e0
  exact arm CC MM TT 26 rfl rfl (vc_qEq H hu (hk _ rfl))
 | qNe h hm =>
  walk_at "ps"; intro n e0 TT H k hk; replace h := Nat.le_trans h e0
  exact arm CC MM TT 27 rfl rfl (vc_qNe H h hm (hk _ rfl))
 | qMade h =>
  walk_at "ps"; intro n e0 TT H k hk; replace h := Nat.le_trans h e0
  exact arm CC MM TT 30 rfl rfl (vc_qMade H h (hk _ rfl))
 | qNeg h =>
  walk_at "ps"; intro n e0 TT H k hk; replace h := Nat.le_trans h e0
  exact arm CC MM TT 28 rfl rfl (vc_qNeg H h (hk _ rfl))
 | qInt h =>
  walk_at "ps"; intro n e0 TT H k hk; replace h := Nat.le_trans h e0
  exact arm CC MM TT 29 rfl rfl (vc_qInt H (hk _ rfl))
 | qAdd h hu =>
  walk_at "ps"; intro n e0 TT H k hk; replace h := Nat.le_trans h e0
  exact arm CC MM TT 19 rfl rfl (vc_qAdd H h hu (hk _ rfl))
 | qSub h hu =>
  walk_at "ps"; intro n e0 TT H k hk; replace h := Nat.le_trans h e0
  exact arm CC MM TT 23 rfl rfl (vc_qSub H h hu (hk _ rfl))
 | qMul h ha hu =>
  walk_at "ps"; intro n e0 TT H k hk; replace h := Nat.le_trans h e0
  exact arm CC MM TT 20 rfl rfl (vc_qMul H h ha hu (hk _ rfl))
 | qRmul h ha =>
  walk_at "ps"; intro n e0 TT H k hk; replace h := Nat.le_trans h e0
  exact arm CC MM TT 21 rfl rfl (vc_qRmul H h ha (hk _ rfl))
 | qRsub h =>
  walk_at "ps"; intro n e0 TT H k hk; replace h := Nat.le_trans h e0
  exact arm CC MM TT 22 rfl rfl (vc_qRsub H h (hk _ rfl))
 | qDiv h ha hu =>
  walk_at "ps"; intro n e0 TT H k hk; replace h := Nat.le_trans h e0
  exact arm CC MM TT 24 rfl rfl (vc_qDiv H h ha hu (hk _ rfl))
 | qRdiv h =>
  walk_at "ps"; intro n e0 TT H k hk; replace h := Nat.le_trans h e0
  exact arm CC MM TT 25 rfl rfl (vc_qRdiv H h (hk _ rfl))
 | deg h hw h1 h2 h3 =>
  walk_at "ps"; intro n e0 TT H k hk; replace h := Nat.le_trans h e0
  exact arm CC MM TT 17 rfl rfl (vc_deg H h hw h1 h2 h3 (hk _ rfl))
 | fFqc h =>
  walk_at "ps"; intro n e0 TT H k hk; replace h := Nat.le_trans h e0
  exact arm CC MM TT 32 rfl rfl (vc_fFqc H h (hk _ rfl))
 | fMade h y hw h1 h2 =>
  walk_at "ps"; intro n e0 TT H k hk; replace h := Nat.le_trans h e0
  exact arm CC MM TT 31 rfl rfl (vc_fMade H h hw h1 h2 (hk _ rfl))
 | fAdd h =>
  walk_at "ps"; intro n e0 TT H k hk; replace h := Nat.le_trans h e0
  exact arm CC MM TT 33 rfl rfl (vc_fAdd H h (hk _ rfl))
 | fSub h =>
  walk_at "ps"; intro n e0 TT H k hk; replace h := Nat.le_trans h e0
  exact arm CC MM TT 34 rfl rfl (vc_fSub H h (hk _ rfl))
 | fMul h =>
  walk_at "ps"; intro n e0 TT H k hk; replace h := Nat.le_trans h e0
  exact arm CC MM TT 35 rfl rfl (vc_fMul H h (hk _ rfl))
 | fMulI h =>
  walk_at "ps"; intro n e0 TT H k hk; replace h := Nat.le_trans h e0
  exact arm CC MM TT 35 rfl rfl (vc_fMulI H h (hk _ rfl))
 | fRmul h =>
  walk_at "ps"; intro n e0 TT H k hk; replace h := Nat.le_trans h e0
  exact arm CC MM TT 36 rfl rfl (vc_fRmul H h (hk _ rfl))
 | fDivI h =>
  walk_at "ps"; intro n e0 TT H k hk; replace h := Nat.le_trans h e0
  exact arm CC MM TT 37 rfl rfl (vc_fDivI H h (hk _ rfl))
 | prd1 h ha hb h0 =>
  walk_at "ps"; intro n e0 TT H k hk; replace h := Nat.le_trans h e0
  exact arm CC MM TT 18 rfl rfl (vc_prd1 H h ha hb h0 (hk _ rfl))
 | prd2 h ha hb hl hb0 hl0 =>
  walk_at "ps"; intro n e0 TT H k hk; replace h := Nat.le_trans h e0
  exact arm CC MM TT 18 rfl rfl (vc_prd2 H h ha hb hl hb0 hl0 (hk _ rfl))
 | fInv h hx =>
  walk_at "ps"; intro n e0 TT H k hk; replace h := Nat.le_trans h e0
  exact arm CC MM TT 39 rfl rfl (vc_fInv H h hx (hk _ rfl))
 | fDiv h hy =>
  walk_at "ps"; intro n e0 TT H k hk; replace h := Nat.le_trans h e0
  exact arm CC MM TT 37 rfl rfl (vc_fDiv H h hy (hk _ rfl))
 | fPow1 h =>
  walk_at "ps"; intro n e0 TT H k hk; replace h := Nat.le_trans h e0
  exact arm CC MM TT 38 rfl rfl (vc_fPow1 H h (hk _ rfl))
 | fPow2 h =>
  walk_at "ps"; intro n e0 TT H k hk; replace h := Nat.le_trans h e0
  exact arm CC MM TT 38 rfl rfl (vc_fPow2 H h (hk _ rfl))
 | fPow3 h =>
  walk_at "ps"; intro n e0 TT H k hk; replace h := Nat.le_trans h e0
  exact arm CC MM TT 38 rfl rfl (vc_fPow3 H h (hk _ rfl))
 | fEq h =>
  walk_at "ps"; intro n e0 TT H k hk; replace h := Nat.le_trans h e0
  exact arm CC MM TT 40 rfl rfl (vc_fEq H h (hk _ rfl))
 | fNeg h =>
  walk_at "ps"; intro n e0 TT H k hk; replace h := Nat.le_trans h e0
  exact arm CC MM TT 42 rfl rfl (vc_fNeg H h (hk _ rfl))
 | tMade h f hw =>
  walk_at "ps"; intro n e0 TT H k hk; replace h := Nat.le_trans h e0
  exact arm CC MM TT 57 rfl rfl (vc_tMade H h f hw (hk _ rfl))
 | oMade h l hl hw =>
  walk_at "ps"; intro n e0 TT H k hk; replace h := Nat.le_trans h e0
  exact arm CC MM TT 43 rfl rfl (vc_oMade H h hl hw (hk _ rfl))
 | oAdd h =>
  walk_at "ps"; intro n e0 TT H k hk; replace h := Nat.le_trans h e0
  exact arm CC MM TT 44 rfl rfl (vc_oAdd H h (hk _ rfl))
 | oSub h =>
  walk_at "ps"; intro n e0 TT H k hk; replace h := Nat.le_trans h e0
  exact arm CC MM TT 45 rfl rfl (vc_oSub H h (hk _ rfl))
 | oMulI h hs =>
  walk_at "ps"; intro n e0 TT H k hk; replace h := Nat.le_trans h e0
  exact arm CC MM TT 46 rfl rfl (vc_oMulI H h hs (hk _ rfl))
 | oRmul h hs =>
  walk_at "ps"; intro n e0 TT H k hk; replace h := Nat.le_trans h e0
  exact arm CC MM TT 47 rfl rfl (vc_oRmul H h hs (hk _ rfl))
 | oDivI h =>
  walk_at "ps"; intro n e0 TT H k hk; replace h := Nat.le_trans h e0
  exact arm CC MM TT 48 rfl rfl (vc_oDivI H h (hk _ rfl))
 | oOprd1 h ha hb h0 =>
  walk_at "ps"; intro n e0 TT H k hk; replace h := Nat.le_trans h e0
  exact arm CC MM TT 50 rfl rfl (vc_oOprd1 H h ha hb h0 (hk _ rfl))
 | oOprd2 h ha hb hl hb0 hl0 =>
  walk_at "ps"; intro n e0 TT H k hk; replace h := Nat.le_trans h e0
  exact arm CC MM TT 50 rfl rfl (vc_oOprd2 H h ha hb hl hb0 hl0 (hk _ rfl))
 | oInv h hx =>
  walk_at "ps"; intro n e0 TT H k hk; replace h := Nat.le_trans h e0
  exact arm CC MM TT 51 rfl rfl (vc_oInv H h hx (hk _ rfl))
 | oDiv h hy =>
  walk_at "ps"; intro n e0 TT H k hk; replace h := Nat.le_trans h e0
  exact arm CC MM TT 48 rfl rfl (vc_oDiv H h hy (hk _ rfl))
 | oPow2 h =>
  walk_at "ps"; intro n e0 TT H k hk; replace h := Nat.le_trans h e0
  exact arm CC MM TT 49 rfl rfl (vc_oPow2 H h (hk _ rfl))
 | oPow3 h =>
  walk_at "ps"; intro n e0 TT H k hk; replace h := Nat.le_trans h e0
  exact arm CC MM TT 49 rfl rfl (vc_oPow3 H h (hk _ rfl))
 | oEq h =>
  walk_at "ps"; intro n e0 TT H k hk; replace h := Nat.le_trans h e0
  exact arm CC MM TT 52 rfl rfl (vc_oEq H (hk _ rfl))
 | oNeg h =>
  walk_at "ps"; intro n e0 TT H k hk; replace h := Nat.le_trans h e0
  exact arm CC MM TT 54 rfl rfl (vc_oNeg H h (hk _ rfl))
 | oOne h =>
  walk_at "ps"; intro n e0 TT H k hk; replace h := Nat.le_trans h e0
  exact arm CC MM TT 55 rfl rfl (vc_oOne H h (hk _ rfl))
 | oZero h j =>
  walk_at "ps"; intro n e0 TT H k hk; replace h := Nat.le_trans h e0
  exact arm CC MM TT 56 rfl rfl (vc_oZero H h (hk _ rfl))
 | twist h =>
  walk_at "ps"; intro n e0 TT H k hk; replace h := Nat.le_trans h e0
  exact arm CC MM TT 8 rfl rfl (vc_twist H h (hk _ rfl))
 | pIsInf h =>
  walk_at "ps"; intro n e0 TT H k hk; replace h := Nat.le_trans h e0
  exact arm CC MM TT 9 rfl rfl (vc_pIsInf H (hk _ rfl))
 | pOnC h =>
  walk_at "ps"; intro n e0 TT H k hk; replace h := Nat.le_trans h e0
  exact arm CC MM TT 10 rfl rfl (vc_pOnC H h (hk _ rfl))
 | pDbl h hy =>
  walk_at "ps"; intro n e0 TT H k hk; replace h := Nat.le_trans h e0
  exact arm CC MM TT 11 rfl rfl (vc_pDbl H h hy (hk _ rfl))
 | pAdd h hy =>
  walk_at "ps"; intro n e0 TT H k hk; replace h := Nat.le_trans h e0
  exact arm CC MM TT 12 rfl rfl (vc_pAdd H h hy (hk _ rfl))
 | pMul e h he hy =>
  walk_at "ps"; intro n e0 TT H k hk; replace h := Nat.le_trans h e0
  exact arm CC MM TT 13 rfl rfl (vc_pMul H e h he hy (hk _ rfl))
 | pEq h =>
  walk_at "ps"; intro n e0 TT H k hk; replace h := Nat.le_trans h e0
  exact arm CC MM TT 14 rfl rfl (vc_pEq H h (hk _ rfl))
 | pNeg h =>
  walk_at "ps"; intro n e0 TT H k hk; replace h := Nat.le_trans h e0
  exact arm CC MM TT 15 rfl rfl (vc_pNeg H h (hk _ rfl))
 | lTimes h =>
  walk_at "ps"; intro n e0 TT H k hk; replace h := Nat.le_trans h e0
  exact arm CC MM TT 67 rfl rfl (vc_lTimes H (hk _ rfl))
 | lLess h =>
  walk_at "ps"; intro n e0 TT H k hk; replace h := Nat.le_trans h e0
  exact arm CC MM TT 68 rfl rfl (vc_lLess H (hk _ rfl))
 | lOver h =>
  walk_at "ps"; intro n e0 TT H k hk; replace h := Nat.le_trans h e0
  exact arm CC MM TT 69 rfl rfl (vc_lOver H h (hk _ rfl))
 | lRoot h =>
  walk_at "ps"; intro n e0 TT H k hk; replace h := Nat.le_trans h e0
  exact arm CC MM TT 70 rfl rfl (vc_lRoot H h hk)
 | lAdd h =>
  walk_at "ps"; intro n e0 TT H k hk; replace h := Nat.le_trans h e0
  exact arm CC MM TT 71 rfl rfl (vc_lAdd H h (hk _ rfl))
 | lNeg h =>
  walk_at "ps"; intro n e0 TT H k hk; replace h := Nat.le_trans h e0
  exact arm CC MM TT 72 rfl rfl (vc_lNeg H h (hk _ rfl))
 | lMult h e he =>
  walk_at "ps"; intro n e0 TT H k hk; replace h := Nat.le_trans h e0
  exact arm CC MM TT 73 rfl rfl (vc_lMult H h e he (hk _ rfl))
 | lCube h =>
  walk_at "ps"; intro n e0 TT H k hk; replace h := Nat.le_trans h e0
  exact arm CC MM TT 74 rfl rfl (vc_lCube H h (hk _ rfl))
 | lPoint h =>
  walk_at "ps"; intro n e0 TT H k hk; replace h := Nat.le_trans h e0
  exact arm CC MM TT 75 rfl rfl (vc_lPoint H h hk)
 | lForm h =>
  walk_at "ps"; intro n e0 TT H k hk; replace h := Nat.le_trans h e0
  exact arm CC MM TT 76 rfl rfl (vc_lForm H h (hk _ rfl))
 | lPair h hu =>
  walk_at "ps"; intro n e0 TT H k hk; replace h := Nat.le_trans h e0
  exact arm CC MM TT 77 rfl rfl (vc_lPair H h hu (hk _ rfl))
 | lRead h =>
  walk_at "ps"; intro n e0 TT H k hk; replace h := Nat.le_trans h e0
  exact arm CC MM TT 78 rfl rfl (vc_lRead H h (hk _ rfl))
 | lPlain h =>
  walk_at "ps"; intro n e0 TT H k hk; replace h := Nat.le_trans h e0
  exact arm CC MM TT 79 rfl rfl (vc_lPlain H h (hk _ rfl))
 | lPlainRead h =>
  walk_at "ps"; intro n e0 TT H k hk; replace h := Nat.le_trans h e0
  exact arm CC MM TT 80 rfl rfl (vc_lPlainRead H h (hk _ rfl))
 | lPrimes h =>
  walk_at "ps"; intro n e0 TT H k hk; replace h := Nat.le_trans h e0
  exact arm CC MM TT 66 rfl rfl (vc_lPrimes (hk _ rfl))
 | lTwisted h =>
  walk_at "ps"; intro n e0 TT H k hk; replace h := Nat.le_trans h e0
  exact arm CC MM TT 84 rfl rfl (vc_lTwisted H h (hk _ rfl))
 | lPlainRight h e he hc hy =>
  walk_at "ps"; intro n e0 TT H k hk; replace h := Nat.le_trans h e0
  exact arm CC MM TT 83 rfl rfl (vc_lPlainRight H h e he hc hy (hk _ rfl))
 | lOpt h hw e he hc hy hR h0 h1 hS =>
  walk_at "ps"; intro n e0 TT H k hk; replace h := Nat.le_trans h e0
  exact arm CC MM TT 82 rfl rfl (vc_lOpt H h hw e he hc hy hR h0 h1 hS (hk _ rfl))
 | lTells h =>
  walk_at "ps"; intro n e0 TT H k hk; replace h := Nat.le_trans h e0
  exact arm CC MM TT 81 rfl rfl (vc_lTells H (hk _ rfl))
 | isInf h hf =>
  walk_at "ps"; intro n e0 TT H k hk; replace h := Nat.le_trans h e0
  rcases hf with rfl | rfl
  ·exact arm CC MM TT 0 rfl rfl (vc_isInf H h (hk _ rfl))
  ·exact arm CC MM TT 58 rfl rfl (vc_isInf H h (hk _ rfl))
 | dbl h hf =>
  walk_at "ps"; intro n e0 TT H k hk; replace h := Nat.le_trans h e0
  rcases hf with rfl | rfl
  ·exact arm CC MM TT 2 rfl rfl (vc_dbl H h (hk _ rfl))
  ·exact arm CC MM TT 60 rfl rfl (vc_dbl H h (hk _ rfl))
 | eq h hf ht =>
  walk_at "ps"; intro n e0 TT H k hk; replace h := Nat.le_trans h e0
  rcases hf with rfl | rfl
  ·exact arm CC MM TT 5 rfl rfl (vc_eq H h ht (hk _ rfl))
  ·exact arm CC MM TT 63 rfl rfl (vc_eq H h ht (hk _ rfl))
 | norm h hf hz =>
  walk_at "ps"; intro n e0 TT H k hk; replace h := Nat.le_trans h e0
  rcases hf with rfl | rfl
  ·exact arm CC MM TT 6 rfl rfl (vc_norm H h hz (hk _ rfl))
  ·exact arm CC MM TT 64 rfl rfl (vc_norm H h hz (hk _ rfl))
 | neg h hf =>
  walk_at "ps"; intro n e0 TT H k hk; replace h := Nat.le_trans h e0
  rcases hf with rfl | rfl
  ·exact arm CC MM TT 7 rfl rfl (vc_neg H h (hk _ rfl))
  ·exact arm CC MM TT 65 rfl rfl (vc_neg H h (hk _ rfl))
 | onC h hf =>
  walk_at "ps"; intro n e0 TT H k hk; replace h := Nat.le_trans h e0
  rcases hf with rfl | rfl
  ·exact arm CC MM TT 1 rfl rfl (vc_onC H h (hk _ rfl) _ (.inl rfl))
  ·exact arm CC MM TT 59 rfl rfl (vc_onC H h (hk _ rfl) _ (.inr rfl))
 | add h hf =>
  walk_at "ps"; intro n e0 TT H k hk; replace h := Nat.le_trans h e0
  rcases hf with rfl | rfl
  ·exact arm CC MM TT 3 rfl rfl (vc_add H h hk _ (.inl rfl))
  ·exact arm CC MM TT 61 rfl rfl (vc_add H h hk _ (.inr rfl))
 | mul hf e h =>
  walk_at "ps"; intro n e0 TT H k hk; replace h := Nat.le_trans h e0
  rcases hf with rfl | rfl
  ·exact arm CC MM TT 4 rfl rfl (vc_mul H e h (hk _ rfl) _ _ _ (.inl rfl) (.inl rfl) (.inl rfl))
  ·exact arm CC MM TT 62 rfl rfl (vc_mul H e h (hk _ rfl) _ _ _ (.inr rfl) (.inr rfl) (.inr rfl))
theorem all_ok (CC : CK K) (MM : MgOk mg) (p : Int) (hp : Pr p) : ∀ (n : Nat) (f : Fn) (args : List V) (Post : V → Prop), Sp p hp n f args Post → ∀ k : V → Prop, (∀ v, Post v → k v) → CallOk prog w K mg mb (2 * n) f args k
 | 0, f, args, Post, hs, k, hk => absurd (step CC MM hs).1 (Nat.lt_irrefl 0)
 | n + 1, f, args, Post, hs, k, hk => (step CC MM hs).2 n (Nat.le_refl _) (fun f args k ⟨Post, h, hk⟩ => all_ok CC MM p hp n f args Post h k hk) (tn_s p hp n) k hk
end
end
section
set_option maxRecDepth 1000000
theorem mgOk {K : Frag} {mg : Str → Option Value} (H : chkMg K = true) {h : Heap} (X : K.In h) (G : h.Ns mainGlobals mg) : MgOk mg := by
 obtain ⟨h1, h2⟩ := Bool.and_eq_true_iff.mp H
 refine ⟨fun f hf => ?_, fun x hx => ?_⟩
 ·have := List.all_eq_true.mp h1 f (fns_all f)
  rw [hf, Bool.false_or] at this
  exact mg_of X G (fRef_e this)
 ·exact mg_none_of X G (fNone_e (List.all_eq_true.mp h2 x hx))
theorem kt_of {K : Frag} (h : ((K.lookup 308).isNone && (K.lookup 422).isNone) = true) : ∀ b o, K.lookup b = some o → ¬ isT b := fun b o e q => by
 obtain ⟨h1, h2⟩ := Bool.and_eq_true_iff.mp h
 rcases q with rfl | rfl
 ·rw [e] at h1; cases h1
 ·rw [e] at h2; cases h2
theorem table_of {K : Frag} {h : Heap} {c b : Addr} (X : K.In h) (e : codeHdIn K c b = true) (hT : h.get? b = some { cls := .none, data := .fields #[] }) : isCodeTable h b := by
 obtain ⟨o, vs, file, tf, flags, tg, inF, text, tt, e1, e2, e3, e4, _⟩ := (codeHd_of_K X e)
 exact Heap.TableAt.isCodeTable (c := c) (ps := #[]) ⟨⟨o, vs, e1, e2, e3, e4⟩, hT⟩
theorem oldK_of {K : Frag} (H : codeHdIn K 312 308 = true ∧ codeHdIn K 424 422 = true) {h h' : Heap} (X : K.In h) (T8 : ∀ b ∈ ([308, 422] : List Addr), h.get? b = some { cls := .none, data := .fields #[] }) (k : KeepH h h') : OldK h h' := by
 refine ⟨fun b o e => ?_, fun b o e => (k b o e).elim fun o' p => ⟨o', p.1⟩⟩
 obtain ⟨o', e', v⟩ := (k b o e)
 rcases v with rfl | ⟨hb, _, ps, rfl, _⟩
 ·exact .inl e'
 ·have hT : h.get? b = some { cls := .none, data := .fields #[] } := T8 b (by rcases hb with rfl | rfl <;> simp)
  rw [e] at hT; cases hT
  refine .inr (.inl ⟨?_, rfl, #[], ps, rfl, by simpa using e'⟩)
  rcases hb with rfl | rfl
  ·exact table_of X H.1 e
  ·exact table_of X H.2 e
theorem gd_of {K : Frag} {mg mb : Str → Option Value} (H : ((K.lookup 308).isNone && (K.lookup 422).isNone) = true) {s : Shared} (X : K.In s.heap) (T8 : ∀ b ∈ ([308, 422] : List Addr), s.heap.get? b = some { cls := .none, data := .fields #[] }) (g : s.heap.Ns mainGlobals mg) (b : s.heap.Ns builtinsNs mb) (nl : s.heap.NoLimit) (bi : ∀ x : Str, x ≠ "__name__" → mb x = bootBuiltins x)
  (bm : ∃ bm ob, mg "__builtins__" = some (.ref bm) ∧ bm ≠ builtinsNs ∧ s.heap.get? bm = some ob ∧ ob.cls = .type "module" ∧ ob.dict = some builtinsNs ∧ ob.data = .plain) : Gd K mg mb s :=
 ⟨X, g, b, nl, bi, kt_of H, fun c hc => ⟨_, T8 c (by rcases hc with rfl | rfl <;> simp), #[], rfl, trivial⟩, bm⟩
theorem ints_rep {Z : ZM} {vs : List Value} {l : List Int} (h : IntsAre vs l) : RepL Z vs (vl l) := by
 induction h with
 | nil => exact .nil
 | cons n t r ih => exact .cons (.int n t) ih
section
noncomputable def Tl : Tab := fun f args k => ∃ (p : Int) (hp : Pr p) (Post : V → Prop), Sp p hp 16 f args Post ∧ ∀ v, Post v → k v
theorem law_ok (CC : CK K) (MM : MgOk mg) (l : List Int) : CallOk prog w K mg mb 34 .law [.lst (vl l)] (· = .bool true) := by
 have TT : TabOk prog w K mg mb 32 Tl := fun f args k ⟨p, hp, Post, h, hk⟩ => all_ok CC MM p hp 16 f args Post h k hk
 exact call_ok CC.kf TT MM (irs_at CC.ir 85 rfl) rfl (vc_law (n := 16) (fun p hp f args Post k h hk => ⟨p, hp, Post, h, hk⟩) (by omega) l rfl)
theorem law_run (CC : CK K) {A : Around} {s : Shared} {E : Value → Shared → Prop} {Q : Value → Shared → Prop} (MM : MgOk mg) (G : Gd K mg mb s) {L : Addr} {vs : List Value} {l : List Int} {n : Nat} (hL : s.heap.get? L = some { cls := .type "list", data := .seq vs.toArray n }) (hI : IntsAre vs l) (hlen : l.length ≤ 63) (hA : OkA A 34)
  (hQ : ∀ s', KeepH s.heap s'.heap → (AllBare s.gens → AllBare s'.gens) → s'.os = s.os → Q (.bool true) s') : wpAny (model prog w) A (call (.ref 751) [.ref L]) Q E s := by
 have hz0 : ∀ b o, zAdd (fun J => none) L { cls := .type "list", data := .seq vs.toArray n } b = some o → s.heap.get? b = some o := fun b o e => by
  unfold zAdd at e
  split at e
  ·rename_i q; cases e; rw [q]; exact hL
  ·cases e
 refine law_ok CC MM l A s (zAdd (fun J => none) L { cls := .type "list", data := .seq vs.toArray n }) [.ref L] Q E hA G hz0 (fun b hb => ?_) (.cons (.lst (zAdd_self ..) (by rw [vl_len]; omega) (ints_rep hI)) .nil) fun v x Z' s' g r e => ?_
 ·cases q : zAdd (fun J => none) L { cls := .type "list", data := .seq vs.toArray n } b with
  | none => rfl
  | some o =>
   haveI h1 := hz0 b o q
   unfold zAdd at q
   split at q
   ·cases q
    obtain ⟨o', e', ps, rfl, _⟩ := (G.tabs b hb)
    rw [h1] at e'; cases e'
   ·cases q
 ·subst e
  rw [r.bool_inv]
  exact hQ s' g.keep g.bare g.os
end
theorem good (u : U) (k : IsK u.K) : Good u := Classical.byContradiction fun n => by
 have b := u0_bad ⟨k, n⟩
 have CC := Hd.ckK b.1
 exact b.2 fun A s E Q L vs l n G hL hI hlen hA hQ => law_run CC (mgOk CC.mg G.k G.g) G hL hI hlen hA hQ
theorem head (call : ∀ (d : DefRec) (kwd : List (Str × Expr)), d.name = Str.ofString "law" → WalkO Hd.qL Hd.lo (XL Hd.qL []) Hd.hk.says PySem.Challenge.rw_af0017_01.row.toRowW d kwd fun f vs => PySem.call f vs) : PySem.Challenge.rw_af0017_01.Holds :=
 holds_law Hd.ws fun said => by
  refine holds_open (q := Hd.qL) (loose := Hd.lo) (Xt := Hd.xt) (XP := XL Hd.qL []) (Yf := Hd.hk.obs) (Ya := Hd.hk.val) (YP := Hd.hk.says) (N := 9128) Hd.left0 Hd.hk.of Hd.hk.keeps (fun s e => xl_of s (Bool.and_eq_true_iff.mp e).1) XL.keeps (by rfl) (by rfl) (by rfl) (fun s e => recFacts_of (Bool.and_eq_true_iff.mp e).2) rfl said (by decide +kernel) ⟨rfl, rfl, rfl, rfl, rfl, by decide +kernel⟩ ?_ (call _ _ rfl)
  exact ⟨[.list [.int 3, .int 1]], by decide +kernel, by decide +kernel⟩
end
end Mine
theorem PySem.Challenge.cw_af0017_01_holds : PySem.Challenge.rw_af0017_01.Holds := by
 refine Mine.head fun d kwd hname => ?_
 intro w s₀ s₁ mg mb G Y a o pm cd doc dV kV ha ho hcd hD hmg hgens args vals as hpre hlay hrd hwl hlo
 obtain ⟨⟨K, CC, X⟩, T8⟩ := (Y)
 haveI T := G.T
 clear G ho hD ha hcd
 haveI M := Mine.more_t (Mine.Hd.moreK CC)
 haveI MM := Mine.mgOk M.1 X T.g
 haveI GD := Mine.gd_of M.2.1 X T8 T.g T.b T.nolimit T.builtins T.bmain
 haveI ea : a = 751 := by
  have := MM.fn .law (by decide +kernel)
  haveI e : mg (Str.ofString "law") = some (.ref 751) := this
  have hm : mg (Str.ofString "law") = some (.ref a) := hname ▸ hmg
  rw [hm] at e
  cases e; rfl
 subst ea
 clear hmg T
 set_option tactic.hygienic true in
 wrow_args hpre hlay hrd hwl hlo
 rename_i l _ _ _ _ _ _ _ L vs _ hL _ wel _ hI _ hlen _
 obtain ⟨ol, hol, _, nl, hdl⟩ := (hL)
 haveI hobj : ∃ n, s₁.heap.get? L = some { cls := .type "list", data := .seq vs.toArray n } := by
  haveI wel' : Well w.params s₁.heap (.ref L) (WData.list (ofPys (List.map PyData.int l))) := wel
  cases wel' with
  | list h hw =>
   rw [hol] at h
   cases h
   injection hdl with q1 q2
   rw [q1] at hol
   exact ⟨_, hol⟩
 obtain ⟨n, hobj⟩ := hobj
 show wpAny _ callerA (PySem.call (.ref 751) [.ref L]) _ _ s₁
 haveI g : Mine.Good ⟨w, K, mg, mb⟩ := Mine.good _ CC
 unfold Mine.Good at g
 rw [Mine.prog_eq] at g
 refine g _ s₁ _ _ L vs l n GD hobj hI (by omega) ⟨rfl, by decide +kernel, by decide +kernel⟩ fun s' hk hb ho => ?_
 refine ⟨.inl ⟨_, _, [], rfl, fun J => rfl, ReadsW.bool true, ?_, fun J => ⟨List.nodup_nil, fun J hm => (nomatch hm)⟩⟩, Mine.oldK_of M.2.2 X T8 hk, ho, hb (by rw [hgens]; exact AllBare.empty)⟩
 first | rfl | wrow_post
