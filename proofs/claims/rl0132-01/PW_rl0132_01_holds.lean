import PyProof.Rows.All
import Wide.All
import OpenK.AllK
import Wide.FinOn
import PyProof.WalksPairs
import PyProof.IsiH_list
import KE.KStateDown
import KE.KFind
import KE.KStar
import KE.KBoundM
import Lean
import PySem.Challenge.RW_rl0132_01
set_option Elab.async false
set_option compiler.extract_closed false
set_option maxRecDepth 100000
open PySem PySem.W PyProof.Rows PySem.Flt
namespace Mine
section
open PySem PySem.W PyProof.Rows
set_option maxHeartbeats 8000000
theorem no_twins : True := by
  run_tac (do
    PySem.W.Fast.primed.modify (·.insert `PySem.Challenge.pw_rl0132_01 none)
    for x in ["o", "tree", "heap", "sts", "view", "env"] do
      for i in [0:2000] do
        PySem.W.Fast.primed.modify (·.insert ((Lean.Name.mkSimple "hd").str s!"{x}_{i}") none)
        PySem.W.Fast.primed.modify (·.insert (((Lean.Name.mkSimple "Mine").str "hd").str s!"{x}_{i}") none))
  exact True.intro
local macro_rules
  | `(tactic| o_head (kHook $K $as $e)) => `(tactic| o_head (kmHook $K $as $e [234, 241]))
open_top hd for PySem.Challenge.rw_rl0132_01
end
section
@[irreducible] noncomputable def eps {α : Type} (ne : Nonempty α) (P : α → Prop) : α := @Classical.epsilon α ne fun x => ¬ P x
theorem allT {α : Type} {P : α → Prop} (ne : Nonempty α) (h : P (eps ne P)) : ∀ x, P x := by
  unfold eps at h
  exact fun x => Classical.byContradiction fun n => (@Classical.epsilon_spec α (fun x => ¬ P x) ⟨x, n⟩) h
noncomputable def AtE {α : Type} (P : α → Prop) (e : α) : Prop := P e
theorem allE {α : Type} {P : α → Prop} (ne : Nonempty α) (h : AtE P (eps ne P)) (x : α) : P x := allT ne h x
theorem neW : Nonempty World := ⟨⟨fun _ _ => 0, { strHash := fun _ => 0, shareClass := fun _ => 0, mergeTok := fun t => t, idOf := fun _ => 0, idOfShared := fun _ _ => 0, followText := fun _ => false, idOfImm := fun _ => 0 }⟩⟩
theorem neD1 : Nonempty PyData := ⟨.none⟩
theorem neD2 : Nonempty WData := ⟨.none⟩
theorem neA : Nonempty Around := ⟨{}⟩
theorem neS : Nonempty Shared := ⟨{}⟩
theorem neP {A B : Type} (a : Nonempty A) (b : Nonempty B) : Nonempty (A × B) := a.elim fun x => b.elim fun y => ⟨(x, y)⟩
noncomputable def un2 {A B : Type} (P : A → B → Prop) (t : A × B) : Prop := P t.1 t.2
noncomputable def All3 {A B C : Type} (P : A → B → C → Prop) : Prop := ∀ x y z, P x y z
noncomputable def un3 {A B C : Type} (P : A → B → C → Prop) (t : A × B × C) : Prop := P t.1 t.2.1 t.2.2
theorem all3 {A B C : Type} {P : A → B → C → Prop} (ne : Nonempty (A × B × C)) (h : AtE (un3 P) (eps ne (un3 P))) : All3 P := fun x y z => allT (P := un3 P) ne h (x, y, z)
noncomputable def All5 {A B C D F : Type} (P : A → B → C → D → F → Prop) : Prop := ∀ x y z u v, P x y z u v
noncomputable def un5 {A B C D F : Type} (P : A → B → C → D → F → Prop) (t : A × B × C × D × F) : Prop := P t.1 t.2.1 t.2.2.1 t.2.2.2.1 t.2.2.2.2
theorem all5 {A B C D F : Type} {P : A → B → C → D → F → Prop} (ne : Nonempty (A × B × C × D × F)) (h : AtE (un5 P) (eps ne (un5 P))) : All5 P := fun x y z u v => allT (P := un5 P) ne h (x, y, z, u, v)
theorem ne3 : Nonempty (Heap × Addr × Heap) := inferInstance
theorem ne5 : Nonempty (Heap × Addr × Heap × Nat × List (Addr × Obj)) := inferInstance
theorem ne3a : Nonempty (Addr × Addr × Heap) := inferInstance
end
section
theorem ex9 {α1 α2 α3 α4 α5 α6 α7 α8 α9 : Type} {P : α1 → α2 → α3 → α4 → α5 → α6 → α7 → α8 → α9 → Prop} (a1 : α1) (a2 : α2) (a3 : α3) (a4 : α4) (a5 : α5) (a6 : α6) (a7 : α7) (a8 : α8) (a9 : α9) (h : P a1 a2 a3 a4 a5 a6 a7 a8 a9) : ∃ x1 x2 x3 x4 x5 x6 x7 x8 x9, P x1 x2 x3 x4 x5 x6 x7 x8 x9 := ⟨a1, a2, a3, a4, a5, a6, a7, a8, a9, h⟩
end
section
open Lean Meta Elab Tactic
inductive ArF where
  | mk (a b : Lean.Expr) (strict : Bool) (pf : Lean.Expr) : ArF
def arK (c : Name) (n : Nat) (t : Lean.Expr) : Bool := t.isAppOfArity c n && ((t.getArg! 0).isConstOf ``Nat || (t.getArg! 0).isConstOf ``PySem.Addr)
def arC (e : Lean.Expr) : Lean.Expr := if e.isAppOfArity ``Prod.fst 3 && e.appArg!.isAppOfArity ``Prod.mk 4 then e.appArg!.getArg! 2 else e
def arN (n : Name) (a : Array Lean.Expr) : Lean.Expr := mkAppN (mkConst n) a
def arPush (t p : Lean.Expr) (acc : List ArF) : List ArF :=
  let x (i : Nat) := arC (t.getArg! i)
  if arK ``LT.lt 4 t then .mk (x 2) (x 3) true p :: acc
  else if arK ``LE.le 4 t then .mk (x 2) (x 3) false p :: acc
  else if arK ``GT.gt 4 t then .mk (x 3) (x 2) true p :: acc
  else if arK ``GE.ge 4 t then .mk (x 3) (x 2) false p :: acc
  else if arK ``Eq 3 t then .mk (x 1) (x 2) false (arN ``Nat.le_of_eq #[x 1, x 2, p]) :: .mk (x 2) (x 1) false (arN ``Nat.le_of_eq #[x 2, x 1, mkAppN (mkConst ``Eq.symm [1]) #[mkConst ``Nat, x 1, x 2, p]]) :: acc
  else acc
def arParts : Nat → Lean.Expr → Lean.Expr → List ArF → List ArF
  | 0, _, _, acc => acc
  | n + 1, t, p, acc =>
    if t.isAppOfArity ``And 2 then
      let a := t.getArg! 0
      let b := t.getArg! 1
      arParts n a (arN ``And.left #[a, b, p]) (arParts n b (arN ``And.right #[a, b, p]) acc)
    else arPush t p acc
def arFacts : List Lean.Expr → List ArF → MetaM (List ArF)
  | [], acc => pure acc
  | h :: r, acc => do arFacts r (arParts 60 (← instantiateMVars (← inferType h)).consumeMData h acc)
def arLit (e : Lean.Expr) : Option Nat := e.rawNatLit?.or (if e.isAppOfArity ``OfNat.ofNat 3 then (e.getArg! 1).rawNatLit? else none)
def arDec (a b : Lean.Expr) : Lean.Expr :=
  mkAppN (mkConst ``of_decide_eq_true) #[mkAppN (mkConst ``LT.lt [0]) #[mkConst ``Nat, mkConst ``instLTNat, a, b], arN ``Nat.decLt #[a, b], mkAppN (mkConst ``Eq.refl [1]) #[mkConst ``Bool, mkConst ``Bool.true]]
def arEnds : List ArF → List Lean.Expr → List Lean.Expr
  | [], acc => acc
  | .mk a b _ _ :: r, acc =>
    let acc := if (arLit a).isSome && !acc.contains a then a :: acc else acc
    arEnds r (if (arLit b).isSome && !acc.contains b then b :: acc else acc)
/-- the literals above a literal -/
def arUp (x : Lean.Expr) (n : Nat) : List Lean.Expr → List ArF → List ArF
  | [], acc => acc
  | y :: r, acc => arUp x n r (if n < (arLit y).getD 0 then .mk x y true (arDec x y) :: acc else acc)
inductive ArP where
  | mk (x : Lean.Expr) (s : Bool) (pf : Option Lean.Expr) : ArP
def arSeen (y : Lean.Expr) (t : Bool) : List ArP → Bool
  | [] => false
  | .mk x s _ :: r => (x == y && (s || !t)) || arSeen y t r
def arGo (a x : Lean.Expr) (s : Bool) (pf : Option Lean.Expr) : List ArF → List ArP → List ArP → List ArP × List ArP
  | [], seen, next => (seen, next)
  | .mk u v st p :: r, seen, next =>
    if u == x && !arSeen v (s || st) seen then
      let n := match pf with
        | none => .mk v st (some p)
        | some q => .mk v (s || st) (some (arN (if s then (if st then ``Nat.lt_trans else ``Nat.lt_of_lt_of_le) else if st then ``Nat.lt_of_le_of_lt else ``Nat.le_trans) #[a, x, v, q, p]))
      arGo a x s pf r (n :: seen) (n :: next)
    else arGo a x s pf r seen next
def arStep (fs : List ArF) (ls : List Lean.Expr) (a : Lean.Expr) : List ArP → List ArP → List ArP → List ArP × List ArP
  | [], seen, next => (seen, next)
  | .mk x s pf :: r, seen, next =>
    let (seen, next) := arGo a x s pf (match arLit x with | some n => arUp x n ls fs | none => fs) seen next
    arStep fs ls a r seen next
def arFind (b : Lean.Expr) (need : Bool) : List ArP → Option ArP
  | [] => none
  | .mk x s pf :: r => if x == b && (s || !need) && pf.isSome then some (.mk x s pf) else arFind b need r
def arBfs (fs : List ArF) (ls : List Lean.Expr) (a b : Lean.Expr) (need : Bool) : Nat → List ArP → List ArP → Option ArP
  | 0, _, _ => none
  | n + 1, seen, front =>
    let (seen, next) := arStep fs ls a front seen []
    match arFind b need next with
    | some p => some p
    | none => if next.isEmpty then none else arBfs fs ls a b need n seen next
def arPath (fs : List ArF) (a b : Lean.Expr) (need : Bool) : Option ArP :=
  let ls := arEnds fs []
  let ls := if (arLit b).isSome then b :: ls else ls
  arBfs fs ls a b need 9 [.mk a false none] [.mk a false none]
def arNe (a b : Lean.Expr) : List Lean.Expr → MetaM (Option Lean.Expr)
  | [] => pure none
  | h :: r => do
    let t ← inferType h
    if t.isAppOfArity ``Ne 3 then
      if t.getArg! 1 == a && t.getArg! 2 == b then return some h
      if t.getArg! 1 == b && t.getArg! 2 == a then return some (mkAppN (mkConst ``Ne.symm [1]) #[mkConst ``Nat, b, a, h])
    arNe a b r
def arChain (t : Lean.Expr) (hs : List Lean.Expr) : MetaM (Option Lean.Expr) := do
  let x (i : Nat) := arC (t.getArg! i)
  let ord (a b : Lean.Expr) (need : Bool) : MetaM (Option Lean.Expr) := do
    match arPath (← arFacts hs []) a b need with
    | some (.mk _ s (some p)) => return some (if need || !s then p else arN ``Nat.le_of_lt #[a, b, p])
    | _ => return none
  if arK ``Ne 3 t then
    if x 1 == x 2 then throwError "ar: the same"
    match ← arNe (x 1) (x 2) hs with
    | some p => return some p
    | none => match ← ord (x 2) (x 1) true with
      | some p => return some (arN ``Nat.ne_of_gt #[x 1, x 2, p])
      | none => match ← ord (x 1) (x 2) true with
        | some p => return some (arN ``Nat.ne_of_lt #[x 1, x 2, p])
        | none => return none
  else if arK ``LT.lt 4 t then ord (x 2) (x 3) true
  else if arK ``LE.le 4 t then ord (x 2) (x 3) false
  else if arK ``GT.gt 4 t then ord (x 3) (x 2) true
  else if arK ``GE.ge 4 t then ord (x 3) (x 2) false
  else return none
def arArith (t : Lean.Expr) : Bool := match t.consumeMData.getAppFn with
  | .const c _ => [``LT.lt, ``LE.le, ``GT.gt, ``GE.ge, ``Eq, ``Ne, ``And, ``Or, ``Not, ``Iff].contains c
  | _ => t.isArrow && t.bindingBody!.consumeMData.isConstOf ``False
/-- the facts that do not speak of the names -/
def arIdle (s : CollectFVars.State) : List Lean.Expr → List FVarId → MetaM (List FVarId)
  | [], acc => pure acc
  | h :: r, acc => do
    let t ← instantiateMVars (← inferType h)
    let idle ← if ← isProp t then pure (!(arArith t && (!t.hasFVar || t.hasAnyFVar s.fvarSet.contains))) else pure false
    arIdle s r (if idle then h.fvarId! :: acc else acc)
def arGrow (s : CollectFVars.State) (hs : List Lean.Expr) (idle : List FVarId) : List Lean.Expr → MetaM CollectFVars.State
  | [] => pure s
  | h :: r => do
    let t ← instantiateMVars (← inferType h)
    arGrow (if arArith t && !idle.contains h.fvarId! then collectFVars s t else s) hs idle r
def arTry (g : MVarId) (hs : List Lean.Expr) (s : CollectFVars.State) : Nat → TacticM Unit
  | 0 => do
    setGoals [g]
    evalTactic (← `(tactic| first | lia | omega (splitDisjunctions := true)))
  | n + 1 => do
    let idle ← arIdle s hs []
    let st ← saveState
    try
      setGoals [← g.tryClearMany idle.toArray]
      evalTactic (← `(tactic| lia))
    catch _ =>
      st.restore
      arTry g hs (← arGrow s hs idle hs) n
def ar : TacticM Unit := withMainContext do
  let g ← getMainGoal
  let gs := (← getGoals).drop 1
  let t := (← instantiateMVars (← g.getType)).consumeMData
  let hs := (← getLocalHyps).toList.reverse
  match ← arChain t hs with
  | some p => g.assign p
  | none =>
    setGoals [g]
    if t.isConstOf ``False then evalTactic (← `(tactic| omega (splitDisjunctions := true)))
    else if !t.hasFVar && !t.hasExprMVar then evalTactic (← `(tactic| first | decide | omega (splitDisjunctions := true)))
    else
      try evalTactic (← `(tactic| with_reducible assumption))
      catch _ => arTry g hs (collectFVars {} t) 2
  setGoals gs
def arFold {α β : Type} (f : α → β → MetaM β) : List α → β → MetaM β
  | [], b => pure b
  | x :: r, b => do arFold f r (← f x b)
def fnChain : Nat → Lean.Expr → MetaM (Option (List Lean.Expr × MVarId))
  | 0, _ => return none
  | f + 1, v => do
    let b := v.getLambdaBody
    let .mvar k := b.getAppFn | return none
    let some d ← getDelayedMVarAssignment? k | return none
    unless v.isLambda && d.fvars.size == v.getNumHeadLambdas && b.getAppArgs == (Array.range d.fvars.size).reverse.map Lean.Expr.bvar do return none
    let (F, p) := ((← match ← getExprMVarAssignment? d.mvarIdPending with | some w => fnChain f w | none => pure none)).getD ([], d.mvarIdPending)
    return some (d.fvars.toList ++ F, p)
def fnNe (a : Lean.Expr) : MetaM (Option Lean.Expr) := do
  if a.hasFVar || a.hasMVar || a.hasLooseBVars then return none
  if (← instantiateMVars (← inferType a)) != .sort 1 then return none
  match [(``PySem.World, ``neW), (``PySem.PyData, ``neD1), (``PySem.W.WData, ``neD2)].lookup (a.constName?.getD .anonymous) with
  | some n => return some (mkConst n)
  | none => synthInstance? (mkApp (mkConst ``Nonempty [1]) (← whnf a))
def fnType (x : Lean.Expr) : MetaM Lean.Expr := do instantiateMVars (← x.fvarId!.getType)
/-- binds the names, the last one first -/
def fnBind (lam : Bool) (xs : List Lean.Expr) (b : Lean.Expr) : MetaM Lean.Expr :=
  arFold (fun x b => do
    let n ← x.fvarId!.getUserName
    let ty ← fnType x
    let b := b.abstract #[x]
    return if lam then .lam n ty b .default else .forallE n ty b .default) xs b
abbrev FnS := List Lean.Expr × List Lean.Expr × List MVarId
def fnPut (s : FnS) (P : Lean.Expr) : Lean.Expr := P.replaceFVars s.1.toArray s.2.1.toArray
def fnSub (s : FnS) : Nat → Lean.Expr → MetaM Lean.Expr
  | 0, P => return P
  | n + 1, P => do
    let P := fnPut s P
    let (a, b) ← arFold (fun x (l : List Lean.Expr × List Lean.Expr) => do match ← x.getValue? with
      | some v => return (mkFVar x :: l.1, (← instantiateMVars v) :: l.2)
      | none => return l) (collectFVars {} P).fvarIds.toList ([], [])
    if a.isEmpty then return P
    fnSub s n (fnPut (a, b, []) P)
def arApp (c : Name) (ls : List Level) (a : List Lean.Expr) : Lean.Expr := mkAppN (mkConst c ls) a.toArray
def fnProj : List (Lean.Expr × Lean.Expr × Lean.Expr) → Lean.Expr → Lean.Expr → List Lean.Expr
  | [], _, _ => []
  | [_], _, e => [e]
  | (_, b, _) :: r, A, e => let B := A.appArg!; arApp ``Prod.fst [0, 0] [b, B, e] :: fnProj r B (arApp ``Prod.snd [0, 0] [b, B, e])
def fnClose (r : IO.Ref FnS) (F : List Lean.Expr) (p : MVarId) : MetaM (Option Lean.Expr) := p.withContext do
  let G ← instantiateMVars (← p.getType)
  unless ← isProp G do return none
  let (q, hs) ← arFold (fun x (l : List (Lean.Expr × Lean.Expr × Lean.Expr) × List Lean.Expr) => do
    let a ← fnType x
    match ← fnNe a with
    | some n => return ((x, a, n) :: l.1, l.2)
    | none => return (l.1, x :: l.2)) F ([], [])
  let (x, a, n) :: q' := q | return none
  let (A, N, P, T) ← arFold (fun (y, b, k) (l : Lean.Expr × Lean.Expr × Lean.Expr × Lean.Expr) => do
    let (A, N, P, T) := l
    return (arApp ``Prod [0, 0] [b, A], arApp ``neP [] [b, A, k, N], arApp ``un2 [] [b, A, ← fnBind true [y] P], arApp ``Prod.mk [0, 0] [b, A, y, T])) q' (a, n, ← fnBind true [x] (← fnBind false hs G), x)
  let s ← r.get
  let P ← fnSub s 20 P
  if P.hasFVar || P.hasMVar then return none
  let xs := (q.map (·.1)).reverse
  let es := fnProj q.reverse A (arApp ``eps [] [A, N, P])
  let k ← mkFreshExprMVar (← p.getType) .syntheticOpaque
  assignDelayedMVar k.mvarId! F.toArray p
  let H := fnPut (xs, es, []) (← fnBind true hs (mkAppN k F.toArray))
  r.set (xs ++ s.1, es ++ s.2.1, p :: s.2.2)
  return some (← fnBind true F.reverse (mkAppN (arApp ``allE [] [A, P, N, H, T]) hs.reverse.toArray))
def fnNum (m : MVarId) : Nat := match m.name with | .num _ n => n | _ => 0
def fin : MetaM Unit := do
  let ms := ((← getMCtx).eAssignment.foldl (fun a k _ => k :: a) []).mergeSort fun a b => fnNum a ≤ fnNum b
  let r ← IO.mkRef (([], [], []) : FnS)
  arFold (fun m () => do
    let some v ← getExprMVarAssignment? m | return
    if let .mvar z := v.getAppFn then
      if let some w ← getExprMVarAssignment? z then
        if let some (F, p) ← fnChain 60 w then
          let s ← r.get
          let as ← arFold (fun a l => return fnPut s (← instantiateMVars a) :: l) v.getAppArgs.toList.reverse []
          if !as.isEmpty && as.all (!·.hasFVar) then
            r.set (F.take as.length ++ s.1, as.take F.length ++ s.2.1, p :: s.2.2)
    m.assign (← Core.transform v fun e => do
      if e.isLambda && !e.hasLooseBVars then
        if let some (F, p) ← fnChain 60 e then
          unless (← r.get).2.2.contains p do
            if let some e ← fnClose r F p then return .done e
      return .continue)) ms ()
def hq : TacticM Unit := withMainContext do
  let g ← getMainGoal
  let gs := (← getGoals).drop 1
  let c ← arFold (fun x c => do
    let n ← x.getUserName
    if n.toString.endsWith "Qq7" then return c.setUserName x (← mkFreshUserName n) else return c) (← getLCtx).getFVarIds.toList (← getLCtx)
  let m ← mkFreshExprMVarAt c (← getLocalInstances) (← g.getType) .syntheticOpaque (← g.getTag)
  g.assign m
  setGoals (m.mvarId! :: gs)
end
local macro_rules | `(tactic| walk_at $s:str) => `(tactic| k_extra $s)
local macro_rules | `(tactic| walk_at "ne") => `(tactic| first | (refine neP ?a ?b; (case a => walk_at "ne"); (case b => walk_at "ne")) | infer_instance | exact neW | exact ⟨{}⟩)
local macro_rules | `(tactic| walk_at "e5") => `(tactic| (refine (?zh : All5 ?zP); refine all5 ne5 ?zk; refine (?zj : AtE _ ?zE); refine (?_ : All5 ?zP) ?zE.1 ?zE.2.1 ?zE.2.2.1 ?zE.2.2.2.1 ?zE.2.2.2.2))
local macro_rules | `(tactic| walk_at "e3") => `(tactic| (refine (?zh : All3 ?zP); refine all3 ?zn ?zk; (case zn => first | exact ne3 | exact ne3a); refine (?zj : AtE _ ?zE); refine (?_ : All3 ?zP) ?zE.1 ?zE.2.1 ?zE.2.2))
local macro_rules | `(tactic| walk_at "en") => `(tactic| (refine' code_def ?k1 ?k2 ?k3 ?k4 ?k5 ?kA ?kF ?kK ?k6 ?k7 ?k8 ?k9 ?kB ?_ ?c2 ?c3 ?c4 ?c5; (case kA => exact rfl); (case kF => exact rfl); (case kK => assumption); (case k1 => k_asm); (case k2 => k_asm); (case k3 => k_asm); (case k4 => k_asm); (case k5 => k_asm); (case k6 => k_is); (case k7 => k_is); (case k8 => ktr_room); (case k9 => exact BindsTo.of_eq rfl); (case c5 => decide); (case kB => exact locs rfl); (case c2 => exact rfl); (case c3 => exact rfl); (case c4 => exact rfl); k_whole; walk_at "e3"; intro g' L' h' FG' F' N' B' X' T'; (try dsimp only); (try k_fold)))
section
local macro_rules | `(tactic| omega) => `(tactic| (first | decide | lia | omega (splitDisjunctions := true)))
section
section
variable {prog : Program} {w : World} {A : Around} {E : Value → Shared → Prop} {s : Shared} {Q : Value → Shared → Prop} {a b c : Value}
theorem max3 (hh : A.handled = none) (ha : NumV a) (hb : NumV b) (hc : NumV c)
    (h : ∀ h' tk, (∀ c o, s.heap.get? c = some o → h'.get? c = some o) →
      Q (if ltV (if ltV a b then b else a) c then c else (if ltV a b then b else a)) { s with heap := h', toks := tk }) :
    wpAny (model prog w) A (call (.builtin "max") [a, b, c]) Q E s := by
  revert prog w A E s Q a b c
  refine (?zh : ∀ prog w A E s Q a b c, (?zP : _ → _ → _ → _ → _ → _ → _ → _ → _ → Prop) prog w A E s Q a b c)
  refine fun prog w A E s Q a b c => allE (P := un2 fun prog => un2 fun w => un2 fun A => un2 fun E => un2 fun s => un2 fun Q => un2 fun a => un2 fun b c => ?zP prog w A E s Q a b c) ?zn ?zk (prog, w, A, E, s, Q, a, b, c)
  case zn => walk_at "ne"
  clear prog w A E s Q a b c
  refine (?zj : AtE _ ?zE)
  refine (?zF : ∀ prog w A E s Q a b c, ?zP prog w A E s Q a b c) ?zE.1 ?zE.2.1 ?zE.2.2.1 ?zE.2.2.2.1 ?zE.2.2.2.2.1 ?zE.2.2.2.2.2.1 ?zE.2.2.2.2.2.2.1 ?zE.2.2.2.2.2.2.2.1 ?zE.2.2.2.2.2.2.2.2
  intros prog w A E s Q a b c
  intro hh ha hb hc h
  have hT : (s.heap.push { cls := .type "tuple", data := .seq #[a, b, c] }).IsTuple s.heap.objs.size #[a, b, c] := ⟨_, Heap.get?_push_size _ rfl, rfl, 0, rfl⟩
  refine call_max_three (wpAny_pyIter_tuple hT ?_)
  have hsz : (s.heap.push { cls := .type "tuple", data := .seq #[a, b, c] }).objs.size = s.heap.objs.size + 1 := Heap.size_push ..
  refine ⟨_, [_, s.heap.objs.size], [_], _, _, _, _, rfl, Walks.tuple (A := A.in1) hh _ s.heap.objs.size (by rw [hsz]; exact Nat.ne_of_lt (Nat.lt_succ_self _)) #[a, b, c],
    ⟨⟨_, Heap.get?_push_size _ rfl, rfl, rfl⟩, hT.push _⟩, fun c hc => ?_, by simp, cmpOf_gt #[a, b, c] (by simp [ha, hb, hc]), fun v h' tk hP hk => ?_⟩
  · show c < ((s.heap.push _).push _).objs.size
    rw [Heap.size_push, hsz]
    rcases List.mem_cons.mp hc with rfl | hc
    · rw [hsz]; exact Nat.lt_succ_self _
    · rcases List.mem_cons.mp hc with rfl | hc
      · exact Nat.lt_succ_of_lt (Nat.lt_succ_self _)
      · cases hc
  · have hold : ∀ c o, s.heap.get? c = some o → h'.get? c = some o := fun c o e => by
      refine hk c o (fun hm => ?_) (Heap.get?_push_of_some _ (Heap.get?_push_of_some _ e))
      rcases List.mem_cons.mp hm with e1 | hm
      · have := Heap.lt_size e; rw [e1, hsz] at this; exact Nat.lt_irrefl _ (Nat.lt_of_succ_lt this)
      · cases hm
    have := h h' tk hold
    have hv : v = if ltV (if ltV a b then b else a) c then c else (if ltV a b then b else a) := by
      cases h1 : ltV a b
      · cases h2 : ltV a c <;> simp [argBest, h1, h2] at hP <;> simp [← hP, h1, h2]
      · cases h2 : ltV b c <;> simp [argBest, h1, h2] at hP <;> simp [← hP, h1, h2]
    rw [hv]; exact this
theorem min3 (hh : A.handled = none) (ha : NumV a) (hb : NumV b) (hc : NumV c)
    (h : ∀ h' tk, (∀ c o, s.heap.get? c = some o → h'.get? c = some o) →
      Q (if ltV c (if ltV b a then b else a) then c else (if ltV b a then b else a)) { s with heap := h', toks := tk }) :
    wpAny (model prog w) A (call (.builtin "min") [a, b, c]) Q E s := by
  revert prog w A E s Q a b c
  refine (?zh : ∀ prog w A E s Q a b c, (?zP : _ → _ → _ → _ → _ → _ → _ → _ → _ → Prop) prog w A E s Q a b c)
  refine fun prog w A E s Q a b c => allE (P := un2 fun prog => un2 fun w => un2 fun A => un2 fun E => un2 fun s => un2 fun Q => un2 fun a => un2 fun b c => ?zP prog w A E s Q a b c) ?zn ?zk (prog, w, A, E, s, Q, a, b, c)
  case zn => walk_at "ne"
  clear prog w A E s Q a b c
  refine (?zj : AtE _ ?zE)
  refine (?zF : ∀ prog w A E s Q a b c, ?zP prog w A E s Q a b c) ?zE.1 ?zE.2.1 ?zE.2.2.1 ?zE.2.2.2.1 ?zE.2.2.2.2.1 ?zE.2.2.2.2.2.1 ?zE.2.2.2.2.2.2.1 ?zE.2.2.2.2.2.2.2.1 ?zE.2.2.2.2.2.2.2.2
  intros prog w A E s Q a b c
  intro hh ha hb hc h
  have hT : (s.heap.push { cls := .type "tuple", data := .seq #[a, b, c] }).IsTuple s.heap.objs.size #[a, b, c] := ⟨_, Heap.get?_push_size _ rfl, rfl, 0, rfl⟩
  refine call_min_three (wpAny_pyIter_tuple hT ?_)
  have hsz : (s.heap.push { cls := .type "tuple", data := .seq #[a, b, c] }).objs.size = s.heap.objs.size + 1 := Heap.size_push ..
  refine ⟨_, [_, s.heap.objs.size], [_], _, _, _, _, rfl, Walks.tuple (A := A.in1) hh _ s.heap.objs.size (by rw [hsz]; exact Nat.ne_of_lt (Nat.lt_succ_self _)) #[a, b, c],
    ⟨⟨_, Heap.get?_push_size _ rfl, rfl, rfl⟩, hT.push _⟩, fun c hc => ?_, by simp, cmpOf_lt #[a, b, c] (by simp [ha, hb, hc]), fun v h' tk hP hk => ?_⟩
  · show c < ((s.heap.push _).push _).objs.size
    rw [Heap.size_push, hsz]
    rcases List.mem_cons.mp hc with rfl | hc
    · rw [hsz]; exact Nat.lt_succ_self _
    · rcases List.mem_cons.mp hc with rfl | hc
      · exact Nat.lt_succ_of_lt (Nat.lt_succ_self _)
      · cases hc
  · have hold : ∀ c o, s.heap.get? c = some o → h'.get? c = some o := fun c o e => by
      refine hk c o (fun hm => ?_) (Heap.get?_push_of_some _ (Heap.get?_push_of_some _ e))
      rcases List.mem_cons.mp hm with e1 | hm
      · have := Heap.lt_size e; rw [e1, hsz] at this; exact Nat.lt_irrefl _ (Nat.lt_of_succ_lt this)
      · cases hm
    have := h h' tk hold
    have hv : v = if ltV c (if ltV b a then b else a) then c else (if ltV b a then b else a) := by
      cases h1 : ltV b a
      · cases h2 : ltV c a <;> simp [argBest, h1, h2] at hP <;> simp [← hP, h1, h2]
      · cases h2 : ltV c b <;> simp [argBest, h1, h2] at hP <;> simp [← hP, h1, h2]
    rw [hv]; exact this
end
noncomputable def fmax2 (x y : UInt64) : UInt64 := if (Float64.cmp x y == some .lt) = true then y else x
noncomputable def fmin2 (x y : UInt64) : UInt64 := if (Float64.cmp y x == some .lt) = true then y else x
section
variable {prog : Program} {w : World} {A : Around} {E : Value → Shared → Prop} {s : Shared} {Q : Value → Shared → Prop} {h₀ : Heap} {L : Addr} {m : Str → Option Value} {news : List (Addr × Obj)}
theorem max3_f {x y z : UInt64} {t u v : Tok} (hh : A.handled = none) (F : Fr h₀ L s.heap m) (N : News h₀ L s.heap news)
    (h : ∀ h' tk t', Fr h₀ L h' m → News h₀ L h' news → Q (.float (fmax2 (fmax2 x y) z) t') { s with heap := h', toks := tk }) :
    wpAny (model prog w) A (call (.builtin "max") [.float x t, .float y u, .float z v]) Q E s := by
  refine max3 hh (.float ..) (.float ..) (.float ..) fun h' tk kp => ?_
  have e : ∃ t', (if ltV (if ltV (.float x t) (.float y u) then Value.float y u else .float x t) (.float z v) then Value.float z v else (if ltV (.float x t) (.float y u) then .float y u else .float x t)) = .float (fmax2 (fmax2 x y) z) t' := by
    by_cases h1 : (Float64.cmp x y == some .lt) = true
    · have e1 : ltV (.float x t) (.float y u) = true := h1
      by_cases h2 : (Float64.cmp y z == some .lt) = true
      · have e2 : ltV (.float y u) (.float z v) = true := h2
        exact ⟨v, by rw [if_pos e1, if_pos e2]; simp only [fmax2, if_pos h1, if_pos h2]⟩
      · have e2 : ¬ ltV (.float y u) (.float z v) = true := h2
        exact ⟨u, by rw [if_pos e1, if_neg e2]; simp only [fmax2, if_pos h1, if_neg h2]⟩
    · have e1 : ¬ ltV (.float x t) (.float y u) = true := h1
      by_cases h2 : (Float64.cmp x z == some .lt) = true
      · have e2 : ltV (.float x t) (.float z v) = true := h2
        exact ⟨v, by rw [if_neg e1, if_pos e2]; simp only [fmax2, if_neg h1, if_pos h2]⟩
      · have e2 : ¬ ltV (.float x t) (.float z v) = true := h2
        exact ⟨t, by rw [if_neg e1, if_neg e2]; simp only [fmax2, if_neg h1, if_neg h2]⟩
  obtain ⟨t', e⟩ := e
  rw [e]; exact h h' tk t' (F.grownK kp) (N.grown kp)
theorem min3_f {x y z : UInt64} {t u v : Tok} (hh : A.handled = none) (F : Fr h₀ L s.heap m) (N : News h₀ L s.heap news)
    (h : ∀ h' tk t', Fr h₀ L h' m → News h₀ L h' news → Q (.float (fmin2 (fmin2 x y) z) t') { s with heap := h', toks := tk }) :
    wpAny (model prog w) A (call (.builtin "min") [.float x t, .float y u, .float z v]) Q E s := by
  refine min3 hh (.float ..) (.float ..) (.float ..) fun h' tk kp => ?_
  have e : ∃ t', (if ltV (.float z v) (if ltV (.float y u) (.float x t) then Value.float y u else .float x t) then Value.float z v else (if ltV (.float y u) (.float x t) then .float y u else .float x t)) = .float (fmin2 (fmin2 x y) z) t' := by
    by_cases h1 : (Float64.cmp y x == some .lt) = true
    · have e1 : ltV (.float y u) (.float x t) = true := h1
      by_cases h2 : (Float64.cmp z y == some .lt) = true
      · have e2 : ltV (.float z v) (.float y u) = true := h2
        exact ⟨v, by rw [if_pos e1, if_pos e2]; simp only [fmin2, if_pos h1, if_pos h2]⟩
      · have e2 : ¬ ltV (.float z v) (.float y u) = true := h2
        exact ⟨u, by rw [if_pos e1, if_neg e2]; simp only [fmin2, if_pos h1, if_neg h2]⟩
    · have e1 : ¬ ltV (.float y u) (.float x t) = true := h1
      by_cases h2 : (Float64.cmp z x == some .lt) = true
      · have e2 : ltV (.float z v) (.float x t) = true := h2
        exact ⟨v, by rw [if_neg e1, if_pos e2]; simp only [fmin2, if_neg h1, if_pos h2]⟩
      · have e2 : ¬ ltV (.float z v) (.float x t) = true := h2
        exact ⟨t, by rw [if_neg e1, if_neg e2]; simp only [fmin2, if_neg h1, if_neg h2]⟩
  obtain ⟨t', e⟩ := e
  rw [e]; exact h h' tk t' (F.grownK kp) (N.grown kp)
theorem max3_i {x y z r : Int} {t u v : Tok} (hh : A.handled = none) (F : Fr h₀ L s.heap m) (N : News h₀ L s.heap news) (hr : r = max (max x y) z)
    (h : ∀ h' tk t', Fr h₀ L h' m → News h₀ L h' news → Q (.int r t') { s with heap := h', toks := tk }) :
    wpAny (model prog w) A (call (.builtin "max") [.int x t, .int y u, .int z v]) Q E s := by
  refine max3 hh (.int ..) (.int ..) (.int ..) fun h' tk kp => ?_
  have e : ∃ t', (if ltV (if ltV (.int x t) (.int y u) then Value.int y u else .int x t) (.int z v) then Value.int z v else (if ltV (.int x t) (.int y u) then .int y u else .int x t)) = .int r t' := by
    subst hr
    by_cases h1 : x < y
    · have e1 : ltV (.int x t) (.int y u) = true := decide_eq_true h1
      by_cases h2 : y < z
      · have e2 : ltV (.int y u) (.int z v) = true := decide_eq_true h2
        exact ⟨v, by rw [if_pos e1, if_pos e2]; congr 1; omega⟩
      · have e2 : ¬ ltV (.int y u) (.int z v) = true := fun e => h2 (of_decide_eq_true e)
        exact ⟨u, by rw [if_pos e1, if_neg e2]; congr 1; omega⟩
    · have e1 : ¬ ltV (.int x t) (.int y u) = true := fun e => h1 (of_decide_eq_true e)
      by_cases h2 : x < z
      · have e2 : ltV (.int x t) (.int z v) = true := decide_eq_true h2
        exact ⟨v, by rw [if_neg e1, if_pos e2]; congr 1; omega⟩
      · have e2 : ¬ ltV (.int x t) (.int z v) = true := fun e => h2 (of_decide_eq_true e)
        exact ⟨t, by rw [if_neg e1, if_neg e2]; congr 1; omega⟩
  obtain ⟨t', e⟩ := e
  rw [e]; exact h h' tk t' (F.grownK kp) (N.grown kp)
theorem min3_i {x y z r : Int} {t u v : Tok} (hh : A.handled = none) (F : Fr h₀ L s.heap m) (N : News h₀ L s.heap news) (hr : r = min (min x y) z)
    (h : ∀ h' tk t', Fr h₀ L h' m → News h₀ L h' news → Q (.int r t') { s with heap := h', toks := tk }) :
    wpAny (model prog w) A (call (.builtin "min") [.int x t, .int y u, .int z v]) Q E s := by
  refine min3 hh (.int ..) (.int ..) (.int ..) fun h' tk kp => ?_
  have e : ∃ t', (if ltV (.int z v) (if ltV (.int y u) (.int x t) then Value.int y u else .int x t) then Value.int z v else (if ltV (.int y u) (.int x t) then .int y u else .int x t)) = .int r t' := by
    subst hr
    by_cases h1 : y < x
    · have e1 : ltV (.int y u) (.int x t) = true := decide_eq_true h1
      by_cases h2 : z < y
      · have e2 : ltV (.int z v) (.int y u) = true := decide_eq_true h2
        exact ⟨v, by rw [if_pos e1, if_pos e2]; congr 1; omega⟩
      · have e2 : ¬ ltV (.int z v) (.int y u) = true := fun e => h2 (of_decide_eq_true e)
        exact ⟨u, by rw [if_pos e1, if_neg e2]; congr 1; omega⟩
    · have e1 : ¬ ltV (.int y u) (.int x t) = true := fun e => h1 (of_decide_eq_true e)
      by_cases h2 : z < x
      · have e2 : ltV (.int z v) (.int x t) = true := decide_eq_true h2
        exact ⟨v, by rw [if_neg e1, if_pos e2]; congr 1; omega⟩
      · have e2 : ¬ ltV (.int z v) (.int x t) = true := fun e => h2 (of_decide_eq_true e)
        exact ⟨t, by rw [if_neg e1, if_neg e2]; congr 1; omega⟩
  obtain ⟨t', e⟩ := e
  rw [e]; exact h h' tk t' (F.grownK kp) (N.grown kp)
end
end
section
noncomputable abbrev tupO (vs : List Value) : Obj := { cls := .type "tuple", data := .seq vs.toArray }
theorem seqIndex_nn {k : Int} {n : Nat} (h0 : 0 ≤ k) (h1 : k < (n : Int)) : seqIndex? k n = some k.toNat := by
  unfold seqIndex?
  have : ¬ k < 0 := by omega
  simp [this, h0, h1]
theorem getD_some {ns : List Int} {k : Int} (h0 : 0 ≤ k) (h1 : k < (ns.length : Int)) : ns[k.toNat]? = some (ns.getD k.toNat 0) := by
  have : k.toNat < ns.length := by omega
  simp [List.getD, this]
section
variable {prog : Program} {w : World} {A : Around} {E : Value → Shared → Prop} {s : Shared} {Q : Value → Shared → Prop} {h₀ : Heap} {L : Addr} {m : Str → Option Value} {news : List (Addr × Obj)}
theorem len_tupN {t : Addr} {vs : List Value} {ns : List Int} (N : News h₀ L s.heap news) (hm : (t, tupO vs) ∈ news) (hi : IntsAre vs ns) (hlen : ns.length ≤ 1000)
    (h : ∀ t' tk, Q (.int (ns.length : Int) t') { s with toks := tk }) : wpAny (model prog w) A (call (.builtin "len") [.ref t]) Q E s := by
  have e : (vs.toArray.size : Int) = (ns.length : Int) := by rw [List.size_toArray, hi.length]
  refine len_tuple (News.isTup N hm) (by rw [e]; omega) ?_
  rw [e]; exact h _ _
theorem item_tupN {value slice : PySem.Expr} {t : Addr} {vs : List Value} {ns : List Int} {k : Int} {u : Tok} (N : News h₀ L s.heap news) (hm : (t, tupO vs) ∈ news) (hi : IntsAre vs ns) (hlen : ns.length ≤ 1000)
    (h0 : 0 ≤ k) (h1 : k < (ns.length : Int)) (hbd : ∀ k, 0 ≤ ns.getD k 0 ∧ ns.getD k 0 ≤ 1000) (h : ∀ t', 0 ≤ ns.getD k.toNat 0 → ns.getD k.toNat 0 ≤ 1000 → Q (.int (ns.getD k.toNat 0) t') s)
    (hs : subscripted slice false (.ref t) (.int k u) = operate [.ref t, .int k u] (getItem (.ref t) (.int k u)) := by with_unfolding_all rfl) :
    wpAny (model prog w) A (subscriptTail value slice (.ref t) (.int k u)) Q E s := by
  obtain ⟨t', e⟩ := hi.get _ _ (getD_some h0 h1)
  exact item_tupleT (News.isTup N hm) (by omega) (by omega) (seqIndex_nn h0 (by rw [hi.length]; exact h1)) e (h t' (hbd _).1 (hbd _).2) hs
end
section
variable {prog : Program} {w : World} {A : Around} {E : Value → Shared → Prop} {s : Shared} {Q : Value → Shared → Prop} {x y : Int} {t u : Tok}
theorem mulR (h1 : -1000000000 ≤ y) (h2 : y ≤ 1000000000) (h : ∀ t' tk, Q (.int (x * y) t') { s with toks := tk }) : wpAny (model prog w) A (binaryOp .Mult (.int x t) (.int y u)) Q E s :=
  PyProof.Rows.mul_int (h _ _) (.of_right (intBits_le_64 (by omega) (by omega)))
theorem mulL (h1 : -1000000000 ≤ x) (h2 : x ≤ 1000000000) (h : ∀ t' tk, Q (.int (x * y) t') { s with toks := tk }) : wpAny (model prog w) A (binaryOp .Mult (.int x t) (.int y u)) Q E s :=
  PyProof.Rows.mul_int (h _ _) (.of_left (intBits_le_64 (by omega) (by omega)))
end
section
variable {prog : Program} {w : World} {A : Around} {E : Value → Shared → Prop} {s : Shared} {Q : Value → Shared → Prop} {h₀ : Heap} {L D : Addr} {m : Str → Option Value} {news news' : List (Addr × Obj)}
theorem append_N {vs : List Value} {n : Nat} {x : Value} (F : Fr h₀ L s.heap m) (N : News h₀ L s.heap news) (U : Upd D (listOf vs.toArray n) (listOf (vs ++ [x]).toArray (n + 1)) news news') (hsz : vs.length ≤ 100000)
    (h : ∀ h', Fr h₀ L h' m → News h₀ L h' news' → Q .none { s with heap := h' }) : wpAny (model prog w) A (call (.builtin "list.append") [.ref D, x]) Q E s := by
  have e : (vs ++ [x]).toArray = vs.toArray.push x := by simp
  rw [e] at U
  exact append_K F N U h (by rw [List.size_toArray]; unfold sizeLine; omega)
end
theorem ne_lt {d : Addr} {l : List (Addr × Obj)} (h : ∀ p ∈ l, p.1 < d) : ∀ p ∈ l, p.1 ≠ d := fun p hp => Nat.ne_of_lt (h p hp)
theorem allLt_mem {d : Addr} {l : List (Addr × Obj)} (h : AllLt d l) : ∀ p ∈ l, p.1 < d := by
  induction l with
  | nil => intro p hp; cases hp
  | cons q r ih =>
    unfold AllLt at h
    intro p hp
    rcases List.mem_cons.mp hp with e | hp
    · rw [e]; exact h.1
    · exact ih h.2 p hp
theorem ne_allLt {d : Addr} {l : List (Addr × Obj)} (h : AllLt d l) : ∀ p ∈ l, p.1 ≠ d := fun p hp => Nat.ne_of_lt (allLt_mem h p hp)
end
end
local macro_rules | `(tactic| k_mem) => `(tactic| first | assumption | ((with_reducible (repeat (first | exact List.mem_cons_self | assumption | refine List.mem_cons_of_mem _ ?_ | refine List.mem_append_right _ ?_))); done) | ((repeat (first | assumption | exact List.Mem.head _ | refine' List.mem_cons_of_mem _ ?_ | refine' List.mem_append_right _ ?_)); done))
local macro_rules | `(tactic| k_all) => `(tactic| first | assumption | exact ne_lt (by assumption) | exact ne_allLt (by assumption) | exact ne_allLt (And.right (by assumption)) | exact ne_allLt (And.right (And.right (by assumption))) | exact ne_allLt (And.right (And.right (And.right (by assumption)))) | exact ne_allLt (And.right (And.right (And.right (And.right (by assumption))))) | exact ne_allLt (And.right (And.right (And.right (And.right (And.right (by assumption)))))) | exact ne_allLt (And.right (And.right (And.right (And.right (And.right (And.right (by assumption))))))))
local macro_rules | `(tactic| k_room) => `(tactic| ktr_room)
section
open PySem PySem.W PyProof.Rows PySem.Flt PySem.Spec
set_option maxHeartbeats 1000000
/-- the turn's end under a loop: the iterator (I, oI) stands, the rest of the ledger is nx -/
inductive EndM (h₀ : Heap) (L : Addr) (J : (Str → Option Value) → List (Addr × Obj) → Array GenState → Prop) (I : Addr) (oI : Obj) (s₁ s₂ : Shared) : Prop where
  | mk (h' : _) (g' : _) (tk : _) (m' : _) (news' : _) (nx : _) (f0 : s₂ = { s₁ with heap := h', gens := g', toks := tk }) (f1 : Fr h₀ L h' m') (f2 : News h₀ L h' news') (f3 : (I, oI) ∈ news') (f4 : ∀ p ∈ nx, p ∈ news') (f5 : ∀ p ∈ nx, p.1 ≠ I) (f6 : J m' nx g') : EndM h₀ L J I oI s₁ s₂
noncomputable def PostM (h₀ : Heap) (L : Addr) (J : (Str → Option Value) → List (Addr × Obj) → Array GenState → Prop) (I : Addr) (oI : Obj) (s₁ : Shared) (Q : Flow → Shared → Prop) (f : Flow) (s₂ : Shared) : Prop :=
  match f with
  | .ret v => Q (.ret v) s₂
  | .brk => Q .next s₂
  | _ => EndM h₀ L J I oI s₁ s₂
noncomputable def Hold (p : Prop) : Prop := p
theorem hold_out {p : Prop} (h : Hold p) : p := h
theorem hold_in {p : Prop} (h : p) : Hold p := h
inductive InvM (h₀ : Heap) (L I : Addr) (n : Nat) (St : Nat → Heap → Prop) (J : Nat → (Str → Option Value) → List (Addr × Obj) → Array GenState → Prop) (s : Shared) (k : Nat) (s' : Shared) : Prop where
  | mk (h' : Heap) (g' : Array GenState) (tk : Nat) (m' : Str → Option Value) (news' : List (Addr × Obj)) (i : Nat) (e : s' = { s with heap := h', gens := g', toks := tk }) (f1 : St i h') (f2 : Fr h₀ L h' m') (f3 : News h₀ L h' news') (f4 : ∀ p ∈ news', p.1 ≠ I) (f5 : J i m' news' g') (f6 : i ≤ n) (f7 : k = n + 1 - i) : InvM h₀ L I n St J s k s'
theorem EndM.intro {h₀ : Heap} {L : Addr} {J : (Str → Option Value) → List (Addr × Obj) → Array GenState → Prop} {I : Addr} {oI : Obj} {s₁ : Shared} {h' : Heap} {g' : Array GenState} {tk : Nat} {m' : Str → Option Value} {news' nx : List (Addr × Obj)}
    (F : Fr h₀ L h' m') (N : News h₀ L h' news') (hI : (I, oI) ∈ news') (hs : ∀ p ∈ nx, p ∈ news') (hn : ∀ p ∈ nx, p.1 ≠ I) (hj : J m' nx g') : EndM h₀ L J I oI s₁ { s₁ with heap := h', gens := g', toks := tk } :=
  ⟨h', g', tk, m', news', nx, rfl, F, N, hI, hs, hn, hj⟩
section
variable {prog : Program} {w : World} {A : Around} {E : Value → Shared → Prop} {s : Shared} {env : Env} {h₀ : Heap} {x : Str} {body orelse : List Stmt} {Q : Flow → Shared → Prop}
theorem loopM {px : Pos} {I : Addr} {n : Nat} {P : Nat → Value → Prop} {St : Nat → Heap → Prop} {m₀ : Str → Option Value} {news : List (Addr × Obj)} {R : Result → Shared → Prop}
    (J : Nat → (Str → Option Value) → List (Addr × Obj) → Array GenState → Prop)
    (W : Walks prog w A I [I] [I] n P St) (hx : env.kindOf x = some .local)
    (hp : (env.scope.kind == .class || (env.scope.kind == .module && env.locals != env.globals)) = false)
    (hIo : ∀ i h, St i h → ∃ o, h.get? I = some o) (hLI : env.locals ≠ I) (hI0 : h₀.get? I = none) (hnw : ∀ p ∈ news, p.1 ≠ I) (hst : St 0 s.heap) (F : Fr h₀ env.locals s.heap m₀) (N : News h₀ env.locals s.heap news) (hj : J 0 m₀ news s.gens)
    (turn : ∀ i v m₁ news₁ h g tk oI, i < n → P i v → (∀ p ∈ news₁, p.1 ≠ I) → J i m₁ news₁ g → Fr h₀ env.locals h (fun y => if y = x then some v else m₁ y) → News h₀ env.locals h ((I, oI) :: news₁) →
      wpAny (model prog w) A (execs body env) (PostM h₀ env.locals (J (i + 1)) I oI { s with heap := h, gens := g, toks := tk } (fun f s' => R (.ok f) s')) (notedBy (model prog w) A env fun e s' => R (.error e) s') { s with heap := h, gens := g, toks := tk })
    (done : ∀ m₁ news₁ h g tk, J n m₁ news₁ g → Fr h₀ env.locals h m₁ → News h₀ env.locals h news₁ →
      wpAny (model prog w) A (execs orelse env) (fun f s₃ => R (.ok f) s₃) (notedBy (model prog w) A env fun e s' => R (.error e) s') { s with heap := h, gens := g, toks := tk }) :
    codeAny (model prog w) A (.forLoop (.Name x px) (.ref I) body orelse env) R s := by
  revert prog w A s env h₀ x body orelse px I n P St m₀ news R J
  refine (?zh : ∀ prog w A s env h₀ x body orelse px I n P St m₀ news R J, (?zP : _ → _ → _ → _ → _ → _ → _ → _ → _ → _ → _ → _ → _ → _ → _ → _ → _ → _ → Prop) prog w A s env h₀ x body orelse px I n P St m₀ news R J)
  refine fun prog w A s env h₀ x body orelse px I n P St m₀ news R J => allE (P := un2 fun prog => un2 fun w => un2 fun A => un2 fun s => un2 fun env => un2 fun h₀ => un2 fun x => un2 fun body => un2 fun orelse => un2 fun px => un2 fun I => un2 fun n => un2 fun P => un2 fun St => un2 fun m₀ => un2 fun news => un2 fun R J => ?zP prog w A s env h₀ x body orelse px I n P St m₀ news R J) ?zn ?zk (prog, w, A, s, env, h₀, x, body, orelse, px, I, n, P, St, m₀, news, R, J)
  case zn => walk_at "ne"
  clear prog w A s env h₀ x body orelse px I n P St m₀ news R J
  refine (?zj : AtE _ ?zE)
  refine (?zF : ∀ prog w A s env h₀ x body orelse px I n P St m₀ news R J, ?zP prog w A s env h₀ x body orelse px I n P St m₀ news R J) ?zE.1 ?zE.2.1 ?zE.2.2.1 ?zE.2.2.2.1 ?zE.2.2.2.2.1 ?zE.2.2.2.2.2.1 ?zE.2.2.2.2.2.2.1 ?zE.2.2.2.2.2.2.2.1 ?zE.2.2.2.2.2.2.2.2.1 ?zE.2.2.2.2.2.2.2.2.2.1 ?zE.2.2.2.2.2.2.2.2.2.2.1 ?zE.2.2.2.2.2.2.2.2.2.2.2.1 ?zE.2.2.2.2.2.2.2.2.2.2.2.2.1 ?zE.2.2.2.2.2.2.2.2.2.2.2.2.2.1 ?zE.2.2.2.2.2.2.2.2.2.2.2.2.2.2.1 ?zE.2.2.2.2.2.2.2.2.2.2.2.2.2.2.2.1 ?zE.2.2.2.2.2.2.2.2.2.2.2.2.2.2.2.2.1 ?zE.2.2.2.2.2.2.2.2.2.2.2.2.2.2.2.2.2
  intros prog w A s env h₀ x body orelse px I n P St m₀ news R J
  intro W hx hp hIo hLI hI0 hnw hst F N hj turn done
  have old : ∀ b o, h₀.get? b = some o → b ≠ I := fun b o e hb => by rw [hb, hI0] at e; cases e
  refine codeAny_forLoop
    (InvM h₀ env.locals I n St J s) ?_ (n + 1)
    ⟨s.heap, s.gens, s.toks, m₀, news, 0, rfl, hst, F, N, hnw, hj, Nat.zero_le _, rfl⟩
  rintro k s' ⟨h', g', tk, m', news', i, rfl, hst', F', N', hnw', hJ, hi, rfl⟩
  have next : ∀ h₁ : Heap, (∀ b o, b ∉ [I] → h'.get? b = some o → h₁.get? b = some o) → Fr h₀ env.locals h₁ m' ∧ News h₀ env.locals h₁ news' := fun h₁ hk₁ =>
    ⟨⟨F'.ns.at' fun o e => hk₁ _ o (by simpa using hLI) e, fun b o e => hk₁ b o (by simpa using old b o e) (F'.keep b o e), F'.above⟩, fun p hp => ⟨hk₁ _ _ (by simpa using hnw' p hp) (N' p hp).1, (N' p hp).2⟩⟩
  by_cases hlt : i < n
  · refine W.item i _ _ _ hlt hst' fun v h₁ tk₁ hP hst₁ hk₁ => ?_
    obtain ⟨F₁, N₁⟩ := next h₁ hk₁
    refine wpAny_assign_Name (wpAny_storeName_local hx F₁.ns (fun h₂ hn₂ hs₂ => ?_) hp)
    have F₂ := F₁.set hn₂ hs₂
    have hst₂ : St (i + 1) h₂ := W.frame _ _ _ hst₁ fun b hb o e => (hs₂.2 b fun q => hLI (by rw [← q]; exact (List.mem_singleton.mp hb))).trans e
    obtain ⟨oI, hoI⟩ := hIo _ _ hst₂
    · have Nown : News h₀ env.locals h₂ ((I, oI) :: news') := by
        intro p hp
        rcases List.mem_cons.mp hp with rfl | hp
        · exact ⟨hoI, fun e => hLI e.symm, hI0⟩
        · exact (N₁.set hs₂) p hp
      refine wpAny_mono (turn i v m' news' h₂ g' _ oI hlt hP hnw' hJ F₂ Nown) (fun f s₃ h₃ => ?_) fun _ _ e => e
      have fin : EndM h₀ env.locals (J (i + 1)) I oI { s with heap := h₂, gens := g', toks := tk₁ + 1 } s₃ → ∃ m, m < n + 1 - i ∧ InvM h₀ env.locals I n St J s m s₃ := by
        rintro ⟨h₃', g₃, tk₃, m₂, nw, nx, rfl, F₃, N₃, hI₃, hs₃, hn₃, hJ₃⟩
        refine ⟨n + 1 - (i + 1), by omega, h₃', g₃, tk₃, m₂, nx, i + 1, rfl, ?_, F₃, fun p hp => N₃ p (hs₃ p hp), hn₃, hJ₃, hlt, rfl⟩
        refine W.frame _ _ _ hst₂ fun b hb o e => ?_
        rw [List.mem_singleton.mp hb] at e ⊢
        rw [hoI] at e; cases e
        exact (N₃ _ hI₃).1
      cases f with
      | ret v => exact h₃
      | brk => exact h₃
      | cont => exact fin h₃
      | next => exact fin h₃
  · have hin : i = n := by omega
    subst hin
    refine W.done _ _ _ hst' fun h₁ tk₁ hk₁ => ?_
    obtain ⟨F₁, N₁⟩ := next h₁ hk₁
    exact done m' news' h₁ g' tk₁ hJ F₁ N₁

/-- a for over a range, by an invariant over the turn's number, the frame's map, the ledger, the generators -/
theorem For_range {px pos : Pos} {iter : PySem.Expr} {m : Str → Option Value} (_F0 : Fr h₀ env.locals s.heap m) (J : Nat → (Str → Option Value) → List (Addr × Obj) → Array GenState → Prop)
    (hx : env.kindOf x = some .local) (hp : (env.scope.kind == .class || (env.scope.kind == .module && env.locals != env.globals)) = false) (hh : A.handled = none)
    (h : wpAny (model prog w) A (eval iter env) (fun xv s₁ => ∃ r a₀ b₀ t₀ u₀ v₀ m₀ news, xv = .ref r ∧ IsRange s₁.heap r a₀ b₀ 1 t₀ u₀ v₀ ∧ (-(2 ^ 60) ≤ a₀ ∧ a₀ < 2 ^ 60 ∧ -(2 ^ 60) ≤ b₀ ∧ b₀ < 2 ^ 60) ∧ Fr h₀ env.locals s₁.heap m₀ ∧ News h₀ env.locals s₁.heap news ∧ J 0 m₀ news s₁.gens ∧
      (∀ i t m₁ news₁ h g tk I oI, i < (b₀ - a₀).toNat → (∀ p ∈ news, p.1 < I) → (∀ p ∈ news₁, p.1 ≠ I) → J i m₁ news₁ g → Fr h₀ env.locals h (fun y => if y = x then some (.int (a₀ + (i : Int)) t) else m₁ y) → News h₀ env.locals h ((I, oI) :: news₁) →
        wpAny (model prog w) A (execs body env) (PostM h₀ env.locals (J (i + 1)) I oI { s₁ with heap := h, gens := g, toks := tk } Q) E { s₁ with heap := h, gens := g, toks := tk }) ∧
      (∀ m₁ news₁ h g tk, J (b₀ - a₀).toNat m₁ news₁ g → Fr h₀ env.locals h m₁ → News h₀ env.locals h news₁ →
        wpAny (model prog w) A (execs orelse env) Q E { s₁ with heap := h, gens := g, toks := tk })) E s)
    (hs : ∀ x, foldedSetIterable iter env x = pure x := by intro _; rfl)
    (hE : PassesOwn (model prog w) A env E := by passes_own) :
    wpAny (model prog w) A (exec (.For (.Name x px) iter body orelse pos) env) Q E s := by
  revert _F0 hx hp hh h hs hE
  revert prog w A E s env h₀ x body orelse Q px pos iter m J
  refine (?zh : ∀ prog w A E s env h₀ x body orelse Q px pos iter m J, (?zP : _ → _ → _ → _ → _ → _ → _ → _ → _ → _ → _ → _ → _ → _ → _ → _ → Prop) prog w A E s env h₀ x body orelse Q px pos iter m J)
  refine fun prog w A E s env h₀ x body orelse Q px pos iter m J => allE (P := un2 fun prog => un2 fun w => un2 fun A => un2 fun E => un2 fun s => un2 fun env => un2 fun h₀ => un2 fun x => un2 fun body => un2 fun orelse => un2 fun Q => un2 fun px => un2 fun pos => un2 fun iter => un2 fun m J => ?zP prog w A E s env h₀ x body orelse Q px pos iter m J) ?zn ?zk (prog, w, A, E, s, env, h₀, x, body, orelse, Q, px, pos, iter, m, J)
  case zn => walk_at "ne"
  clear prog w A E s env h₀ x body orelse Q px pos iter m J
  refine (?zj : AtE _ ?zE)
  refine (?zF : ∀ prog w A E s env h₀ x body orelse Q px pos iter m J, ?zP prog w A E s env h₀ x body orelse Q px pos iter m J) ?zE.1 ?zE.2.1 ?zE.2.2.1 ?zE.2.2.2.1 ?zE.2.2.2.2.1 ?zE.2.2.2.2.2.1 ?zE.2.2.2.2.2.2.1 ?zE.2.2.2.2.2.2.2.1 ?zE.2.2.2.2.2.2.2.2.1 ?zE.2.2.2.2.2.2.2.2.2.1 ?zE.2.2.2.2.2.2.2.2.2.2.1 ?zE.2.2.2.2.2.2.2.2.2.2.2.1 ?zE.2.2.2.2.2.2.2.2.2.2.2.2.1 ?zE.2.2.2.2.2.2.2.2.2.2.2.2.2.1 ?zE.2.2.2.2.2.2.2.2.2.2.2.2.2.2.1 ?zE.2.2.2.2.2.2.2.2.2.2.2.2.2.2.2
  intros prog w A E s env h₀ x body orelse Q px pos iter m J
  intro _F0 hx hp hh h hs hE
  refine wpAny_For (wpAny_mono h (fun xv s₁ h₁ => ?_) fun _ _ e => e) hs
  obtain ⟨r, a₀, b₀, t₀, u₀, v₀, m₀, news, rfl, hr, ⟨hb1, hb2, hb3, hb4⟩, F, N, hj, turn, done⟩ := h₁
  refine wpAny_pyIter_range hr (small_one (by omega) (by omega) (by omega) (by omega)) ?_
  have hn : Builtin.Range.rangeSize a₀ b₀ 1 = ((b₀ - a₀).toNat : Int) := rangeSize_nat _ _
  refine loopM (h₀ := h₀) (m₀ := m₀) (news := news) (n := (b₀ - a₀).toNat) J (Walks.range hh s₁.heap.objs.size a₀ 1 (b₀ - a₀).toNat) hx hp (fun i h e => ⟨_, e⟩) ?_ ?_ ?_ ?_ (F.push _) (fun p hp => ⟨Heap.get?_push_of_some _ (N p hp).1, (N p hp).2⟩) hj ?_ ?_
  · exact Nat.ne_of_lt F.ns.lt
  · exact next_is_new F
  · exact fun p hp => Nat.ne_of_lt (Heap.lt_size (N p hp).1)
  · show IsRangeIter _ _ _ _ _
    rw [hn]; simpa using Heap.get?_push_size _ rfl
  · rintro i v m₁ news₁ h g tk oI hi ⟨t, rfl⟩ hne hJ F₁ N₁
    refine wpAny_passesOwn hE ?_
    have := turn i t m₁ news₁ h g tk s₁.heap.objs.size oI hi (fun p hp => Heap.lt_size (N p hp).1) hne hJ (by simpa using F₁) N₁
    exact this
  · intro m₁ news₁ h g tk hJ F₁ N₁
    exact wpAny_passesOwn hE (done m₁ news₁ h g tk hJ F₁ N₁)
end
noncomputable def upd : List (Str × Value) → (Str → Option Value) → Str → Option Value
  | [], m, z => m z
  | (x, v) :: r, m, z => if z = x then some v else upd r m z
noncomputable def JR (m₀ : Str → Option Value) (x : Str) (tmp : List Str) (R : List (Str × Value) → List (Addr × Obj) → Array GenState → Prop) (m : Str → Option Value) (nx : List (Addr × Obj)) (g : Array GenState) : Prop :=
  ∃ ps, R ps nx g ∧ ∀ z, z ≠ x → tmp.contains z = false → m z = upd ps m₀ z
theorem JR.map {m₀ : Str → Option Value} {x : Str} {tmp : List Str} {ps : List (Str × Value)} {m : Str → Option Value} (v : Option Value) (h : ∀ z, z ≠ x → tmp.contains z = false → m z = upd ps m₀ z) :
    (fun y => if y = x then v else m y) = fun y => if y = x then v else if tmp.contains y = true then m y else upd ps m₀ y := by
  funext z
  by_cases h1 : z = x
  · simp [h1]
  · simp only [if_neg h1]
    cases h2 : tmp.contains z with
    | true => simp
    | false => simp only [Bool.false_eq_true, if_false]; exact h z h1 h2
theorem JR.done {m₀ : Str → Option Value} {x : Str} {tmp : List Str} {ps : List (Str × Value)} {m : Str → Option Value} (h : ∀ z, z ≠ x → tmp.contains z = false → m z = upd ps m₀ z) :
    m = fun y => if y = x then m y else if tmp.contains y = true then m y else upd ps m₀ y := by
  funext z
  by_cases h1 : z = x
  · simp [h1]
  · simp only [if_neg h1]
    cases h2 : tmp.contains z with
    | true => simp
    | false => simp only [Bool.false_eq_true, if_false]; exact h z h1 h2
inductive RngAt (prog : Program) (w : World) (A : Around) (env : Env) (h₀ : Heap) (x : Str) (body orelse : List Stmt) (Q : Flow → Shared → Prop) (E : Value → Shared → Prop) (m₀ : Str → Option Value) (tmp : List Str) (R : Nat → List (Str × Value) → List (Addr × Obj) → Array GenState → Prop) (xv : Value) (s₁ : Shared) : Prop where
  | mk (r : _) (a₀ : _) (b₀ : _) (t₀ : _) (u₀ : _) (v₀ : _) (news : _) (ps₀ : _) (f0 : xv = .ref r) (f1 : IsRange s₁.heap r a₀ b₀ 1 t₀ u₀ v₀) (f2 : -(2 ^ 60) ≤ a₀ ∧ a₀ < 2 ^ 60 ∧ -(2 ^ 60) ≤ b₀ ∧ b₀ < 2 ^ 60) (f3 : Fr h₀ env.locals s₁.heap m₀) (f4 : News h₀ env.locals s₁.heap news) (f5 : R 0 ps₀ news s₁.gens) (f6 : ∀ z, z ≠ x → tmp.contains z = false → m₀ z = upd ps₀ m₀ z) (f7 : ∀ i t ps nx (u : Str → Option Value) h g tk I oI, i < (b₀ - a₀).toNat → (∀ p ∈ news, p.1 < I) → (∀ p ∈ nx, p.1 ≠ I) → R i ps nx g → Fr h₀ env.locals h (fun y => if y = x then some (.int (a₀ + (i : Int)) t) else if tmp.contains y = true then u y else upd ps m₀ y) → News h₀ env.locals h ((I, oI) :: nx) →
        wpAny (model prog w) A (execs body env) (PostM h₀ env.locals (JR m₀ x tmp (R (i + 1))) I oI { s₁ with heap := h, gens := g, toks := tk } Q) E { s₁ with heap := h, gens := g, toks := tk }) (f8 : ∀ ps nx (u : Str → Option Value) h g tk, R (b₀ - a₀).toNat ps nx g → Fr h₀ env.locals h (fun y => if y = x then u y else if tmp.contains y = true then u y else upd ps m₀ y) → News h₀ env.locals h nx →
        wpAny (model prog w) A (execs orelse env) Q E { s₁ with heap := h, gens := g, toks := tk }) : RngAt prog w A env h₀ x body orelse Q E m₀ tmp R xv s₁
section
variable {prog : Program} {w : World} {A : Around} {E : Value → Shared → Prop} {s : Shared} {env : Env} {h₀ : Heap} {x : Str} {body orelse : List Stmt} {Q : Flow → Shared → Prop}
theorem For_rng {px pos : Pos} {iter : PySem.Expr} {m₀ : Str → Option Value} (F0 : Fr h₀ env.locals s.heap m₀) (tmp : List Str) (R : Nat → List (Str × Value) → List (Addr × Obj) → Array GenState → Prop)
    (hx : env.kindOf x = some .local) (hp : (env.scope.kind == .class || (env.scope.kind == .module && env.locals != env.globals)) = false) (hh : A.handled = none)
    (h : wpAny (model prog w) A (eval iter env) (fun xv s₁ => RngAt prog w A env h₀ x body orelse Q E m₀ tmp R xv s₁) E s)
    (hs : ∀ x, foldedSetIterable iter env x = pure x := by intro _; rfl)
    (hE : PassesOwn (model prog w) A env E := by passes_own) :
    wpAny (model prog w) A (exec (.For (.Name x px) iter body orelse pos) env) Q E s := by
  revert F0 hx hp hh h hs hE
  revert prog w A E s env h₀ x body orelse Q px pos iter m₀ tmp R
  refine (?zh : ∀ prog w A E s env h₀ x body orelse Q px pos iter m₀ tmp R, (?zP : _ → _ → _ → _ → _ → _ → _ → _ → _ → _ → _ → _ → _ → _ → _ → _ → _ → Prop) prog w A E s env h₀ x body orelse Q px pos iter m₀ tmp R)
  refine fun prog w A E s env h₀ x body orelse Q px pos iter m₀ tmp R => allE (P := un2 fun prog => un2 fun w => un2 fun A => un2 fun E => un2 fun s => un2 fun env => un2 fun h₀ => un2 fun x => un2 fun body => un2 fun orelse => un2 fun Q => un2 fun px => un2 fun pos => un2 fun iter => un2 fun m₀ => un2 fun tmp R => ?zP prog w A E s env h₀ x body orelse Q px pos iter m₀ tmp R) ?zn ?zk (prog, w, A, E, s, env, h₀, x, body, orelse, Q, px, pos, iter, m₀, tmp, R)
  case zn => walk_at "ne"
  clear prog w A E s env h₀ x body orelse Q px pos iter m₀ tmp R
  refine (?zj : AtE _ ?zE)
  refine (?zF : ∀ prog w A E s env h₀ x body orelse Q px pos iter m₀ tmp R, ?zP prog w A E s env h₀ x body orelse Q px pos iter m₀ tmp R) ?zE.1 ?zE.2.1 ?zE.2.2.1 ?zE.2.2.2.1 ?zE.2.2.2.2.1 ?zE.2.2.2.2.2.1 ?zE.2.2.2.2.2.2.1 ?zE.2.2.2.2.2.2.2.1 ?zE.2.2.2.2.2.2.2.2.1 ?zE.2.2.2.2.2.2.2.2.2.1 ?zE.2.2.2.2.2.2.2.2.2.2.1 ?zE.2.2.2.2.2.2.2.2.2.2.2.1 ?zE.2.2.2.2.2.2.2.2.2.2.2.2.1 ?zE.2.2.2.2.2.2.2.2.2.2.2.2.2.1 ?zE.2.2.2.2.2.2.2.2.2.2.2.2.2.2.1 ?zE.2.2.2.2.2.2.2.2.2.2.2.2.2.2.2.1 ?zE.2.2.2.2.2.2.2.2.2.2.2.2.2.2.2.2
  intros prog w A E s env h₀ x body orelse Q px pos iter m₀ tmp R
  intro F0 hx hp hh h hs hE
  refine For_range F0 (fun i => JR m₀ x tmp (R i)) hx hp hh (wpAny_mono h (fun xv s₁ h₁ => ?_) fun _ _ e => e) hs hE
  obtain ⟨r, a₀, b₀, t₀, u₀, v₀, news, ps₀, rfl, hr, hb, F, N, hj, hz, turn, done⟩ := h₁
  refine ⟨r, a₀, b₀, t₀, u₀, v₀, m₀, news, rfl, hr, hb, F, N, ⟨ps₀, hj, hz⟩, ?_, ?_⟩
  · rintro i t m₁ nx h g tk I oI hi hlt hne ⟨ps, hR, hm⟩ F₁ N₁
    rw [JR.map _ hm] at F₁
    exact turn i t ps nx m₁ h g tk I oI hi hlt hne hR F₁ N₁
  · rintro m₁ nx h g tk ⟨ps, hR, hm⟩ F₁ N₁
    rw [JR.done hm] at F₁
    exact done ps nx m₁ h g tk hR F₁ N₁
end
noncomputable def AllM (m₀ : Str → Option Value) : List (Str × Value) → Prop
  | [] => True
  | (x, v) :: r => m₀ x = some v ∧ AllM m₀ r
theorem AllM.upd {m₀ : Str → Option Value} {ps : List (Str × Value)} (h : AllM m₀ ps) (z : Str) : m₀ z = Mine.upd ps m₀ z := by
  induction ps with
  | nil => rfl
  | cons p r ih =>
    obtain ⟨x, v⟩ := p
    unfold AllM at h
    unfold Mine.upd
    by_cases e : z = x
    · rw [if_pos e, e]; exact h.1
    · rw [if_neg e]; exact ih h.2
section
variable {prog : Program} {w : World} {A : Around} {E : Value → Shared → Prop} {s₁ : Shared} {env : Env} {h₀ : Heap} {x : Str} {body orelse : List Stmt} {Q : Flow → Shared → Prop}
theorem rng_intro {R : Nat → List (Str × Value) → List (Addr × Obj) → Array GenState → Prop} {tmp : List Str} {r : Addr} {a₀ b₀ : Int} {t₀ u₀ v₀ : Tok} {m₀ : Str → Option Value} {news : List (Addr × Obj)} {ps₀ : List (Str × Value)}
    (hr : IsRange s₁.heap r a₀ b₀ 1 t₀ u₀ v₀) (F : Fr h₀ env.locals s₁.heap m₀) (N : News h₀ env.locals s₁.heap news) (hz : AllM m₀ ps₀) (hb : -(2 ^ 60) ≤ a₀ ∧ a₀ < 2 ^ 60 ∧ -(2 ^ 60) ≤ b₀ ∧ b₀ < 2 ^ 60) (hR : R 0 ps₀ news s₁.gens)
    (turn : ∀ i t ps nx (u : Str → Option Value) h g tk I oI, i < (b₀ - a₀).toNat → (∀ p ∈ news, p.1 < I) → (∀ p ∈ nx, p.1 ≠ I) → R i ps nx g → Fr h₀ env.locals h (fun y => if y = x then some (.int (a₀ + (i : Int)) t) else if tmp.contains y = true then u y else upd ps m₀ y) → News h₀ env.locals h ((I, oI) :: nx) →
        wpAny (model prog w) A (execs body env) (PostM h₀ env.locals (JR m₀ x tmp (R (i + 1))) I oI { s₁ with heap := h, gens := g, toks := tk } Q) E { s₁ with heap := h, gens := g, toks := tk })
    (done : ∀ ps nx (u : Str → Option Value) h g tk, R (b₀ - a₀).toNat ps nx g → Fr h₀ env.locals h (fun y => if y = x then u y else if tmp.contains y = true then u y else upd ps m₀ y) → News h₀ env.locals h nx →
        wpAny (model prog w) A (execs orelse env) Q E { s₁ with heap := h, gens := g, toks := tk }) :
    RngAt prog w A env h₀ x body orelse Q E m₀ tmp R (.ref r) s₁ :=
  ⟨r, a₀, b₀, t₀, u₀, v₀, news, ps₀, rfl, hr, hb, F, N, hR, fun z _ _ => hz.upd z, turn, done⟩
theorem rng_intro1 {R : Nat → List (Str × Value) → List (Addr × Obj) → Array GenState → Prop} {tmp : List Str} {r : Addr} {a₀ b₀ : Int} {t₀ u₀ v₀ : Tok} {m₀ : Str → Option Value} {news : List (Addr × Obj)} (y1 : Str) {v1 : Value}
    (hr : IsRange s₁.heap r a₀ b₀ 1 t₀ u₀ v₀) (F : Fr h₀ env.locals s₁.heap m₀) (N : News h₀ env.locals s₁.heap news) (hz1 : m₀ y1 = some v1) (hb : -(2 ^ 60) ≤ a₀ ∧ a₀ < 2 ^ 60 ∧ -(2 ^ 60) ≤ b₀ ∧ b₀ < 2 ^ 60) (hR : R 0 [(y1, v1)] news s₁.gens)
    (turn : ∀ i t ps nx (u : Str → Option Value) h g tk I oI, i < (b₀ - a₀).toNat → (∀ p ∈ news, p.1 < I) → (∀ p ∈ nx, p.1 ≠ I) → R i ps nx g → Fr h₀ env.locals h (fun y => if y = x then some (.int (a₀ + (i : Int)) t) else if tmp.contains y = true then u y else upd ps m₀ y) → News h₀ env.locals h ((I, oI) :: nx) →
        wpAny (model prog w) A (execs body env) (PostM h₀ env.locals (JR m₀ x tmp (R (i + 1))) I oI { s₁ with heap := h, gens := g, toks := tk } Q) E { s₁ with heap := h, gens := g, toks := tk })
    (done : ∀ ps nx (u : Str → Option Value) h g tk, R (b₀ - a₀).toNat ps nx g → Fr h₀ env.locals h (fun y => if y = x then u y else if tmp.contains y = true then u y else upd ps m₀ y) → News h₀ env.locals h nx →
        wpAny (model prog w) A (execs orelse env) Q E { s₁ with heap := h, gens := g, toks := tk }) :
    RngAt prog w A env h₀ x body orelse Q E m₀ tmp R (.ref r) s₁ :=
  rng_intro hr F N (ps₀ := [(y1, v1)]) ⟨hz1, True.intro⟩ hb hR turn done
theorem end_intro {m₀ : Str → Option Value} {tmp : List Str} {R : List (Str × Value) → List (Addr × Obj) → Array GenState → Prop} {L I : Addr} {oI : Obj} {h' : Heap} {g' : Array GenState} {tk : Nat} {m' : Str → Option Value} {news' nx : List (Addr × Obj)} {ps : List (Str × Value)}
    (F : Fr h₀ L h' m') (N : News h₀ L h' news') (hI : (I, oI) ∈ news') (hm : ∀ z, z ≠ x → tmp.contains z = false → m' z = upd ps m₀ z) (hj : R ps nx g') (hs : ∀ p ∈ nx, p ∈ news') (hn : ∀ p ∈ nx, p.1 ≠ I) :
    EndM h₀ L (JR m₀ x tmp R) I oI s₁ { s₁ with heap := h', gens := g', toks := tk } := EndM.intro F N hI hs hn ⟨ps, hj, hm⟩
theorem end_intro0 {m₀ : Str → Option Value} {tmp : List Str} {R : List (Str × Value) → List (Addr × Obj) → Array GenState → Prop} {L I : Addr} {oI : Obj} {h' : Heap} {g' : Array GenState} {tk : Nat} {m' : Str → Option Value} {news' nx : List (Addr × Obj)}  
    (F : Fr h₀ L h' m') (N : News h₀ L h' news') (hI : (I, oI) ∈ news')  (ho : ∀ z, z ≠ x → tmp.contains z = false → m' z = m₀ z) (hj : R [] nx g') (hs : ∀ p ∈ nx, p ∈ news') (hn : ∀ p ∈ nx, p.1 ≠ I) :
    EndM h₀ L (JR m₀ x tmp R) I oI s₁ { s₁ with heap := h', gens := g', toks := tk } := by
  refine end_intro (ps := []) F N hI (fun z hx ht => ?_) hj hs hn
  simp only [upd]
  exact ho z hx ht 
theorem end_intro1 {m₀ : Str → Option Value} {tmp : List Str} {R : List (Str × Value) → List (Addr × Obj) → Array GenState → Prop} {L I : Addr} {oI : Obj} {h' : Heap} {g' : Array GenState} {tk : Nat} {m' : Str → Option Value} {news' nx : List (Addr × Obj)} (y1 : Str) {v1 : Value}
    (F : Fr h₀ L h' m') (N : News h₀ L h' news') (hI : (I, oI) ∈ news') (h1 : m' y1 = some v1) (ho : ∀ z, z ≠ x → tmp.contains z = false → z ≠ y1 → m' z = m₀ z) (hj : R [(y1, v1)] nx g') (hs : ∀ p ∈ nx, p ∈ news') (hn : ∀ p ∈ nx, p.1 ≠ I) :
    EndM h₀ L (JR m₀ x tmp R) I oI s₁ { s₁ with heap := h', gens := g', toks := tk } := by
  refine end_intro (ps := [(y1, v1)]) F N hI (fun z hx ht => ?_) hj hs hn
  simp only [upd]
  by_cases e1 : z = y1
  · rw [if_pos e1, e1]; exact h1
  rw [if_neg e1]
  exact ho z hx ht e1
theorem end_intro4 {m₀ : Str → Option Value} {tmp : List Str} {R : List (Str × Value) → List (Addr × Obj) → Array GenState → Prop} {L I : Addr} {oI : Obj} {h' : Heap} {g' : Array GenState} {tk : Nat} {m' : Str → Option Value} {news' nx : List (Addr × Obj)} (y1 : Str) (y2 : Str) (y3 : Str) (y4 : Str) {v1 : Value} {v2 : Value} {v3 : Value} {v4 : Value}
    (F : Fr h₀ L h' m') (N : News h₀ L h' news') (hI : (I, oI) ∈ news') (h1 : m' y1 = some v1) (h2 : m' y2 = some v2) (h3 : m' y3 = some v3) (h4 : m' y4 = some v4) (ho : ∀ z, z ≠ x → tmp.contains z = false → z ≠ y1 → z ≠ y2 → z ≠ y3 → z ≠ y4 → m' z = m₀ z) (hj : R [(y1, v1), (y2, v2), (y3, v3), (y4, v4)] nx g') (hs : ∀ p ∈ nx, p ∈ news') (hn : ∀ p ∈ nx, p.1 ≠ I) :
    EndM h₀ L (JR m₀ x tmp R) I oI s₁ { s₁ with heap := h', gens := g', toks := tk } := by
  refine end_intro (ps := [(y1, v1), (y2, v2), (y3, v3), (y4, v4)]) F N hI (fun z hx ht => ?_) hj hs hn
  simp only [upd]
  by_cases e1 : z = y1
  · rw [if_pos e1, e1]; exact h1
  rw [if_neg e1]
  by_cases e2 : z = y2
  · rw [if_pos e2, e2]; exact h2
  rw [if_neg e2]
  by_cases e3 : z = y3
  · rw [if_pos e3, e3]; exact h3
  rw [if_neg e3]
  by_cases e4 : z = y4
  · rw [if_pos e4, e4]; exact h4
  rw [if_neg e4]
  exact ho z hx ht e1 e2 e3 e4
end
end
section
open PySem PySem.W PyProof.Rows PySem.Flt PySem.Spec
set_option maxHeartbeats 1000000
theorem ints_dat {news : List (Addr × Obj)} {vs : List Value} {ns : List Int} (h : IntsAre vs ns) : DatAll news vs (ns.map Dat.int) := by
  induction h with
  | nil => exact .nil
  | cons n t _ ih => exact .cons (.int n t) ih
theorem shaped_dat {d : Dat} (h : kqdOk 8 d = true) : PySem.SeqAt.shaped (kqdP d) = true := by
  have l := kqd_lay 8 d h
  unfold PySem.SeqAt.shaped
  rw [l.1, Bool.true_and]; exact decide_eq_true (Nat.le_trans l.2 (by decide))
section
variable {prog : Program} {w : World} {A : Around} {E : Value → Shared → Prop} {s : Shared} {Q : Value → Shared → Prop} {h₀ : Heap} {L : Addr} {news : List (Addr × Obj)} {u v : Value} {d e : Dat}
open Classical in
theorem eqv_dat (ha : kqdOk 8 d = true) (hb : kqdOk 8 e = true) : PyData.eqv (kqdP d) (kqdP e) = decide (d = e) := by
  have q := kqd_eqv 8 d e 8 ha hb
  by_cases hq : d = e
  · rw [decide_eq_true hq]; exact q.mpr hq
  · rw [decide_eq_false hq]; exact Bool.eq_false_iff.mpr fun x => hq (q.mp x)
open Classical in
theorem eq_dat (N : News h₀ L s.heap news) (Da : DatIn news u d) (Db : DatIn news v e) (ha : kqdOk 8 d = true) (hb : kqdOk 8 e = true) (hu : A.units + 64 < cLine) (h : Q (.bool (decide (d = e))) s) :
    wpAny (model prog w) A (compareOp .Eq u v) Q E s := by
  obtain ⟨as, ra⟩ := kqd_in N 8 Da ha
  obtain ⟨bs, rb⟩ := kqd_in N 8 Db hb
  exact eq_dataH ra rb (shaped_dat ha) (shaped_dat hb) hu (by rw [eqv_dat ha hb]; exact h)
open Classical in
theorem ne_dat (N : News h₀ L s.heap news) (Da : DatIn news u d) (Db : DatIn news v e) (ha : kqdOk 8 d = true) (hb : kqdOk 8 e = true) (hu : A.units + 64 < cLine) (h : Q (.bool (!decide (d = e))) s) :
    wpAny (model prog w) A (compareOp .NotEq u v) Q E s := by
  obtain ⟨as, ra⟩ := kqd_in N 8 Da ha
  obtain ⟨bs, rb⟩ := kqd_in N 8 Db hb
  exact ne_dataH ra rb (shaped_dat ha) (shaped_dat hb) hu (by rw [eqv_dat ha hb]; exact h)
end
theorem ok_ints (ns : List Int) (n : Nat) : ∀ d ∈ ns.map Dat.int, kqdOk n d = true := by
  intro d hd
  obtain ⟨i, _, rfl⟩ := List.mem_map.mp hd
  cases n <;> rfl
theorem map_int_inj {a b : List Int} : a.map Dat.int = b.map Dat.int ↔ a = b := by
  constructor
  · intro h
    induction a generalizing b with
    | nil => cases b with | nil => rfl | cons => cases h
    | cons x xs ih =>
      cases b with
      | nil => cases h
      | cons y ys =>
        simp only [List.map_cons, List.cons.injEq, Dat.int.injEq] at h
        rw [h.1, ih h.2]
  · intro h; rw [h]
theorem dec_iff {p q : Prop} [Decidable q] {i : Decidable p} (e : p ↔ q) : @decide p i = decide q := by
  by_cases h : q
  · rw [decide_eq_true h]; exact @decide_eq_true p i (e.mpr h)
  · rw [decide_eq_false h]; exact @decide_eq_false p i (fun z => h (e.mp z))
section
variable {prog : Program} {w : World} {A : Around} {E : Value → Shared → Prop} {s : Shared} {Q : Value → Shared → Prop} {h₀ : Heap} {L : Addr} {news : List (Addr × Obj)}
/-- two norms compared: (tuple of ints, int) -/
theorem eq_norm {tn1 tc1 tn2 tc2 : Addr} {vs1 vs2 : List Value} {ns1 ns2 : List Int} {b1 b2 : Int} {q1 q2 : Tok} (N : News h₀ L s.heap news)
    (htn1 : (tn1, tupO [.ref tc1, .int b1 q1]) ∈ news) (htc1 : (tc1, tupO vs1) ∈ news) (hi1 : IntsAre vs1 ns1)
    (htn2 : (tn2, tupO [.ref tc2, .int b2 q2]) ∈ news) (htc2 : (tc2, tupO vs2) ∈ news) (hi2 : IntsAre vs2 ns2) (hu : A.units + 64 < cLine)
    (h : Q (.bool (decide (ns1 = ns2 ∧ b1 = b2))) s) : wpAny (model prog w) A (compareOp .Eq (.ref tn1) (.ref tn2)) Q E s := by
  have D1 : DatIn news (.ref tn1) (.tuple [.tuple (ns1.map .int), .int b1]) := .tuple htn1 (.cons (.tuple htc1 (ints_dat hi1)) (.cons (.int _ _) .nil))
  have D2 : DatIn news (.ref tn2) (.tuple [.tuple (ns2.map .int), .int b2]) := .tuple htn2 (.cons (.tuple htc2 (ints_dat hi2)) (.cons (.int _ _) .nil))
  have k1 : kqdOk 8 (.tuple [.tuple (ns1.map .int), .int b1]) = true := by
    simp only [kqdOk, List.all_cons, List.all_nil, Bool.and_true, List.all_eq_true]
    exact ok_ints ns1 6
  have k2 : kqdOk 8 (.tuple [.tuple (ns2.map .int), .int b2]) = true := by
    simp only [kqdOk, List.all_cons, List.all_nil, Bool.and_true, List.all_eq_true]
    exact ok_ints ns2 6
  refine eq_dat N D1 D2 k1 k2 hu ?_
  have e : (Dat.tuple [.tuple (ns1.map .int), .int b1] = .tuple [.tuple (ns2.map .int), .int b2]) ↔ (ns1 = ns2 ∧ b1 = b2) := by
    simp [map_int_inj]
  rw [dec_iff e]; exact h
end
end
section
open PySem PySem.W PyProof.Rows PySem.Flt PySem.Spec
set_option maxHeartbeats 1000000
inductive StrAt (prog : Program) (w : World) (A : Around) (env : Env) (h₀ : Heap) (x : Str) (body orelse : List Stmt) (Q : Flow → Shared → Prop) (E : Value → Shared → Prop) (m₀ : Str → Option Value) (tmp : List Str) (R : Nat → List (Str × Value) → List (Addr × Obj) → Array GenState → Prop) (xv : Value) (s₁ : Shared) : Prop where
  | mk (xs : _) (t₀ : _) (news : _) (ps₀ : _) (f0 : xv = .str xs t₀) (f1 : xs.cps.all (· < 128) = true) (f2 : Fr h₀ env.locals s₁.heap m₀) (f3 : News h₀ env.locals s₁.heap news) (f4 : R 0 ps₀ news s₁.gens) (f5 : ∀ z, z ≠ x → tmp.contains z = false → m₀ z = upd ps₀ m₀ z) (f6 : ∀ i c t ps nx (u : Str → Option Value) h g tk I oI, xs.cps[i]? = some c → (∀ p ∈ news, p.1 < I) → (∀ p ∈ nx, p.1 ≠ I) → R i ps nx g → Fr h₀ env.locals h (fun y => if y = x then some (.str ⟨#[c]⟩ t) else if tmp.contains y = true then u y else upd ps m₀ y) → News h₀ env.locals h ((I, oI) :: nx) →
        wpAny (model prog w) A (execs body env) (PostM h₀ env.locals (JR m₀ x tmp (R (i + 1))) I oI { s₁ with heap := h, gens := g, toks := tk } Q) E { s₁ with heap := h, gens := g, toks := tk }) (f7 : ∀ ps nx (u : Str → Option Value) h g tk, R xs.cps.size ps nx g → Fr h₀ env.locals h (fun y => if y = x then u y else if tmp.contains y = true then u y else upd ps m₀ y) → News h₀ env.locals h nx →
        wpAny (model prog w) A (execs orelse env) Q E { s₁ with heap := h, gens := g, toks := tk }) : StrAt prog w A env h₀ x body orelse Q E m₀ tmp R xv s₁
section
variable {prog : Program} {w : World} {A : Around} {E : Value → Shared → Prop} {s : Shared} {env : Env} {h₀ : Heap} {x : Str} {body orelse : List Stmt} {Q : Flow → Shared → Prop}
theorem For_str {px pos : Pos} {iter : PySem.Expr} {m₀ : Str → Option Value} (F0 : Fr h₀ env.locals s.heap m₀) (tmp : List Str) (R : Nat → List (Str × Value) → List (Addr × Obj) → Array GenState → Prop)
    (hx : env.kindOf x = some .local) (hp : (env.scope.kind == .class || (env.scope.kind == .module && env.locals != env.globals)) = false) (hh : A.handled = none)
    (h : wpAny (model prog w) A (eval iter env) (fun xv s₁ => StrAt prog w A env h₀ x body orelse Q E m₀ tmp R xv s₁) E s)
    (hs : ∀ x, foldedSetIterable iter env x = pure x := by intro _; rfl)
    (hE : PassesOwn (model prog w) A env E := by passes_own) :
    wpAny (model prog w) A (exec (.For (.Name x px) iter body orelse pos) env) Q E s := by
  refine wpAny_For (wpAny_mono h (fun xv s₁ h₁ => ?_) fun _ _ e => e) hs
  obtain ⟨xs, t₀, news, ps₀, rfl, hasc, F, N, hj, hz, turn, done⟩ := h₁
  refine wpAny_pyIter_ascii hasc ?_
  refine loopM (h₀ := h₀) (m₀ := m₀) (news := news) (n := xs.cps.size) (fun i => JR m₀ x tmp (R i)) (Walks.strAscii hh s₁.heap.objs.size xs t₀) hx hp (fun i h e => ⟨_, e.choose_spec.1⟩) ?_ ?_ ?_ ?_ (F.push _) (fun p hp => ⟨Heap.get?_push_of_some _ (N p hp).1, (N p hp).2⟩) ⟨ps₀, hj, hz⟩ ?_ ?_
  · exact Nat.ne_of_lt F.ns.lt
  · exact next_is_new F
  · exact fun p hp => Nat.ne_of_lt (Heap.lt_size (N p hp).1)
  · exact ⟨_, Heap.get?_push_size _ rfl, rfl, rfl⟩
  · rintro i v m₁ news₁ h g tk oI hi ⟨c, u, hc, rfl⟩ hne ⟨ps, hR, hm⟩ F₁ N₁
    refine wpAny_passesOwn hE ?_
    rw [JR.map _ hm] at F₁
    exact turn i c u ps news₁ m₁ h g tk s₁.heap.objs.size oI hc (fun p hp => Heap.lt_size (N p hp).1) hne hR F₁ N₁
  · rintro m₁ news₁ h g tk ⟨ps, hR, hm⟩ F₁ N₁
    rw [JR.done hm] at F₁
    exact wpAny_passesOwn hE (done ps news₁ m₁ h g tk hR F₁ N₁)
end
section
variable {prog : Program} {w : World} {A : Around} {E : Value → Shared → Prop} {s₁ : Shared} {env : Env} {h₀ : Heap} {x : Str} {body orelse : List Stmt} {Q : Flow → Shared → Prop}
theorem str_intro4 {R : Nat → List (Str × Value) → List (Addr × Obj) → Array GenState → Prop} {tmp : List Str} {xs : Str} {t₀ : Tok} {m₀ : Str → Option Value} {news : List (Addr × Obj)} (y1 y2 y3 y4 : Str) {v1 v2 v3 v4 : Value}
    (F : Fr h₀ env.locals s₁.heap m₀) (N : News h₀ env.locals s₁.heap news) (hz1 : m₀ y1 = some v1) (hz2 : m₀ y2 = some v2) (hz3 : m₀ y3 = some v3) (hz4 : m₀ y4 = some v4) (hasc : xs.cps.all (· < 128) = true) (hR : R 0 [(y1, v1), (y2, v2), (y3, v3), (y4, v4)] news s₁.gens)
    (turn : ∀ i c t ps nx (u : Str → Option Value) h g tk I oI, xs.cps[i]? = some c → (∀ p ∈ news, p.1 < I) → (∀ p ∈ nx, p.1 ≠ I) → R i ps nx g → Fr h₀ env.locals h (fun y => if y = x then some (.str ⟨#[c]⟩ t) else if tmp.contains y = true then u y else upd ps m₀ y) → News h₀ env.locals h ((I, oI) :: nx) →
        wpAny (model prog w) A (execs body env) (PostM h₀ env.locals (JR m₀ x tmp (R (i + 1))) I oI { s₁ with heap := h, gens := g, toks := tk } Q) E { s₁ with heap := h, gens := g, toks := tk })
    (done : ∀ ps nx (u : Str → Option Value) h g tk, R xs.cps.size ps nx g → Fr h₀ env.locals h (fun y => if y = x then u y else if tmp.contains y = true then u y else upd ps m₀ y) → News h₀ env.locals h nx →
        wpAny (model prog w) A (execs orelse env) Q E { s₁ with heap := h, gens := g, toks := tk }) :
    StrAt prog w A env h₀ x body orelse Q E m₀ tmp R (.str xs t₀) s₁ :=
  ⟨xs, t₀, news, _, rfl, hasc, F, N, hR, fun z _ _ => AllM.upd (ps := [(y1, v1), (y2, v2), (y3, v3), (y4, v4)]) ⟨hz1, hz2, hz3, hz4, True.intro⟩ z, turn, done⟩
end
section
variable {prog : Program} {w : World} {A : Around} {E : Value → Shared → Prop} {s : Shared} {Q : Value → Shared → Prop} {h₀ : Heap} {L D : Addr} {m : Str → Option Value} {news news' : List (Addr × Obj)} {vs ws : List Value} {ns ms : List Int} {n n2 : Nat} {k : Int} {u : Tok}
theorem len_listN (N : News h₀ L s.heap news) (hm : (D, listOf vs.toArray n) ∈ news) (hi : IntsAre vs ns) (hlen : ns.length ≤ 1000)
    (h : ∀ t' tk, Q (.int (ns.length : Int) t') { s with toks := tk }) : wpAny (model prog w) A (call (.builtin "len") [.ref D]) Q E s := by
  have e : (vs.toArray.size : Int) = (ns.length : Int) := by rw [List.size_toArray, hi.length]
  refine len_list (News.isList N hm) (by rw [e]; omega) ?_
  rw [e]; exact h _ _
theorem tuple_listN (F : Fr h₀ L s.heap m) (N : News h₀ L s.heap news) (hm : (D, listOf vs.toArray n) ∈ news) (hi : IntsAre vs ns) (hlen : ns.length ≤ 1000)
    (h : ∀ D h', Fr h₀ L h' m → News h₀ L h' ((D, tupO vs) :: news) → (∀ p ∈ news, p.1 < D) → Q (.ref D) { s with heap := h' }) : wpAny (model prog w) A (call (.type "tuple") [.ref D]) Q E s :=
  kde_tupleOf F N (News.isList N hm) (by rw [List.size_toArray, hi.length]; omega) (by simp) h
theorem add_listN {a b : Addr} (F : Fr h₀ L s.heap m) (N : News h₀ L s.heap news) (ha : (a, listOf vs.toArray n) ∈ news) (hb : (b, listOf ws.toArray n2) ∈ news) (hi : IntsAre vs ns) (hj : IntsAre ws ms) (hz : ns.length + ms.length ≤ 100000)
    (h : ∀ D us h', Fr h₀ L h' m → News h₀ L h' ((D, listOf (List.toArray us) 0) :: news) → (∀ p ∈ news, p.1 < D) → IntsAre us (ns ++ ms) → Q (.ref D) { s with heap := h' }) : wpAny (model prog w) A (binaryOp .Add (.ref a) (.ref b)) Q E s :=
  kmk_add_ints F N (News.isList N ha) (News.isList N hb) hi hj h (by unfold sizeLine; omega)
theorem rep_list1 {a : Addr} {v : Int} {t : Tok} (F : Fr h₀ L s.heap m) (N : News h₀ L s.heap news) (ha : (a, listOf #[.int v t] n) ∈ news) (h0 : 0 ≤ k) (h1 : k ≤ 1000)
    (h : ∀ D us h', Fr h₀ L h' m → News h₀ L h' ((D, listOf (List.toArray us) 0) :: news) → (∀ p ∈ news, p.1 < D) → IntsAre us (List.replicate k.toNat v) → Q (.ref D) { s with heap := h' }) : wpAny (model prog w) A (binaryOp .Mult (.ref a) (.int k u)) Q E s := by
  refine KM.mul (vs := [.int v t]) (ns := [v]) F N (News.isList N ha) (.cons _ _ .nil) (by omega) (by omega) (by simp; omega) fun D h' F' N' hlt hI _ _ _ _ _ => h D _ h' F' N' hlt ?_
  have e : (List.replicate k.toNat [v]).flatten = List.replicate k.toNat v := by
    generalize k.toNat = j
    induction j with
    | zero => rfl
    | succ j ih => simp [List.replicate_succ, ih]
  rw [← e]; exact hI
end
end
section
local macro_rules | `(tactic| omega) => `(tactic| (first | decide | lia | omega (splitDisjunctions := true)))
section
open PySem PySem.W PyProof.Rows PySem.Flt PySem.Spec
set_option maxHeartbeats 1000000
theorem lit_x : (Str.ofString "x").cps.toList = [120] := by decide
theorem lit_t : (Str.ofString "\t").cps.toList = [9] := by decide
theorem lit_tt : (Str.ofString "\t\t").cps.toList = [9, 9] := by decide
theorem lit_sp : (Str.ofString " ").cps.toList = [32] := by decide
theorem lit_e : (Str.ofString "").cps.toList = [] := by decide
theorem str_ext {x y : Str} (h : x.cps.toList = y.cps.toList) : x = y := by
  cases x; cases y
  simp only [Str.mk.injEq]
  exact Array.toList_inj.mp h
section
variable {prog : Program} {w : World} {A : Around} {E : Value → Shared → Prop} {s : Shared} {Q : Value → Shared → Prop} {x y : Str} {l1 l2 : List Nat} {t u : Tok}
theorem addS (h1 : x.cps.toList = l1) (h2 : y.cps.toList = l2) (z1 : l1.length ≤ 100000) (z2 : l2.length ≤ 100000)
    (h : ∀ r t' k, r.cps.toList = l1 ++ l2 → Q (.str r t') { s with toks := k }) : wpAny (model prog w) A (binaryOp .Add (.str x t) (.str y u)) Q E s := by
  refine add_str (fun t' k => h (x ++ y) t' k ?_) ?_
  · rw [Str.cps_append, Array.toList_append, h1, h2]
  · have e1 : x.length = l1.length := by rw [← h1]; rfl
    have e2 : y.length = l2.length := by rw [← h2]; rfl
    rw [e1, e2]; unfold sizeLine; omega
theorem iaddS (h1 : x.cps.toList = l1) (h2 : y.cps.toList = l2) (z1 : l1.length ≤ 100000) (z2 : l2.length ≤ 100000)
    (h : ∀ r t' k, r.cps.toList = l1 ++ l2 → Q (.str r t') { s with toks := k }) : wpAny (model prog w) A (inplaceOp .Add (.str x t) (.str y u)) Q E s := by
  refine iadd_str (fun t' k => h (x ++ y) t' k ?_) ?_
  · rw [Str.cps_append, Array.toList_append, h1, h2]
  · have e1 : x.length = l1.length := by rw [← h1]; rfl
    have e2 : y.length = l2.length := by rw [← h2]; rfl
    rw [e1, e2]; unfold sizeLine; omega
theorem mul_sp {n : Int} (h0 : -1000 ≤ n) (h1 : n ≤ 1000) (h : ∀ r t' k, r.cps.toList = List.replicate n.toNat 32 → Q (.str r t') { s with toks := k }) :
    wpAny (model prog w) A (binaryOp .Mult (.str (Str.ofString " ") t) (.int n u)) Q E s := by
  have hl : (Str.ofString " ").length = 1 := by decide
  have hc : (Str.ofString " ").cps = #[32] := by decide
  refine SB.mul ⟨?_, fun hn _ => ?_, fun hn _ => ?_⟩ fun t' k => h _ t' k ?_
  · simp; omega
  · rw [hl]
    have : (1 : Int) ≤ (2 ^ 63 - 1) / n := (Int.le_ediv_iff_mul_le (by omega)).mpr (by omega)
    have e : ((1 : Nat) : Int) = 1 := rfl
    rw [e]; omega
  · rw [hl]
    simp [Builtin.Str.tooLong, sizeLine]; omega
  · unfold Txt.mul
    split
    · have : n.toNat = 0 := by omega
      rw [this]; rfl
    · split
      · rename_i hn hb
        rw [hl] at hb
        have : n = 1 := by simpa using hb
        rw [this, hc]; rfl
      · rw [hc]
        generalize n.toNat = j
        show (List.foldl (· ++ ·) #[] (List.replicate j #[32])).toList = _
        have key : ∀ (j : Nat) (a : Array Nat), (List.foldl (· ++ ·) a (List.replicate j #[32])).toList = a.toList ++ List.replicate j 32 := by
          intro j
          induction j with
          | zero => intro a; simp
          | succ j ih => intro a; rw [List.replicate_succ, List.foldl_cons, ih]; simp [List.replicate_succ]
        rw [key]; rfl
end
theorem gen_toks_add {α : Type} {M : Model} {A : Around} {c : Sem α} {Q : α → Shared → Prop} {E : Value → Shared → Prop} {h : Heap} {g : Array GenState} {d o} {X Y : Nat} (h9 : ∀ tk, wpAny M A c Q E ⟨h, g, d, tk, o⟩) : wpAny M A c Q E ⟨h, g, d, X + Y, o⟩ := h9 _
noncomputable def AbsIs (r a : Int) : Prop := r = (a.natAbs : Int)
noncomputable def Nine (d : Int) : Prop := d.natAbs ≤ 9
theorem absB {prog : Program} {w : World} {A : Around} {E : Value → Shared → Prop} {s : Shared} {Q : Value → Shared → Prop} {a : Int} {t : Tok} (hB : Nine a)
    (h : ∀ r t' tk, AbsIs r a → 0 ≤ r → r ≤ 9 → Q (.int r t') { s with toks := tk }) : wpAny (model prog w) A (call (.builtin "abs") [.int a t]) Q E s := by
  unfold Nine at hB
  refine call_abs_int fun u tk => h _ u tk ?_ ?_ ?_
  · unfold AbsIs; split <;> omega
  · split <;> omega
  · split <;> omega
end
section
open PySem PySem.W PyProof.Rows PySem.Spec
set_option maxHeartbeats 1000000
theorem ints_cons {us : List Value} {c : Int} {cs : List Int} (h : IntsAre us (c :: cs)) : ∃ t vs, us = .int c t :: vs ∧ IntsAre vs cs := by
  cases h with
  | cons _ t h2 => exact ⟨t, _, rfl, h2⟩
theorem ints_nil {us : List Value} (h : IntsAre us []) : us = [] := by
  cases h; rfl
theorem ints_succ {us : List Value} {cs : List Int} {n : Nat} (h : IntsAre us cs) (hl : cs.length = n + 1) : ∃ c t cs' us', cs = c :: cs' ∧ us = .int c t :: us' ∧ IntsAre us' cs' ∧ cs'.length = n := by
  cases h with
  | nil => cases hl
  | cons c t k => exact ⟨c, t, _, _, rfl, rfl, k, Nat.succ.inj hl⟩
theorem ints6 {us : List Value} {cs : List Int} (h : IntsAre us cs) (hl : cs.length = 6) : ∃ c0 c1 c2 c3 c4 c5 t0 t1 t2 t3 t4 t5, cs = [c0, c1, c2, c3, c4, c5] ∧ us = [.int c0 t0, .int c1 t1, .int c2 t2, .int c3 t3, .int c4 t4, .int c5 t5] := by
  obtain ⟨c0, t0, cs0, us0, a0, b0, h0, l0⟩ := ints_succ h hl
  obtain ⟨c1, t1, cs1, us1, a1, b1, h1, l1⟩ := ints_succ h0 l0
  obtain ⟨c2, t2, cs2, us2, a2, b2, h2, l2⟩ := ints_succ h1 l1
  obtain ⟨c3, t3, cs3, us3, a3, b3, h3, l3⟩ := ints_succ h2 l2
  obtain ⟨c4, t4, cs4, us4, a4, b4, h4, l4⟩ := ints_succ h3 l3
  obtain ⟨c5, t5, cs5, us5, a5, b5, h5, l5⟩ := ints_succ h4 l4
  have e := List.eq_nil_of_length_eq_zero l5
  rw [e] at h5
  exact ⟨c0, c1, c2, c3, c4, c5, t0, t1, t2, t3, t4, t5, by rw [a0, a1, a2, a3, a4, a5, e], by rw [b0, b1, b2, b3, b4, b5, ints_nil h5]⟩
theorem end_gen {h₀ h' : Heap} {L I C D : Addr} {m : Str → Option Value} {s₁ : Shared} {oI oC oD : Obj} {S : List (Addr × Obj) → Prop} {rest : Value → List (Addr × Obj) → Prop} {y : Value} {tk : Nat} {nx : List (Addr × Obj)} (F : Fr h₀ L h' m) (N : News h₀ L h' ((I, oI) :: (C, oC) :: (D, oD) :: nx)) (off : LCg.Off3 I C D nx) (hS : S nx) (r : rest y nx) :
    LCg.CompEnd h₀ L m s₁ I oI C oC D oD S rest y { s₁ with heap := h', toks := tk } := LCg.CompEnd.intro F N nx (fun _ hp => hp) off hS r
end
section
open PySem PySem.W PyProof.Rows PySem.Spec PyProof.Rows.LCg PyProof.Rows.LCt
set_option maxHeartbeats 1000000
theorem compEnd_mono {h₀ : Heap} {L : Addr} {m : Str → Option Value} {s₁ : Shared} {I : Addr} {oI : Obj} {C : Addr} {oC : Obj} {D : Addr} {oD : Obj} {S : List (Addr × Obj) → Prop} {r1 r2 : Value → List (Addr × Obj) → Prop} {y : Value} {s₂ : Shared}
    (h : CompEnd h₀ L m s₁ I oI C oC D oD S r1 y s₂) (k : ∀ nw, r1 y nw → r2 y nw) : CompEnd h₀ L m s₁ I oI C oC D oD S r2 y s₂ := by
  obtain ⟨h', tk, nw, e, F, N, o, hS, r⟩ := h
  exact ⟨h', tk, nw, e, F, N, o, hS, k nw r⟩
section
variable {prog : Program} {w : World} {A : Around} {s : Shared} {h₀ : Heap} {L : Addr} {m : Str → Option Value} {env : Env}
theorem compT_inv {ct elt : PySem.Expr} {x : Str} {scope : Scope} {cl : List (Str × Addr)} {S : List (Addr × Obj) → Prop} {P : Nat → Value → Prop} {Fin : List Value → List (Addr × Obj) → Prop} {n : Nat} {news : List (Addr × Obj)} (J : Nat → List Value → Prop) (h0 : J 0 [])
    (fin : ∀ ys, J n ys → Fin ys news)
    (turn : ∀ i ys v I oI C oC D m₂ h tk (E' : Value → Shared → Prop), i < n → J i ys → P i v → NsObj oC m₂ → m₂ x = some v → Fr h₀ L h m → News h₀ L h ((I, oI) :: (C, oC) :: (D, lst ys) :: news) → Off3 I C D news → ((@Ne Nat I C) ∧ (@Ne Nat I D) ∧ (@Ne Nat C D)) →
      wpAny (model prog w) A (isTrue ct (compEnvC scope cl C env) (eval ct (compEnvC scope cl C env))) (fun ok s' => if ok = true then
        wpAny (model prog w) A (eval elt (compEnvC scope cl C env)) (CompEnd h₀ L m { s with heap := h, toks := tk } I oI C oC D (lst ys) S (fun y news' => news' = news ∧ J (i + 1) (ys ++ [y]))) E' s'
        else CompEnd h₀ L m { s with heap := h, toks := tk } I oI C oC D (lst ys) S (fun _ news' => news' = news ∧ J (i + 1) ys) Value.none s') E' { s with heap := h, toks := tk }) :
    CompRestT prog w A h₀ L m env ct elt x scope cl s S P Fin n 0 [] news := by
  revert prog w A s h₀ L m env ct elt x scope cl S P Fin n news J
  refine (?zh : ∀ prog w A s h₀ L m env ct elt x scope cl S P Fin n news J, (?zP : _ → _ → _ → _ → _ → _ → _ → _ → _ → _ → _ → _ → _ → _ → _ → _ → _ → _ → _ → Prop) prog w A s h₀ L m env ct elt x scope cl S P Fin n news J)
  refine fun prog w A s h₀ L m env ct elt x scope cl S P Fin n news J => allE (P := un2 fun prog => un2 fun w => un2 fun A => un2 fun s => un2 fun h₀ => un2 fun L => un2 fun m => un2 fun env => un2 fun ct => un2 fun elt => un2 fun x => un2 fun scope => un2 fun cl => un2 fun S => un2 fun P => un2 fun Fin => un2 fun n => un2 fun news J => ?zP prog w A s h₀ L m env ct elt x scope cl S P Fin n news J) ?zn ?zk (prog, w, A, s, h₀, L, m, env, ct, elt, x, scope, cl, S, P, Fin, n, news, J)
  case zn => walk_at "ne"
  clear prog w A s h₀ L m env ct elt x scope cl S P Fin n news J
  refine (?zj : AtE _ ?zE)
  refine (?zF : ∀ prog w A s h₀ L m env ct elt x scope cl S P Fin n news J, ?zP prog w A s h₀ L m env ct elt x scope cl S P Fin n news J) ?zE.1 ?zE.2.1 ?zE.2.2.1 ?zE.2.2.2.1 ?zE.2.2.2.2.1 ?zE.2.2.2.2.2.1 ?zE.2.2.2.2.2.2.1 ?zE.2.2.2.2.2.2.2.1 ?zE.2.2.2.2.2.2.2.2.1 ?zE.2.2.2.2.2.2.2.2.2.1 ?zE.2.2.2.2.2.2.2.2.2.2.1 ?zE.2.2.2.2.2.2.2.2.2.2.2.1 ?zE.2.2.2.2.2.2.2.2.2.2.2.2.1 ?zE.2.2.2.2.2.2.2.2.2.2.2.2.2.1 ?zE.2.2.2.2.2.2.2.2.2.2.2.2.2.2.1 ?zE.2.2.2.2.2.2.2.2.2.2.2.2.2.2.2.1 ?zE.2.2.2.2.2.2.2.2.2.2.2.2.2.2.2.2.1 ?zE.2.2.2.2.2.2.2.2.2.2.2.2.2.2.2.2.2.1 ?zE.2.2.2.2.2.2.2.2.2.2.2.2.2.2.2.2.2.2
  intros prog w A s h₀ L m env ct elt x scope cl S P Fin n news J
  intro h0 fin turn
  have key : ∀ k i ys, i + k = n → J i ys → CompRestT prog w A h₀ L m env ct elt x scope cl s S P Fin k i ys news := by
    intro k
    induction k with
    | zero =>
      intro i ys e hJ
      obtain rfl : i = n := by omega
      exact CompRestT.zero (fin ys hJ)
    | succ k ih =>
      intro i ys e hJ
      refine CompRestT.succ fun v I oI C oC D m₂ h tk E' hP hC hx F N o ne => ?_
      refine wpAny_mono (turn i ys v I oI C oC D m₂ h tk E' (by omega) hJ hP hC hx F N o ne) (fun ok s' q => ?_) fun _ _ e => e
      cases ok with
      | true =>
        simp only [if_true] at q ⊢
        refine wpAny_mono q (fun y s'' q' => compEnd_mono q' ?_) fun _ _ e => e
        rintro nw ⟨rfl, hJ'⟩
        exact ih (i + 1) _ (by omega) hJ'
      | false =>
        simp only [Bool.false_eq_true, if_false] at q ⊢
        refine compEnd_mono q ?_
        rintro nw ⟨rfl, hJ'⟩
        exact ih (i + 1) _ (by omega) hJ'
  exact key n 0 [] (by omega) h0
end
section
variable {prog : Program} {w : World} {A : Around} {E : Value → Shared → Prop} {s : Shared} {Q : Value → Shared → Prop} {h₀ : Heap} {L D : Addr} {m : Str → Option Value} {news : List (Addr × Obj)} {vs : List Value} {ns : List Int} {n : Nat}
theorem sum_N (hh : A.handled = none) (F : Fr h₀ L s.heap m) (N : News h₀ L s.heap news) (hm : (D, listOf vs.toArray n) ∈ news) (hi : IntsAre vs ns)
    (h : ∀ h' tk t', Fr h₀ L h' m → News h₀ L h' news → Q (.int ns.sum t') { s with heap := h', toks := tk }) : wpAny (model prog w) A (call (.builtin "sum") [.ref D]) Q E s :=
  sumK hh F N (News.isList N hm) hi h
theorem min_N (hh : A.handled = none) (F : Fr h₀ L s.heap m) (N : News h₀ L s.heap news) (hm : (D, listOf vs.toArray n) ∈ news) (hi : IntsAre vs ns) (hne : 0 < ns.length)
    (h : ∀ h' M (t : Tok) tk, Fr h₀ L h' m → News h₀ L h' news → M ∈ ns → (∀ a, a ∈ ns → M ≤ a) → Q (.int M t) { s with heap := h', toks := tk }) : wpAny (model prog w) A (call (.builtin "min") [.ref D]) Q E s :=
  kso_min F N (News.isList N hm) hi hne hh h
theorem max_N (hh : A.handled = none) (F : Fr h₀ L s.heap m) (N : News h₀ L s.heap news) (hm : (D, listOf vs.toArray n) ∈ news) (hi : IntsAre vs ns) (hne : 0 < ns.length)
    (h : ∀ h' M (t : Tok) tk, Fr h₀ L h' m → News h₀ L h' news → M ∈ ns → (∀ a, a ∈ ns → a ≤ M) → Q (.int M t) { s with heap := h', toks := tk }) : wpAny (model prog w) A (call (.builtin "max") [.ref D]) Q E s :=
  kso_max F N (News.isList N hm) hi hne hh h
end
end
section
open PySem PySem.W PyProof.Rows PySem.Flt PySem.Calls
set_option maxHeartbeats 1000000
noncomputable abbrev accObj (dx : Addr) (vs : List Value) (n : Nat) : Obj := { cls := .ref 272, dict := some dx, data := .seq vs.toArray n }
noncomputable abbrev boundO (T : String) (i : String) (x : Addr) : Obj := { cls := .type T, dict := none, data := .fields #[.builtin i, .ref x], slots := #[] }
section
variable {prog : Program} {w : World} {M : Model} {A : Around} {E : Value → Shared → Prop} {s : Shared} {K : Frag} {x C : Addr} {ox : Obj} {od : Option Obj}
theorem check_meth {i owner n : String} {self : Value} {rest : List Value} {kw : List (Str × Value)} {Q : Unit → Shared → Prop}
    (hk : builtinKind i = some .method) (hs : splitId i = some (owner, n)) (hi : Looks M s.heap (isInstance self (.type owner)) true) (ha : argsOk i ⟨self :: rest, kw⟩) (q : Q () s) :
    wpAny M A (checkBuiltinCall i ⟨self :: rest, kw⟩) Q E s := by
  simp only [checkBuiltinCall, hk, hs]
  refine wpAny_bind (hi.here ?_)
  simp only [Bool.not_true, Bool.false_eq_true, if_false]
  cases hsig : Manifest.signature? i with
  | none => exact wpAny_pure q
  | some sig =>
    simp only [argsOk, hsig] at ha
    have h2 : Bind.checkArgs i sig ⟨self :: rest, kw⟩ = pure () := ha
    show wpAny M A (Bind.checkArgs i sig ⟨self :: rest, kw⟩) Q E s
    rw [h2]; exact wpAny_pure q
theorem call_meth0 {i owner n : String} {b : Builtin} {self : Value} {rest : List Value} {Q : Value → Shared → Prop} (hp : plainId i = true) (he : entryFor table i = some b)
    (hk : builtinKind i = some .method) (hs : splitId i = some (owner, n)) (hi : Looks (model prog w) s.heap (isInstance self (.type owner)) true) (ha : argsOk i ⟨self :: rest, []⟩)
    (hc : wpAny (model prog w) A.in1 (b ⟨self :: rest, []⟩) (fun fin s' => ∃ v, fin = .done (.ret v) ∧ Q v s') E s) : wpAny (model prog w) A (call (.builtin i) (self :: rest)) Q E s := by
  refine wpAny_call (codeAny_call_builtin hp he (check_meth hk hs hi ha (wpAny_mono hc (fun fin s' h' => ?_) fun _ _ h' => h')))
  obtain ⟨v, rfl, hv⟩ := h'; exact hv
theorem call_slot0 {i owner n : String} {b : Builtin} {self : Value} {rest : List Value} {Q : Value → Shared → Prop} (hp : plainId i = true) (he : entryFor table i = some b)
    (hk : builtinKind i = some .slot) (hs : splitId i = some (owner, n)) (hi : Looks (model prog w) s.heap (isInstance self (.type owner)) true) (ha : argsOk i ⟨self :: rest, []⟩)
    (hc : wpAny (model prog w) A.in1 (b ⟨self :: rest, []⟩) (fun fin s' => ∃ v, fin = .done (.ret v) ∧ Q v s') E s) : wpAny (model prog w) A (call (.builtin i) (self :: rest)) Q E s := by
  refine wpAny_call (codeAny_call_builtin hp he (check_slot hk hs hi ha (wpAny_mono hc (fun fin s' h' => ?_) fun _ _ h' => h')))
  obtain ⟨v, rfl, hv⟩ := h'; exact hv
end
theorem mapSeq_acc (dx : Addr) (vs : List Value) (n : Nat) (f : Array Value → Array Value) : Obj.mapSeq f (accObj dx vs n) = accObj dx (f vs.toArray).toList (if (f vs.toArray).size == vs.toArray.size then n else n + 1) := by
  simp [Obj.mapSeq, accObj]
section
variable {prog : Program} {w : World} {A : Around} {E : Value → Shared → Prop} {s : Shared} {K : Frag} {x dx : Addr} {vs : List Value} {n : Nat} {es : List DictEntry} {ne : Nat} {h₀ : Heap} {L : Addr} {m : Str → Option Value} {news news' : List (Addr × Obj)}
theorem acc_inst {h : Heap} (N : News h₀ L h news) (hx : (x, accObj dx vs n) ∈ news) (hdx : (dx, dictOf es ne) ∈ news) : InstAt h x (accObj dx vs n) 272 (some (dictOf es ne)) :=
  ⟨(N _ hx).1, rfl, rfl, (N _ hdx).1⟩
theorem acc_isList {M : Model} {h : Heap} (X : K.In h) (hm : subIn K (.ref 272) (.type "list") = some true) (hx : h.get? x = some (accObj dx vs n)) : Looks M h (isInstance (.ref x) (.type "list")) true :=
  Looks.andThen (a := .ref 272) ((Looks.ld hx).andThen .now) (looks_subIn X hm)
theorem acc_upd {f : Array Value → Array Value} {us : List Value} {g : Obj → List (Addr × Obj)} (F : Fr h₀ L s.heap m) (N : News h₀ L s.heap news) (hus : (f vs.toArray).toList = us)
    (U : UpdF x (accObj dx vs n) news g) : ∃ n', Fr h₀ L (s.heap.update x (Obj.mapSeq f)) m ∧ News h₀ L (s.heap.update x (Obj.mapSeq f)) (g (accObj dx us n')) := by
  refine ⟨(if (f vs.toArray).size == vs.toArray.size then n else n + 1), ?_⟩
  obtain ⟨pre, post, e1, e2, a, b⟩ := U.split
  rw [e1] at N; rw [e2]
  exact news_upd F N a b (by rw [mapSeq_acc, hus]) rfl
theorem UpdF.mem' {d : Addr} {o : Obj} {l : List (Addr × Obj)} {g : Obj → List (Addr × Obj)} (U : UpdF d o l g) : (d, o) ∈ l := by
  obtain ⟨pre, post, e1, e2, a, b⟩ := U.split
  rw [e1]; simp
theorem acc_append {v : Value} {Q : Value → Shared → Prop} {g : Obj → List (Addr × Obj)} (F : Fr h₀ L s.heap m) (X₀ : K.In h₀) (N : News h₀ L s.heap news) (U : UpdF x (accObj dx vs n) news g) (hm : subIn K (.ref 272) (.type "list") = some true) (hsz : vs.length ≤ 1000)
    (h : ∀ h' n', Fr h₀ L h' m → News h₀ L h' (g (accObj dx (vs ++ [v]) n')) → Q .none { s with heap := h' }) : wpAny (model prog w) A (call (.builtin "list.append") [.ref x, v]) Q E s := by
  have hx := (N _ (UpdF.mem' U)).1
  refine call_meth0 (by decide +kernel) entry_list_append (owner := "list") (n := "append") (by decide +kernel) (by decide +kernel) (acc_isList (X₀.keeps F.keep) hm hx) (args_list_append _ _) ?_
  show wpAny _ _ (updateSeq x (·.push v) >>= fun _ => ret .none) _ _ s
  obtain ⟨n', F', N'⟩ := acc_upd (f := (·.push v)) (us := vs ++ [v]) F N (by simp) U
  exact wpAny_bind (wpAny_updateSeq hx rfl (wpAny_pure ⟨.none, rfl, h _ n' F' N'⟩) (by rw [List.size_toArray, sizeLine_eq]; omega) (by rw [Array.size_push, List.size_toArray, sizeLine_eq]; omega))
theorem md_get : Slot "method_descriptor" "__get__" "method_descriptor.__get__" := .of (owner := "method_descriptor") (n := "__get__") (by rw [typeLookup_type, builtinLookup_eq_fast]; kernel_rfl) (by decide +kernel) (by decide +kernel) (by decide +kernel)
  (by first | exact .inl (by decide +kernel) | exact .inr (by decide +kernel)) (by rw [isSubtype_type]; kernel_rfl)
theorem md_entry : entryFor table "method_descriptor.__get__" = some Builtin.«method_descriptor.__get__» := entryFor_of_tree (by kernel_rfl)
theorem md_args (a b c : Value) : argsOk "method_descriptor.__get__" ⟨[a, b, c], []⟩ := by unfold argsOk; kernel_rfl
theorem wd_get : Slot "wrapper_descriptor" "__get__" "wrapper_descriptor.__get__" := .of (owner := "wrapper_descriptor") (n := "__get__") (by rw [typeLookup_type, builtinLookup_eq_fast]; kernel_rfl) (by decide +kernel) (by decide +kernel) (by decide +kernel)
  (by first | exact .inl (by decide +kernel) | exact .inr (by decide +kernel)) (by rw [isSubtype_type]; kernel_rfl)
theorem wd_entry : entryFor table "wrapper_descriptor.__get__" = some Builtin.«wrapper_descriptor.__get__» := entryFor_of_tree (by kernel_rfl)
theorem wd_args (a b c : Value) : argsOk "wrapper_descriptor.__get__" ⟨[a, b, c], []⟩ := by unfold argsOk; kernel_rfl
theorem ty_pop (s : Shared) : s.TypeIs (.builtin "list.pop") "method_descriptor" := by show typeOf _ = _; kernel_rfl
theorem ty_len (s : Shared) : s.TypeIs (.builtin "list.__len__") "wrapper_descriptor" := by show typeOf _ = _; kernel_rfl
theorem ty_init (s : Shared) : s.TypeIs (.builtin "list.__init__") "wrapper_descriptor" := by show typeOf _ = _; kernel_rfl
theorem sup_ga_pop {so : Addr} {l₀ l : List Value} {name : Str} {tk : Tok} {Q : Fin → Shared → Prop} {h : Heap} {g : Array GenState} {d : Drawn} {t : Nat} {os : OsState}
    (hso : h.get? so = some (ks_superObj 272 x 272)) (hno : Looks (model prog w) h (opaqueClassAbove (.ref 272)) none)
    (hC : Looks (model prog w) h (mroOf (.ref 272)) l₀) (hl : (l₀.dropWhile (· != .ref 272)).drop 1 = l) (X : K.In h)
    (hf : alongIn K name l = some (some (.builtin "list.pop"))) (hx : h.get? x = some (accObj dx vs n)) (hi : Looks (model prog w) h (isSubtype (.ref 272) (.type "list")) true) (hxC : x ≠ 272) (hn : (name == ("__class__" : Str)) = false)
    (hq : Q (.done (.ret (.ref h.objs.size))) ⟨h.push (boundO "builtin_function_or_method" "list.pop" x), g, d, t, os⟩) :
    wpAny (model prog w) A (Builtin.«super.__getattribute__» ⟨[.ref so, .str name tk], []⟩) Q E ⟨h, g, d, t, os⟩ := by
  revert prog w A E K x dx vs n so l₀ l name tk Q h g d t os
  refine (?zh : ∀ prog w A E K x dx vs n so l₀ l name tk Q h g d t os, (?zP : _ → _ → _ → _ → _ → _ → _ → _ → _ → _ → _ → _ → _ → _ → _ → _ → _ → _ → _ → _ → Prop) prog w A E K x dx vs n so l₀ l name tk Q h g d t os)
  refine fun prog w A E K x dx vs n so l₀ l name tk Q h g d t os => allE (P := un2 fun prog => un2 fun w => un2 fun A => un2 fun E => un2 fun K => un2 fun x => un2 fun dx => un2 fun vs => un2 fun n => un2 fun so => un2 fun l₀ => un2 fun l => un2 fun name => un2 fun tk => un2 fun Q => un2 fun h => un2 fun g => un2 fun d => un2 fun t os => ?zP prog w A E K x dx vs n so l₀ l name tk Q h g d t os) ?zn ?zk (prog, w, A, E, K, x, dx, vs, n, so, l₀, l, name, tk, Q, h, g, d, t, os)
  case zn => walk_at "ne"
  clear prog w A E K x dx vs n so l₀ l name tk Q h g d t os
  refine (?zj : AtE _ ?zE)
  refine (?zF : ∀ prog w A E K x dx vs n so l₀ l name tk Q h g d t os, ?zP prog w A E K x dx vs n so l₀ l name tk Q h g d t os) ?zE.1 ?zE.2.1 ?zE.2.2.1 ?zE.2.2.2.1 ?zE.2.2.2.2.1 ?zE.2.2.2.2.2.1 ?zE.2.2.2.2.2.2.1 ?zE.2.2.2.2.2.2.2.1 ?zE.2.2.2.2.2.2.2.2.1 ?zE.2.2.2.2.2.2.2.2.2.1 ?zE.2.2.2.2.2.2.2.2.2.2.1 ?zE.2.2.2.2.2.2.2.2.2.2.2.1 ?zE.2.2.2.2.2.2.2.2.2.2.2.2.1 ?zE.2.2.2.2.2.2.2.2.2.2.2.2.2.1 ?zE.2.2.2.2.2.2.2.2.2.2.2.2.2.2.1 ?zE.2.2.2.2.2.2.2.2.2.2.2.2.2.2.2.1 ?zE.2.2.2.2.2.2.2.2.2.2.2.2.2.2.2.2.1 ?zE.2.2.2.2.2.2.2.2.2.2.2.2.2.2.2.2.2.1 ?zE.2.2.2.2.2.2.2.2.2.2.2.2.2.2.2.2.2.2.1 ?zE.2.2.2.2.2.2.2.2.2.2.2.2.2.2.2.2.2.2.2
  intros prog w A E K x dx vs n so l₀ l name tk Q h g d t os
  intro hso hno hC hl X hf hx hi hxC hn hq
  have hlk := md_get.lookup
  have hne : (Value.ref x == Value.ref 272) = false := by simp [hxC]
  have hTf : (⟨h, g, d, t, os⟩ : Shared).TypeIs (.builtin "list.pop") "method_descriptor" := ty_pop _
  have hdt : (ks_superObj 272 x 272).data = .fields #[.ref 272, .ref x, .ref 272] := rfl
  have f0 : (#[.ref 272, .ref x, .ref 272] : Array Value)[0]? = some (.ref 272) := rfl
  have f1 : (#[.ref 272, .ref x, .ref 272] : Array Value)[1]? = some (.ref x) := rfl
  have f2 : (#[.ref 272, .ref x, .ref 272] : Array Value)[2]? = some (.ref 272) := rfl
  have hcut : ".".intercalate ("list.pop".cutAt '.').dropLast = "list" := by decide +kernel
  have hi' : Looks (model prog w) h (isSubtype (.ref 272) (.type (".".intercalate ("list.pop".cutAt '.').dropLast))) true := hcut ▸ hi
  unfold Builtin.«super.__getattribute__»
  (simp only [hn, hne, Bool.or_false, Bool.false_eq_true, if_false])
  (with_reducible refine PySem.wpAny_bind ?_)
  wp_delta
  (with_reducible refine PySem.wpAny_pure ?_)
  ((with_reducible apply PySem.wpAny_ite_false); focus (rfl; done))
  (with_reducible refine PySem.wpAny_bind ?_)
  wp_delta
  (with_reducible refine PySem.wpAny_pure ?_)
  (simp only [hn, hne, Bool.or_false, Bool.false_eq_true, if_false])
  (with_reducible refine PySem.wpAny_bind ?_)
  (with_reducible refine wpAny_field hso hdt f0 ?_)
  (with_reducible refine PySem.wpAny_bind ?_)
  (with_reducible refine wpAny_field hso hdt f1 ?_)
  (with_reducible refine PySem.wpAny_bind ?_)
  (with_reducible refine wpAny_field hso hdt f2 ?_)
  (simp only [hn, hne, Bool.or_false, Bool.false_eq_true, if_false])
  ((with_reducible apply PySem.wpAny_ite_false); focus (rfl; done))
  (with_reducible refine PySem.wpAny_bind ?_)
  (with_reducible refine ks_wpAny_notOpaque hno ?_)
  ((with_reducible apply PySem.wpAny_ite_false); focus (rfl; done))
  (with_reducible refine PySem.wpAny_bind ?_)
  (with_reducible refine Looks.at hC ?_; rw [hl])
  (with_reducible refine PySem.wpAny_bind ?_)
  (refine ks_forIn_along X (fun _ _ => rfl) rfl ?_ hf)
  (simp only [hn, hne, Bool.or_false, Bool.false_eq_true, if_false])
  (with_reducible refine PySem.wpAny_bind ?_)
  (with_reducible refine wpAny_typeOf hTf ?_)
  (with_reducible refine PySem.wpAny_bind ?_)
  (with_reducible refine PySem.wpAny_of_eq (by assumption) ?_)
  (simp only [hn, hne, Bool.or_false, Bool.false_eq_true, if_false])
  (with_reducible refine PySem.wpAny_bind ?_)
  (with_reducible refine PySem.wpAny_holding ?_)
  (with_reducible refine wpAny_call_entry md_get hTf md_entry ?_ (md_args _ _ _))
  wp_delta
  (simp only [hn, hne, Bool.or_false, Bool.false_eq_true, if_false])
  (with_reducible refine PySem.wpAny_bind ?_)
  wp_delta
  (simp only [hn, hne, Bool.or_false, Bool.false_eq_true, if_false])
  ((with_reducible apply PySem.wpAny_ite_false); focus (rfl; done))
  (with_reducible refine PySem.wpAny_bind ?_)
  (with_reducible refine PySem.wpAny_pure ?_)
  (simp only [hn, hne, Bool.or_false, Bool.false_eq_true, if_false])
  ((with_reducible apply PySem.wpAny_ite_false); focus (rfl; done))
  (with_reducible refine PySem.wpAny_pure ?_)
  (simp only [hn, hne, Bool.or_false, Bool.false_eq_true, if_false])
  wp_delta
  ((with_reducible apply PySem.wpAny_ite_false); focus (rfl; done))
  wp_delta
  (with_reducible refine PySem.wpAny_bind ?_)
  wp_delta
  (simp only [hn, hne, Bool.or_false, Bool.false_eq_true, if_false])
  (with_reducible refine PySem.wpAny_bind ?_)
  wp_delta
  (with_reducible refine PySem.wpAny_pure ?_)
  (simp only [hn, hne, Bool.or_false, Bool.false_eq_true, if_false])
  (with_reducible refine PySem.wpAny_bind ?_)
  wp_delta
  (with_reducible refine PySem.wpAny_bind ?_)
  wp_delta
  (with_reducible refine PySem.wpAny_bind ?_)
  (with_reducible refine wpAny_loadPart_at hx ?_)
  (simp only [hn, hne, Bool.or_false, Bool.false_eq_true, if_false])
  (with_reducible refine PySem.wpAny_pure ?_)
  (with_reducible refine Looks.at hi' ?_)
  ((with_reducible apply PySem.wpAny_ite_false); focus (rfl; done))
  (with_reducible refine PySem.wpAny_pure ?_)
  (with_reducible refine PySem.wpAny_bind ?_)
  iterate 2 (wp_delta)
  (simp only [hn, hne, Bool.or_false, Bool.false_eq_true, if_false])
  ((with_reducible apply PySem.wpAny_ite_false); focus (rfl; done))
  wp_delta
  (simp only [hn, hne, Bool.or_false, Bool.false_eq_true, if_false])
  (with_reducible refine PySem.wpAny_bind ?_)
  (with_reducible refine PySem.wpAny_alloc' ?_)
  (with_reducible refine PySem.wpAny_pure ?_)
  wp_delta
  (with_reducible refine PySem.wpAny_pure ?_)
  (with_reducible refine ⟨_, rfl, ?_⟩)
  (with_reducible refine PySem.wpAny_bind ?_)
  wp_delta
  iterate 2 ((with_reducible refine PySem.wpAny_pure ?_))
  (simp only [hn, hne, Bool.or_false, Bool.false_eq_true, if_false])
  (with_reducible refine PySem.wpAny_pure ?_)
  all_goals (first | exact hq | trace_state)
theorem sup_ga_len {so : Addr} {l₀ l : List Value} {name : Str} {tk : Tok} {Q : Fin → Shared → Prop} {h : Heap} {g : Array GenState} {d : Drawn} {t : Nat} {os : OsState}
    (hso : h.get? so = some (ks_superObj 272 x 272)) (hno : Looks (model prog w) h (opaqueClassAbove (.ref 272)) none)
    (hC : Looks (model prog w) h (mroOf (.ref 272)) l₀) (hl : (l₀.dropWhile (· != .ref 272)).drop 1 = l) (X : K.In h)
    (hf : alongIn K name l = some (some (.builtin "list.__len__"))) (hx : h.get? x = some (accObj dx vs n)) (hi : Looks (model prog w) h (isSubtype (.ref 272) (.type "list")) true) (hxC : x ≠ 272) (hn : (name == ("__class__" : Str)) = false)
    (hq : Q (.done (.ret (.ref h.objs.size))) ⟨h.push (boundO "method-wrapper" "list.__len__" x), g, d, t, os⟩) :
    wpAny (model prog w) A (Builtin.«super.__getattribute__» ⟨[.ref so, .str name tk], []⟩) Q E ⟨h, g, d, t, os⟩ := by
  revert prog w A E K x dx vs n so l₀ l name tk Q h g d t os
  refine (?zh : ∀ prog w A E K x dx vs n so l₀ l name tk Q h g d t os, (?zP : _ → _ → _ → _ → _ → _ → _ → _ → _ → _ → _ → _ → _ → _ → _ → _ → _ → _ → _ → _ → Prop) prog w A E K x dx vs n so l₀ l name tk Q h g d t os)
  refine fun prog w A E K x dx vs n so l₀ l name tk Q h g d t os => allE (P := un2 fun prog => un2 fun w => un2 fun A => un2 fun E => un2 fun K => un2 fun x => un2 fun dx => un2 fun vs => un2 fun n => un2 fun so => un2 fun l₀ => un2 fun l => un2 fun name => un2 fun tk => un2 fun Q => un2 fun h => un2 fun g => un2 fun d => un2 fun t os => ?zP prog w A E K x dx vs n so l₀ l name tk Q h g d t os) ?zn ?zk (prog, w, A, E, K, x, dx, vs, n, so, l₀, l, name, tk, Q, h, g, d, t, os)
  case zn => walk_at "ne"
  clear prog w A E K x dx vs n so l₀ l name tk Q h g d t os
  refine (?zj : AtE _ ?zE)
  refine (?zF : ∀ prog w A E K x dx vs n so l₀ l name tk Q h g d t os, ?zP prog w A E K x dx vs n so l₀ l name tk Q h g d t os) ?zE.1 ?zE.2.1 ?zE.2.2.1 ?zE.2.2.2.1 ?zE.2.2.2.2.1 ?zE.2.2.2.2.2.1 ?zE.2.2.2.2.2.2.1 ?zE.2.2.2.2.2.2.2.1 ?zE.2.2.2.2.2.2.2.2.1 ?zE.2.2.2.2.2.2.2.2.2.1 ?zE.2.2.2.2.2.2.2.2.2.2.1 ?zE.2.2.2.2.2.2.2.2.2.2.2.1 ?zE.2.2.2.2.2.2.2.2.2.2.2.2.1 ?zE.2.2.2.2.2.2.2.2.2.2.2.2.2.1 ?zE.2.2.2.2.2.2.2.2.2.2.2.2.2.2.1 ?zE.2.2.2.2.2.2.2.2.2.2.2.2.2.2.2.1 ?zE.2.2.2.2.2.2.2.2.2.2.2.2.2.2.2.2.1 ?zE.2.2.2.2.2.2.2.2.2.2.2.2.2.2.2.2.2.1 ?zE.2.2.2.2.2.2.2.2.2.2.2.2.2.2.2.2.2.2.1 ?zE.2.2.2.2.2.2.2.2.2.2.2.2.2.2.2.2.2.2.2
  intros prog w A E K x dx vs n so l₀ l name tk Q h g d t os
  intro hso hno hC hl X hf hx hi hxC hn hq
  have hlk := wd_get.lookup
  have hne : (Value.ref x == Value.ref 272) = false := by simp [hxC]
  have hTf : (⟨h, g, d, t, os⟩ : Shared).TypeIs (.builtin "list.__len__") "wrapper_descriptor" := ty_len _
  have hdt : (ks_superObj 272 x 272).data = .fields #[.ref 272, .ref x, .ref 272] := rfl
  have f0 : (#[.ref 272, .ref x, .ref 272] : Array Value)[0]? = some (.ref 272) := rfl
  have f1 : (#[.ref 272, .ref x, .ref 272] : Array Value)[1]? = some (.ref x) := rfl
  have f2 : (#[.ref 272, .ref x, .ref 272] : Array Value)[2]? = some (.ref 272) := rfl
  have hcut : ".".intercalate ("list.__len__".cutAt '.').dropLast = "list" := by decide +kernel
  have hi' : Looks (model prog w) h (isSubtype (.ref 272) (.type (".".intercalate ("list.__len__".cutAt '.').dropLast))) true := hcut ▸ hi
  unfold Builtin.«super.__getattribute__»
  (simp only [hn, hne, Bool.or_false, Bool.false_eq_true, if_false])
  (with_reducible refine PySem.wpAny_bind ?_)
  wp_delta
  (with_reducible refine PySem.wpAny_pure ?_)
  ((with_reducible apply PySem.wpAny_ite_false); focus (rfl; done))
  (with_reducible refine PySem.wpAny_bind ?_)
  wp_delta
  (with_reducible refine PySem.wpAny_pure ?_)
  (simp only [hn, hne, Bool.or_false, Bool.false_eq_true, if_false])
  (with_reducible refine PySem.wpAny_bind ?_)
  (with_reducible refine wpAny_field hso hdt f0 ?_)
  (with_reducible refine PySem.wpAny_bind ?_)
  (with_reducible refine wpAny_field hso hdt f1 ?_)
  (with_reducible refine PySem.wpAny_bind ?_)
  (with_reducible refine wpAny_field hso hdt f2 ?_)
  (simp only [hn, hne, Bool.or_false, Bool.false_eq_true, if_false])
  ((with_reducible apply PySem.wpAny_ite_false); focus (rfl; done))
  (with_reducible refine PySem.wpAny_bind ?_)
  (with_reducible refine ks_wpAny_notOpaque hno ?_)
  ((with_reducible apply PySem.wpAny_ite_false); focus (rfl; done))
  (with_reducible refine PySem.wpAny_bind ?_)
  (with_reducible refine Looks.at hC ?_; rw [hl])
  (with_reducible refine PySem.wpAny_bind ?_)
  (refine ks_forIn_along X (fun _ _ => rfl) rfl ?_ hf)
  (simp only [hn, hne, Bool.or_false, Bool.false_eq_true, if_false])
  (with_reducible refine PySem.wpAny_bind ?_)
  (with_reducible refine wpAny_typeOf hTf ?_)
  (with_reducible refine PySem.wpAny_bind ?_)
  (with_reducible refine PySem.wpAny_of_eq (by assumption) ?_)
  (simp only [hn, hne, Bool.or_false, Bool.false_eq_true, if_false])
  (with_reducible refine PySem.wpAny_bind ?_)
  (with_reducible refine PySem.wpAny_holding ?_)
  (with_reducible refine wpAny_call_entry wd_get hTf wd_entry ?_ (wd_args _ _ _))
  wp_delta
  (simp only [hn, hne, Bool.or_false, Bool.false_eq_true, if_false])
  (with_reducible refine PySem.wpAny_bind ?_)
  wp_delta
  (simp only [hn, hne, Bool.or_false, Bool.false_eq_true, if_false])
  ((with_reducible apply PySem.wpAny_ite_false); focus (rfl; done))
  (with_reducible refine PySem.wpAny_bind ?_)
  (with_reducible refine PySem.wpAny_pure ?_)
  (simp only [hn, hne, Bool.or_false, Bool.false_eq_true, if_false])
  ((with_reducible apply PySem.wpAny_ite_false); focus (rfl; done))
  (with_reducible refine PySem.wpAny_pure ?_)
  (simp only [hn, hne, Bool.or_false, Bool.false_eq_true, if_false])
  wp_delta
  (with_reducible refine PySem.wpAny_bind ?_)
  wp_delta
  (simp only [hn, hne, Bool.or_false, Bool.false_eq_true, if_false])
  (with_reducible refine PySem.wpAny_bind ?_)
  wp_delta
  (with_reducible refine PySem.wpAny_pure ?_)
  (simp only [hn, hne, Bool.or_false, Bool.false_eq_true, if_false])
  (with_reducible refine PySem.wpAny_bind ?_)
  wp_delta
  (with_reducible refine PySem.wpAny_bind ?_)
  wp_delta
  (with_reducible refine PySem.wpAny_bind ?_)
  (with_reducible refine wpAny_loadPart_at hx ?_)
  (simp only [hn, hne, Bool.or_false, Bool.false_eq_true, if_false])
  (with_reducible refine PySem.wpAny_pure ?_)
  (with_reducible refine Looks.at hi' ?_)
  ((with_reducible apply PySem.wpAny_ite_false); focus (rfl; done))
  (with_reducible refine PySem.wpAny_pure ?_)
  (with_reducible refine PySem.wpAny_bind ?_)
  iterate 2 (wp_delta)
  (simp only [hn, hne, Bool.or_false, Bool.false_eq_true, if_false])
  ((with_reducible apply PySem.wpAny_ite_false); focus (rfl; done))
  wp_delta
  (simp only [hn, hne, Bool.or_false, Bool.false_eq_true, if_false])
  (with_reducible refine PySem.wpAny_bind ?_)
  (with_reducible refine PySem.wpAny_alloc' ?_)
  (with_reducible refine PySem.wpAny_pure ?_)
  wp_delta
  (with_reducible refine PySem.wpAny_pure ?_)
  (with_reducible refine ⟨_, rfl, ?_⟩)
  (with_reducible refine PySem.wpAny_bind ?_)
  wp_delta
  iterate 2 ((with_reducible refine PySem.wpAny_pure ?_))
  (simp only [hn, hne, Bool.or_false, Bool.false_eq_true, if_false])
  (with_reducible refine PySem.wpAny_pure ?_)
  all_goals (first | exact hq | trace_state)
theorem sup_ga_init {so : Addr} {l₀ l : List Value} {name : Str} {tk : Tok} {Q : Fin → Shared → Prop} {h : Heap} {g : Array GenState} {d : Drawn} {t : Nat} {os : OsState}
    (hso : h.get? so = some (ks_superObj 272 x 272)) (hno : Looks (model prog w) h (opaqueClassAbove (.ref 272)) none)
    (hC : Looks (model prog w) h (mroOf (.ref 272)) l₀) (hl : (l₀.dropWhile (· != .ref 272)).drop 1 = l) (X : K.In h)
    (hf : alongIn K name l = some (some (.builtin "list.__init__"))) (hx : h.get? x = some (accObj dx vs n)) (hi : Looks (model prog w) h (isSubtype (.ref 272) (.type "list")) true) (hxC : x ≠ 272) (hn : (name == ("__class__" : Str)) = false)
    (hq : Q (.done (.ret (.ref h.objs.size))) ⟨h.push (boundO "method-wrapper" "list.__init__" x), g, d, t, os⟩) :
    wpAny (model prog w) A (Builtin.«super.__getattribute__» ⟨[.ref so, .str name tk], []⟩) Q E ⟨h, g, d, t, os⟩ := by
  revert prog w A E K x dx vs n so l₀ l name tk Q h g d t os
  refine (?zh : ∀ prog w A E K x dx vs n so l₀ l name tk Q h g d t os, (?zP : _ → _ → _ → _ → _ → _ → _ → _ → _ → _ → _ → _ → _ → _ → _ → _ → _ → _ → _ → _ → Prop) prog w A E K x dx vs n so l₀ l name tk Q h g d t os)
  refine fun prog w A E K x dx vs n so l₀ l name tk Q h g d t os => allE (P := un2 fun prog => un2 fun w => un2 fun A => un2 fun E => un2 fun K => un2 fun x => un2 fun dx => un2 fun vs => un2 fun n => un2 fun so => un2 fun l₀ => un2 fun l => un2 fun name => un2 fun tk => un2 fun Q => un2 fun h => un2 fun g => un2 fun d => un2 fun t os => ?zP prog w A E K x dx vs n so l₀ l name tk Q h g d t os) ?zn ?zk (prog, w, A, E, K, x, dx, vs, n, so, l₀, l, name, tk, Q, h, g, d, t, os)
  case zn => walk_at "ne"
  clear prog w A E K x dx vs n so l₀ l name tk Q h g d t os
  refine (?zj : AtE _ ?zE)
  refine (?zF : ∀ prog w A E K x dx vs n so l₀ l name tk Q h g d t os, ?zP prog w A E K x dx vs n so l₀ l name tk Q h g d t os) ?zE.1 ?zE.2.1 ?zE.2.2.1 ?zE.2.2.2.1 ?zE.2.2.2.2.1 ?zE.2.2.2.2.2.1 ?zE.2.2.2.2.2.2.1 ?zE.2.2.2.2.2.2.2.1 ?zE.2.2.2.2.2.2.2.2.1 ?zE.2.2.2.2.2.2.2.2.2.1 ?zE.2.2.2.2.2.2.2.2.2.2.1 ?zE.2.2.2.2.2.2.2.2.2.2.2.1 ?zE.2.2.2.2.2.2.2.2.2.2.2.2.1 ?zE.2.2.2.2.2.2.2.2.2.2.2.2.2.1 ?zE.2.2.2.2.2.2.2.2.2.2.2.2.2.2.1 ?zE.2.2.2.2.2.2.2.2.2.2.2.2.2.2.2.1 ?zE.2.2.2.2.2.2.2.2.2.2.2.2.2.2.2.2.1 ?zE.2.2.2.2.2.2.2.2.2.2.2.2.2.2.2.2.2.1 ?zE.2.2.2.2.2.2.2.2.2.2.2.2.2.2.2.2.2.2.1 ?zE.2.2.2.2.2.2.2.2.2.2.2.2.2.2.2.2.2.2.2
  intros prog w A E K x dx vs n so l₀ l name tk Q h g d t os
  intro hso hno hC hl X hf hx hi hxC hn hq
  have hlk := wd_get.lookup
  have hne : (Value.ref x == Value.ref 272) = false := by simp [hxC]
  have hTf : (⟨h, g, d, t, os⟩ : Shared).TypeIs (.builtin "list.__init__") "wrapper_descriptor" := ty_init _
  have hdt : (ks_superObj 272 x 272).data = .fields #[.ref 272, .ref x, .ref 272] := rfl
  have f0 : (#[.ref 272, .ref x, .ref 272] : Array Value)[0]? = some (.ref 272) := rfl
  have f1 : (#[.ref 272, .ref x, .ref 272] : Array Value)[1]? = some (.ref x) := rfl
  have f2 : (#[.ref 272, .ref x, .ref 272] : Array Value)[2]? = some (.ref 272) := rfl
  have hcut : ".".intercalate ("list.__init__".cutAt '.').dropLast = "list" := by decide +kernel
  have hi' : Looks (model prog w) h (isSubtype (.ref 272) (.type (".".intercalate ("list.__init__".cutAt '.').dropLast))) true := hcut ▸ hi
  unfold Builtin.«super.__getattribute__»
  (simp only [hn, hne, Bool.or_false, Bool.false_eq_true, if_false])
  (with_reducible refine PySem.wpAny_bind ?_)
  wp_delta
  (with_reducible refine PySem.wpAny_pure ?_)
  ((with_reducible apply PySem.wpAny_ite_false); focus (rfl; done))
  (with_reducible refine PySem.wpAny_bind ?_)
  wp_delta
  (with_reducible refine PySem.wpAny_pure ?_)
  (simp only [hn, hne, Bool.or_false, Bool.false_eq_true, if_false])
  (with_reducible refine PySem.wpAny_bind ?_)
  (with_reducible refine wpAny_field hso hdt f0 ?_)
  (with_reducible refine PySem.wpAny_bind ?_)
  (with_reducible refine wpAny_field hso hdt f1 ?_)
  (with_reducible refine PySem.wpAny_bind ?_)
  (with_reducible refine wpAny_field hso hdt f2 ?_)
  (simp only [hn, hne, Bool.or_false, Bool.false_eq_true, if_false])
  ((with_reducible apply PySem.wpAny_ite_false); focus (rfl; done))
  (with_reducible refine PySem.wpAny_bind ?_)
  (with_reducible refine ks_wpAny_notOpaque hno ?_)
  ((with_reducible apply PySem.wpAny_ite_false); focus (rfl; done))
  (with_reducible refine PySem.wpAny_bind ?_)
  (with_reducible refine Looks.at hC ?_; rw [hl])
  (with_reducible refine PySem.wpAny_bind ?_)
  (refine ks_forIn_along X (fun _ _ => rfl) rfl ?_ hf)
  (simp only [hn, hne, Bool.or_false, Bool.false_eq_true, if_false])
  (with_reducible refine PySem.wpAny_bind ?_)
  (with_reducible refine wpAny_typeOf hTf ?_)
  (with_reducible refine PySem.wpAny_bind ?_)
  (with_reducible refine PySem.wpAny_of_eq (by assumption) ?_)
  (simp only [hn, hne, Bool.or_false, Bool.false_eq_true, if_false])
  (with_reducible refine PySem.wpAny_bind ?_)
  (with_reducible refine PySem.wpAny_holding ?_)
  (with_reducible refine wpAny_call_entry wd_get hTf wd_entry ?_ (wd_args _ _ _))
  wp_delta
  (simp only [hn, hne, Bool.or_false, Bool.false_eq_true, if_false])
  (with_reducible refine PySem.wpAny_bind ?_)
  wp_delta
  (simp only [hn, hne, Bool.or_false, Bool.false_eq_true, if_false])
  ((with_reducible apply PySem.wpAny_ite_false); focus (rfl; done))
  (with_reducible refine PySem.wpAny_bind ?_)
  (with_reducible refine PySem.wpAny_pure ?_)
  (simp only [hn, hne, Bool.or_false, Bool.false_eq_true, if_false])
  ((with_reducible apply PySem.wpAny_ite_false); focus (rfl; done))
  (with_reducible refine PySem.wpAny_pure ?_)
  (simp only [hn, hne, Bool.or_false, Bool.false_eq_true, if_false])
  wp_delta
  (with_reducible refine PySem.wpAny_bind ?_)
  wp_delta
  (simp only [hn, hne, Bool.or_false, Bool.false_eq_true, if_false])
  (with_reducible refine PySem.wpAny_bind ?_)
  wp_delta
  (with_reducible refine PySem.wpAny_pure ?_)
  (simp only [hn, hne, Bool.or_false, Bool.false_eq_true, if_false])
  (with_reducible refine PySem.wpAny_bind ?_)
  wp_delta
  (with_reducible refine PySem.wpAny_bind ?_)
  wp_delta
  (with_reducible refine PySem.wpAny_bind ?_)
  (with_reducible refine wpAny_loadPart_at hx ?_)
  (simp only [hn, hne, Bool.or_false, Bool.false_eq_true, if_false])
  (with_reducible refine PySem.wpAny_pure ?_)
  (with_reducible refine Looks.at hi' ?_)
  ((with_reducible apply PySem.wpAny_ite_false); focus (rfl; done))
  (with_reducible refine PySem.wpAny_pure ?_)
  (with_reducible refine PySem.wpAny_bind ?_)
  iterate 2 (wp_delta)
  (simp only [hn, hne, Bool.or_false, Bool.false_eq_true, if_false])
  ((with_reducible apply PySem.wpAny_ite_false); focus (rfl; done))
  wp_delta
  (simp only [hn, hne, Bool.or_false, Bool.false_eq_true, if_false])
  (with_reducible refine PySem.wpAny_bind ?_)
  (with_reducible refine PySem.wpAny_alloc' ?_)
  (with_reducible refine PySem.wpAny_pure ?_)
  wp_delta
  (with_reducible refine PySem.wpAny_pure ?_)
  (with_reducible refine ⟨_, rfl, ?_⟩)
  (with_reducible refine PySem.wpAny_bind ?_)
  wp_delta
  iterate 2 ((with_reducible refine PySem.wpAny_pure ?_))
  (simp only [hn, hne, Bool.or_false, Bool.false_eq_true, if_false])
  (with_reducible refine PySem.wpAny_pure ?_)
  all_goals (first | exact hq | trace_state)
end
end
section
open PySem PySem.W PyProof.Rows PySem.Flt PySem.Calls
set_option maxHeartbeats 1000000
section
variable {prog : Program} {w : World} {A : Around} {E : Value → Shared → Prop} {s : Shared} {K : Frag} {x dx so q : Addr} {vs : List Value} {n : Nat} {es : List DictEntry} {ne : Nat} {h₀ : Heap} {L : Addr} {m : Str → Option Value} {news news' : List (Addr × Obj)}
theorem sup_gm_pop {pl : Sem Bool} {Q : Value × List Value → Shared → Prop} (F : Fr h₀ L s.heap m) (X₀ : K.In h₀) (N : News h₀ L s.heap news) (hso : (so, ks_superObj 272 x 272) ∈ news) (hx : (x, accObj dx vs n) ∈ news) (hdx : (dx, dictOf es ne) ∈ news) (ho : nsIn K cStatics "thirdparty.any" = some none)
    (hm : ks_superIn K 272 272 (Str.ofString "pop") = some (some (.builtin "list.pop"))) (hsub : subIn K (.ref 272) (.type "list") = some true)
    (h : ∀ q h', Fr h₀ L h' m → News h₀ L h' ((q, boundO "builtin_function_or_method" "list.pop" x) :: news) → (∀ p ∈ news, p.1 < q) → Q (.ref q, []) { s with heap := h', toks := s.toks + 1 }) : wpAny (model prog w) A (getMethod (.ref so) (Str.ofString "pop") pl) Q E s := by
  have X : K.In s.heap := X₀.keeps F.keep
  have hxo := (N _ hx).1
  have hsoo := (N _ hso).1
  obtain ⟨hh, g, d, t, os⟩ := s
  cases hc : clsIn K 272 with
  | none => unfold ks_superIn at hm; rw [hc] at hm; cases hm
  | some cd =>
    unfold ks_superIn at hm
    rw [hc] at hm
    have hlk := PySem.F.ks_slot_super_ga.lookup
    have hcan := PySem.F.ks_canon_super_ga
    have hT : ∀ t', (⟨hh, g, d, t', os⟩ : Shared).TypeIs (.ref so) "super" := fun _ => ⟨_, hsoo, rfl⟩
    have hxC : x ≠ 272 := ks_ne X (acc_inst N hx hdx) hc
    unfold getMethod
    refine wpAny_bind (wpAny_specialOf (hT _) hlk ?_)
    show wpAny _ _ (if (Manifest.canonical "super.__getattribute__" != "object.__getattribute__") = true then _ else _) _ _ _
    rw [if_pos hcan]
    unfold getAttr getAttrBy
    refine wpAny_bind (wpAny_bind (wpAny_mkText (wpAny_holding (wpAny_bind (wpAny_typeOf (hT _) (wpAny_bind (wpAny_of_eq hlk ?_)))))))
    show wpAny _ _ (getAttrByItsOwn (.ref so) (.str (Str.ofString "pop") t) (.type "super") (.builtin "super.__getattribute__") true false) _ _ _
    unfold getAttrByItsOwn hookBefore callGetattribute boundAndCalled
    refine wpAny_bind (wpAny_of_eq (show (if onTheHeap (.type "super") then typeLookup (.type "super") "__getattr__" else pure none) = pure none from rfl) ?_)
    refine wpAny_bind (wpAny_attempt (wpAny_holding ?_))
    show wpAny _ _ (bindSpecial (.builtin "super.__getattribute__") (.ref so) >>= _) _ _ _
    refine wpAny_bind (wpAny_of_eq (PySem.F.ks_slot_super_ga.bind _) ?_)
    refine wpAny_mono (Q := fun v s' => v = .ref hh.objs.size ∧ s' = ⟨hh.push (boundO "builtin_function_or_method" "list.pop" x), g, d, t + 1, os⟩) (E := fun _ _ => False)
      (wpAny_call_entry PySem.F.ks_slot_super_ga (hT _) PySem.F.ks_entry_super_ga (sup_ga_pop hsoo (looks_opaque X ho) (l₀ := cd.mro) (fun A Q E s k q => wpAny_bind ((looks_clsIn X hc) A _ E s k (wpAny_pure q))) rfl X hm hxo (looks_subIn X hsub) hxC (by decide) ⟨_, rfl, rfl, rfl⟩) (PySem.F.ks_gaArgs_super _ _)) (fun v s' hv => ?_) fun _ _ z => z.elim
    obtain ⟨rfl, rfl⟩ := hv
    obtain ⟨F', N', l'⟩ := ks_newsPush (s := ⟨hh, g, d, t, os⟩) (o := boundO "builtin_function_or_method" "list.pop" x) F N rfl (Heap.get?_push_at rfl rfl) (fun b o e => Heap.get?_push_of_some _ e)
    exact wpAny_pure (wpAny_pure (h _ _ F' N' l'))
theorem sup_gm_len {pl : Sem Bool} {Q : Value × List Value → Shared → Prop} (F : Fr h₀ L s.heap m) (X₀ : K.In h₀) (N : News h₀ L s.heap news) (hso : (so, ks_superObj 272 x 272) ∈ news) (hx : (x, accObj dx vs n) ∈ news) (hdx : (dx, dictOf es ne) ∈ news) (ho : nsIn K cStatics "thirdparty.any" = some none)
    (hm : ks_superIn K 272 272 (Str.ofString "__len__") = some (some (.builtin "list.__len__"))) (hsub : subIn K (.ref 272) (.type "list") = some true)
    (h : ∀ q h', Fr h₀ L h' m → News h₀ L h' ((q, boundO "method-wrapper" "list.__len__" x) :: news) → (∀ p ∈ news, p.1 < q) → Q (.ref q, []) { s with heap := h', toks := s.toks + 1 }) : wpAny (model prog w) A (getMethod (.ref so) (Str.ofString "__len__") pl) Q E s := by
  have X : K.In s.heap := X₀.keeps F.keep
  have hxo := (N _ hx).1
  have hsoo := (N _ hso).1
  obtain ⟨hh, g, d, t, os⟩ := s
  cases hc : clsIn K 272 with
  | none => unfold ks_superIn at hm; rw [hc] at hm; cases hm
  | some cd =>
    unfold ks_superIn at hm
    rw [hc] at hm
    have hlk := PySem.F.ks_slot_super_ga.lookup
    have hcan := PySem.F.ks_canon_super_ga
    have hT : ∀ t', (⟨hh, g, d, t', os⟩ : Shared).TypeIs (.ref so) "super" := fun _ => ⟨_, hsoo, rfl⟩
    have hxC : x ≠ 272 := ks_ne X (acc_inst N hx hdx) hc
    unfold getMethod
    refine wpAny_bind (wpAny_specialOf (hT _) hlk ?_)
    show wpAny _ _ (if (Manifest.canonical "super.__getattribute__" != "object.__getattribute__") = true then _ else _) _ _ _
    rw [if_pos hcan]
    unfold getAttr getAttrBy
    refine wpAny_bind (wpAny_bind (wpAny_mkText (wpAny_holding (wpAny_bind (wpAny_typeOf (hT _) (wpAny_bind (wpAny_of_eq hlk ?_)))))))
    show wpAny _ _ (getAttrByItsOwn (.ref so) (.str (Str.ofString "__len__") t) (.type "super") (.builtin "super.__getattribute__") true false) _ _ _
    unfold getAttrByItsOwn hookBefore callGetattribute boundAndCalled
    refine wpAny_bind (wpAny_of_eq (show (if onTheHeap (.type "super") then typeLookup (.type "super") "__getattr__" else pure none) = pure none from rfl) ?_)
    refine wpAny_bind (wpAny_attempt (wpAny_holding ?_))
    show wpAny _ _ (bindSpecial (.builtin "super.__getattribute__") (.ref so) >>= _) _ _ _
    refine wpAny_bind (wpAny_of_eq (PySem.F.ks_slot_super_ga.bind _) ?_)
    refine wpAny_mono (Q := fun v s' => v = .ref hh.objs.size ∧ s' = ⟨hh.push (boundO "method-wrapper" "list.__len__" x), g, d, t + 1, os⟩) (E := fun _ _ => False)
      (wpAny_call_entry PySem.F.ks_slot_super_ga (hT _) PySem.F.ks_entry_super_ga (sup_ga_len hsoo (looks_opaque X ho) (l₀ := cd.mro) (fun A Q E s k q => wpAny_bind ((looks_clsIn X hc) A _ E s k (wpAny_pure q))) rfl X hm hxo (looks_subIn X hsub) hxC (by decide) ⟨_, rfl, rfl, rfl⟩) (PySem.F.ks_gaArgs_super _ _)) (fun v s' hv => ?_) fun _ _ z => z.elim
    obtain ⟨rfl, rfl⟩ := hv
    obtain ⟨F', N', l'⟩ := ks_newsPush (s := ⟨hh, g, d, t, os⟩) (o := boundO "method-wrapper" "list.__len__" x) F N rfl (Heap.get?_push_at rfl rfl) (fun b o e => Heap.get?_push_of_some _ e)
    exact wpAny_pure (wpAny_pure (h _ _ F' N' l'))
theorem sup_gm_init {pl : Sem Bool} {Q : Value × List Value → Shared → Prop} (F : Fr h₀ L s.heap m) (X₀ : K.In h₀) (N : News h₀ L s.heap news) (hso : (so, ks_superObj 272 x 272) ∈ news) (hx : (x, accObj dx vs n) ∈ news) (hdx : (dx, dictOf es ne) ∈ news) (ho : nsIn K cStatics "thirdparty.any" = some none)
    (hm : ks_superIn K 272 272 (Str.ofString "__init__") = some (some (.builtin "list.__init__"))) (hsub : subIn K (.ref 272) (.type "list") = some true)
    (h : ∀ q h', Fr h₀ L h' m → News h₀ L h' ((q, boundO "method-wrapper" "list.__init__" x) :: news) → (∀ p ∈ news, p.1 < q) → Q (.ref q, []) { s with heap := h', toks := s.toks + 1 }) : wpAny (model prog w) A (getMethod (.ref so) (Str.ofString "__init__") pl) Q E s := by
  have X : K.In s.heap := X₀.keeps F.keep
  have hxo := (N _ hx).1
  have hsoo := (N _ hso).1
  obtain ⟨hh, g, d, t, os⟩ := s
  cases hc : clsIn K 272 with
  | none => unfold ks_superIn at hm; rw [hc] at hm; cases hm
  | some cd =>
    unfold ks_superIn at hm
    rw [hc] at hm
    have hlk := PySem.F.ks_slot_super_ga.lookup
    have hcan := PySem.F.ks_canon_super_ga
    have hT : ∀ t', (⟨hh, g, d, t', os⟩ : Shared).TypeIs (.ref so) "super" := fun _ => ⟨_, hsoo, rfl⟩
    have hxC : x ≠ 272 := ks_ne X (acc_inst N hx hdx) hc
    unfold getMethod
    refine wpAny_bind (wpAny_specialOf (hT _) hlk ?_)
    show wpAny _ _ (if (Manifest.canonical "super.__getattribute__" != "object.__getattribute__") = true then _ else _) _ _ _
    rw [if_pos hcan]
    unfold getAttr getAttrBy
    refine wpAny_bind (wpAny_bind (wpAny_mkText (wpAny_holding (wpAny_bind (wpAny_typeOf (hT _) (wpAny_bind (wpAny_of_eq hlk ?_)))))))
    show wpAny _ _ (getAttrByItsOwn (.ref so) (.str (Str.ofString "__init__") t) (.type "super") (.builtin "super.__getattribute__") true false) _ _ _
    unfold getAttrByItsOwn hookBefore callGetattribute boundAndCalled
    refine wpAny_bind (wpAny_of_eq (show (if onTheHeap (.type "super") then typeLookup (.type "super") "__getattr__" else pure none) = pure none from rfl) ?_)
    refine wpAny_bind (wpAny_attempt (wpAny_holding ?_))
    show wpAny _ _ (bindSpecial (.builtin "super.__getattribute__") (.ref so) >>= _) _ _ _
    refine wpAny_bind (wpAny_of_eq (PySem.F.ks_slot_super_ga.bind _) ?_)
    refine wpAny_mono (Q := fun v s' => v = .ref hh.objs.size ∧ s' = ⟨hh.push (boundO "method-wrapper" "list.__init__" x), g, d, t + 1, os⟩) (E := fun _ _ => False)
      (wpAny_call_entry PySem.F.ks_slot_super_ga (hT _) PySem.F.ks_entry_super_ga (sup_ga_init hsoo (looks_opaque X ho) (l₀ := cd.mro) (fun A Q E s k q => wpAny_bind ((looks_clsIn X hc) A _ E s k (wpAny_pure q))) rfl X hm hxo (looks_subIn X hsub) hxC (by decide) ⟨_, rfl, rfl, rfl⟩) (PySem.F.ks_gaArgs_super _ _)) (fun v s' hv => ?_) fun _ _ z => z.elim
    obtain ⟨rfl, rfl⟩ := hv
    obtain ⟨F', N', l'⟩ := ks_newsPush (s := ⟨hh, g, d, t, os⟩) (o := boundO "method-wrapper" "list.__init__" x) F N rfl (Heap.get?_push_at rfl rfl) (fun b o e => Heap.get?_push_of_some _ e)
    exact wpAny_pure (wpAny_pure (h _ _ F' N' l'))
theorem bound_open {T i : String} {args : List Value} {R : Result → Shared → Prop} (hT : T = "builtin_function_or_method" ∨ T = "method-wrapper") (hq : s.heap.get? q = some (boundO T i x)) (hp : (Code.builtin i ⟨.ref x :: args, []⟩).quiet = true)
    (h : wpAny (model prog w) A.in1 (checkBoundCall i ⟨.ref x :: args, []⟩) (fun _ s₁ => codeAny (model prog w) A (.builtin i ⟨.ref x :: args, []⟩) R s₁) (fun e s' => R (.error e) s') s) : codeAny (model prog w) A (.call (.ref q) ⟨args, []⟩) R s := by
  refine codeAny_of_tree ?_
  show wpAny _ A.in1 (callAny (.ref q) ⟨args, []⟩) _ _ _
  unfold callAny
  refine wpAny_bind (wpAny_load hq ?_)
  rcases hT with rfl | rfl
  · exact wpAny_bind (wpAny_mono h (fun _ s₁ h₁ => wpAny_pure ⟨hp, h₁⟩) fun _ _ z => z)
  · exact wpAny_bind (wpAny_mono h (fun _ s₁ h₁ => wpAny_pure ⟨hp, h₁⟩) fun _ _ z => z)
theorem len_args (a : Value) : checkBoundCall "list.__len__" ⟨[a], []⟩ = pure () := by kernel_rfl
theorem init_args (a : Value) : checkBoundCall "list.__init__" ⟨[a], []⟩ = pure () := by kernel_rfl
theorem sup_len_call {Q : Value → Shared → Prop} (N : News h₀ L s.heap news) (hq : (q, boundO "method-wrapper" "list.__len__" x) ∈ news) (hx : (x, accObj dx vs n) ∈ news)
    (h : ∀ t tk, Q (.int (vs.length : Int) t) { s with toks := tk }) : wpAny (model prog w) A (call (.ref q) []) Q E s := by
  refine wpAny_call (bound_open (.inr rfl) (N _ hq).1 (plainId_quiet (by decide +kernel) _) ?_)
  rw [len_args]
  refine wpAny_pure (codeAny_builtin PySem.entry_list_len ?_)
  have hxo := (N _ hx).1
  obtain ⟨hh, g, d, t, os⟩ := s
  unfold Builtin.«list.__len__» seqSize
  repeat (first | (with_reducible refine wpAny_loadPart_at hxo ?_) | wp_step)
  all_goals (first | (have := h t (t + 1); simpa using this) | trace_state)
end
end
section
open PySem PySem.W PyProof.Rows PySem.Flt PySem.Calls
set_option maxHeartbeats 1000000
noncomputable def SeqAt (h : Heap) (l : Addr) (items : Array Value) : Prop := ∃ o n, h.get? l = some o ∧ o.data = .seq items n
section
variable {prog : Program} {w : World} {A : Around} {E : Value → Shared → Prop} {s : Shared} {K : Frag} {x dx : Addr} {vs : List Value} {n : Nat} {es : List DictEntry} {ne : Nat} {h₀ : Heap} {L : Addr} {m : Str → Option Value} {news news' : List (Addr × Obj)}
theorem SeqAt.at {h h' : Heap} {l : Addr} {items : Array Value} (H : SeqAt h l items) (k : ∀ o, h.get? l = some o → h'.get? l = some o) : SeqAt h' l items := let ⟨o, n, e, d⟩ := H; ⟨o, n, k _ e, d⟩
theorem acc_iter {Q : Value → Shared → Prop} (F : Fr h₀ L s.heap m) (X₀ : K.In h₀) (N : News h₀ L s.heap news) (hx : (x, accObj dx vs n) ∈ news) (hdx : (dx, dictOf es ne) ∈ news) (hm : subIn K (.ref 272) (.type "list") = some true) (hs : findIn K (.ref 272) "__iter__" = some (some (.builtin "list.__iter__")))
    (hQ : Q (.ref s.heap.objs.size) { s with heap := s.heap.push { cls := .type "list_iterator", data := .fields #[.ref x, .int 0 0] } }) : wpAny (model prog w) A (pyIter (.ref x)) Q E s := by
  have X := X₀.keeps F.keep
  have I := acc_inst N hx hdx
  have cal : wpAny (model prog w) A (call (.builtin "list.__iter__") [.ref x]) (fun it s' => it = .ref s.heap.objs.size ∧ s' = { s with heap := s.heap.push { cls := .type "list_iterator", data := .fields #[.ref x, .int 0 0] } }) E s := by
    refine call_slot0 (by decide +kernel) entry_list_iter (owner := "list") (n := "__iter__") (by decide +kernel) (by decide +kernel) (acc_isList X hm (N _ hx).1) (args_list_iter _) ?_
    show wpAny _ _ (do ret (← newFields "list_iterator" [.ref x, rawInt 0])) _ _ s
    exact wpAny_bind (wpAny_newObj_type (wpAny_pure ⟨_, rfl, rfl, rfl⟩))
  have one : ∀ refuse : Sem Value, wpAny (model prog w) A (callSpecialIfBoundUnlessNone? (.ref x) "__iter__" refuse) (fun r s' => r = some (.ref s.heap.objs.size) ∧ s' = { s with heap := s.heap.push { cls := .type "list_iterator", data := .fields #[.ref x, .int 0 0] } }) E s := by
    intro refuse
    simp only [callSpecialIfBoundUnlessNone?, bindSpecialIfBound?]
    refine wpAny_holding (wpAny_bind (wpAny_bind (wpAny_bind (I.type.here ((looks_findIn X hs).here ?_)))))
    simp only [slot_list_iter.bind]
    refine wpAny_bind (wpAny_askSetting (wpAny_ite ?_))
    have fin : wpAny (model prog w) A (if (Value.builtin "list.__iter__" == Value.none) = true then (refuse >>= fun v => pure (some v)) else (call (.builtin "list.__iter__") [.ref x] >>= fun v => pure (some v))) (fun r s' => r = some (.ref s.heap.objs.size) ∧ s' = { s with heap := s.heap.push { cls := .type "list_iterator", data := .fields #[.ref x, .int 0 0] } }) E s := by
      rw [if_neg (by simp)]
      exact wpAny_bind (wpAny_mono cal (fun v s' h' => wpAny_pure ⟨by rw [h'.1], h'.2⟩) fun _ _ z => z)
    split
    · exact wpAny_bind (wpAny_pure (wpAny_pure fin))
    · exact wpAny_tryCatch (wpAny_bind (wpAny_pure (wpAny_pure fin)))
  unfold pyIter
  refine wpAny_bind (wpAny_bind (I.type.here ((looks_findIn X hs).here ?_)))
  refine wpAny_bind (wpAny_mono (one _) (fun r s' h' => ?_) fun _ _ z => z)
  obtain ⟨rfl, rfl⟩ := h'
  refine wpAny_bind (wpAny_specialOf (T := "list_iterator") ⟨_, Heap.get?_push_size _ rfl, rfl⟩ slot_listiter_next.lookup (wpAny_pure hQ))
theorem acc_next {it l : Addr} {i : Nat} {items : Array Value} {v : Value} {Q : Option Value → Shared → Prop} (hit : s.heap.IsListIter it l i) (hl : SeqAt s.heap l items) (hv : items[i]? = some v)
    (hQ : ∀ h', h'.IsListIter it l (i + 1) → Heap.SameBut it s.heap h' → Q (some v) { s with heap := h' }) : wpAny (model prog w) A (pyNext (.ref it)) Q E s := by
  obtain ⟨o, ho, hc, hd⟩ := id hit
  obtain ⟨ol, nl, hol, hdl⟩ := hl
  have body : wpAny (model prog w) A.in1 (Builtin.«list_iterator.__next__» ⟨[.ref it], []⟩) (fun fin s' => ∃ y, fin = .done (.ret y) ∧ y = v ∧ ∃ h', h'.IsListIter it l (i + 1) ∧ Heap.SameBut it s.heap h' ∧ s' = { s with heap := h' }) (fun _ _ => False) s := by
    show wpAny _ _ (field (.ref it) 0 >>= _) _ _ s
    refine wpAny_bind (wpAny_field ho hd (x := .ref l) rfl ?_)
    show wpAny _ _ (if (Value.ref l == Value.none) = true then _ else _) _ _ s
    rw [if_neg (by simp)]
    show wpAny _ _ (field (.ref it) 1 >>= _) _ _ s
    refine wpAny_bind (wpAny_field ho hd (x := .int i 0) rfl ?_)
    show wpAny _ _ (seqItems? (.ref l) >>= _) _ _ s
    refine wpAny_bind (wpAny_seqItems hol hdl ?_)
    simp only [Int.toNat_natCast, hv]
    refine wpAny_bind (wpAny_setField ho hd (by simp) (wpAny_pure ⟨v, rfl, rfl, _, ?_, Heap.SameBut.update .., rfl⟩))
    exact ⟨_, Heap.get?_update_self _ ho (Obj.isFreed_of_fields (Obj.data_mapFields hd _)), (Obj.cls_mapFields ..).trans hc, by rw [Obj.data_mapFields hd]; simp [rawInt]⟩
  unfold pyNext
  refine wpAny_bind (wpAny_attempt (wpAny_callSpecial?_slot (name := Str.ofString "__next__") hit.typeIs slot_listiter_next (wpAny_call_entry slot_listiter_next hit.typeIs entry_listiter_next (wpAny_mono body (fun fin s' h => ?_) fun _ _ z => z.elim) (args_listiter_next _))))
  obtain ⟨y, rfl, rfl, h', h1, h2, rfl⟩ := h
  exact ⟨_, rfl, wpAny_pure (hQ h' h1 h2)⟩
theorem acc_stop {it l : Addr} {i : Nat} {items : Array Value} {Q : Option Value → Shared → Prop} (hh : A.handled = none) (hit : s.heap.IsListIter it l i) (hl : SeqAt s.heap l items) (hv : items[i]? = none)
    (hQ : ∀ h', Heap.ExtBut it s.heap h' → Q none { s with heap := h' }) : wpAny (model prog w) A (pyNext (.ref it)) Q E s := by
  revert prog w A E s it l i items Q
  refine (?zh : ∀ prog w A E s it l i items Q, (?zP : _ → _ → _ → _ → _ → _ → _ → _ → _ → _ → Prop) prog w A E s it l i items Q)
  refine fun prog w A E s it l i items Q => allE (P := un2 fun prog => un2 fun w => un2 fun A => un2 fun E => un2 fun s => un2 fun it => un2 fun l => un2 fun i => un2 fun items Q => ?zP prog w A E s it l i items Q) ?zn ?zk (prog, w, A, E, s, it, l, i, items, Q)
  case zn => walk_at "ne"
  clear prog w A E s it l i items Q
  refine (?zj : AtE _ ?zE)
  refine (?zF : ∀ prog w A E s it l i items Q, ?zP prog w A E s it l i items Q) ?zE.1 ?zE.2.1 ?zE.2.2.1 ?zE.2.2.2.1 ?zE.2.2.2.2.1 ?zE.2.2.2.2.2.1 ?zE.2.2.2.2.2.2.1 ?zE.2.2.2.2.2.2.2.1 ?zE.2.2.2.2.2.2.2.2.1 ?zE.2.2.2.2.2.2.2.2.2
  intros prog w A E s it l i items Q
  intro hh hit hl hv hQ
  obtain ⟨o, ho, hc, hd⟩ := id hit
  obtain ⟨ol, nl, hol, hdl⟩ := hl
  have body : wpAny (model prog w) A.in1 (Builtin.«list_iterator.__next__» ⟨[.ref it], []⟩) (fun _ _ => False) (fun e s' => s'.TypeIs e "StopIteration" ∧ ∃ h', Heap.ExtBut it s.heap h' ∧ s' = { s with heap := h' }) s := by
    show wpAny _ _ (field (.ref it) 0 >>= _) _ _ s
    refine wpAny_bind (wpAny_field ho hd (x := .ref l) rfl ?_)
    show wpAny _ _ (if (Value.ref l == Value.none) = true then _ else _) _ _ s
    rw [if_neg (by simp)]
    show wpAny _ _ (field (.ref it) 1 >>= _) _ _ s
    refine wpAny_bind (wpAny_field ho hd (x := .int i 0) rfl ?_)
    show wpAny _ _ (seqItems? (.ref l) >>= _) _ _ s
    refine wpAny_bind (wpAny_seqItems hol hdl ?_)
    simp only [Int.toNat_natCast, hv]
    refine wpAny_bind (wpAny_rule (wpAny_bind (wpAny_setField ho hd (by simp) ?_)))
    show wpAny _ _ (newExc (.type "StopIteration") [] >>= _) _ _ _
    refine wpAny_bind ?_
    simp only [newExc, newTuple]
    refine wpAny_bind (wpAny_newObj_type ?_ (by size_fits))
    refine wpAny_bind (m := firstArgMember _ _) (wpAny_of_eq (a := Value.none) (by first | rfl | (simp only [firstArgMember]; rfl)) ?_)
    refine wpAny_newObj_type ?_ (by size_fits)
    simp only [raiseNew]
    refine wpAny_bind (wpAny_handled ?_)
    rw [show A.in1.handled = none from hh]
    refine wpAny_bind (wpAny_pure (wpAny_throw ⟨⟨_, Heap.get?_push_size _ rfl, rfl⟩, _, ((Heap.SameBut.update ..).extBut.push _).push _, rfl⟩))
  unfold pyNext
  refine wpAny_bind (wpAny_attempt (wpAny_callSpecial?_slot (name := Str.ofString "__next__") hit.typeIs slot_listiter_next (wpAny_call_entry slot_listiter_next hit.typeIs entry_listiter_next (wpAny_mono body (fun _ _ z => z.elim) fun e s' h => ?_) (args_listiter_next _))))
  obtain ⟨hT, h', h1, rfl⟩ := h
  exact wpAny_bind (wpAny_isInstance (b := true) hT isSubtype_stop (wpAny_pure (hQ h' h1)))
end
theorem walksAcc {prog : Program} {w : World} {A : Around} (hh : A.handled = none) (I ax : Addr) (hne : ax ≠ I) (items : Array Value) (Ts : Nat → Addr) (vals : Nat → Array Value)
    (hit : ∀ j, j < items.size → items[j]? = some (.ref (Ts j))) (hTI : ∀ j, j < items.size → Ts j ≠ I) :
    WalksU prog w A I (I :: ax :: (List.range items.size).map Ts) [I] items.size (fun j v => j < items.size ∧ v = vals j)
      (fun j h => h.IsListIter I ax j ∧ SeqAt h ax items ∧ ∀ k, k < items.size → h.IsTuple (Ts k) (vals k))
      (fun j T h => (j < items.size ∧ T = Ts j) ∧ h.IsListIter I ax (j + 1) ∧ SeqAt h ax items ∧ ∀ k, k < items.size → h.IsTuple (Ts k) (vals k)) where
  sub := fun b hb => by simp at hb; simp [hb]
  frame := fun _ _ _ st hk => ⟨st.1.at fun o e => hk I (by simp) o e, st.2.1.at fun o e => hk ax (by simp) o e,
    fun k hk' => (st.2.2 k hk').at fun o e => hk (Ts k) (List.mem_cons_of_mem _ (List.mem_cons_of_mem _ (List.mem_map.mpr ⟨k, List.mem_range.mpr hk', rfl⟩))) o e⟩
  item := fun i s Q E hi st hQ => by
    refine acc_next st.1 st.2.1 (hit i hi) fun h' hit' hs' => ?_
    have tup : ∀ k, k < items.size → h'.IsTuple (Ts k) (vals k) := fun k hk' => (st.2.2 k hk').extBut hs'.extBut (hTI k hk')
    exact hQ (Ts i) (vals i) h' s.toks ⟨hi, rfl⟩ (tup i hi) ⟨⟨hi, rfl⟩, hit', st.2.1.at (fun o e => hs'.extBut _ o hne e), tup⟩ fun b o hb e => hs'.extBut b o (fun h => hb (by simp [h])) e
  go := fun _ _ _ _ _ s Q _ hm hQ => wpAny_letOwnedTupleGo_listiter hm.2.1 (hQ s.heap hm.2 fun _ _ _ e => e)
  apart := fun j T _ hm hmem => by
    rcases List.mem_cons.mp hmem with e | e
    · exact hTI j hm.1.1 (hm.1.2 ▸ e)
    · cases e
  done := fun s Q E st hQ => acc_stop hh st.1 st.2.1 (by simp) fun h' he' => hQ h' s.toks fun b o hb e => he' b o (fun h => hb (by simp [h])) e
  self := fun _ _ _ _ st hQ => wpAny_pyIter_listiter st.1 hQ
end
section
open PySem PySem.W PyProof.Rows PySem.Flt PySem.Calls
set_option maxHeartbeats 1000000
theorem Keeps.refl' (s : Shared) : Keeps s s := ⟨s.heap, s.toks, rfl, fun _ _ e => e⟩
theorem Keeps.toks' {s s' : Shared} {tk : Nat} (h : Keeps s s') : Keeps s { s' with toks := tk } := let ⟨h', t', e, k⟩ := h; ⟨h', tk, by rw [e], k⟩
section
variable {prog : Program} {w : World} {A : Around} {E : Value → Shared → Prop} {s : Shared} {C : Addr} {cl : List (Str × Addr)} {code : Value} {env : Env} {scope : Scope} {mm mg mb : Str → Option Value}
theorem g_local {x : Str} {pos : Pos} {v : Value} {Q : Value → Shared → Prop} (hn : s.heap.Ns C mm) (hk : scope.kind = .function) (hl : scope.names.lookup x = some .local) (hd : (x == ("__debug__" : Str)) = false) (hv : mm x = some v) (h : Q v s) :
    wpAny (model prog w) A (eval (.Name x pos) (genEnv scope cl C code builtinsNs env)) Q E s :=
  wpAny_Name (wpAny_loadName_local hk hl hn hv h) hd
theorem g_builtin {x : Str} {pos : Pos} {v : Value} {Q : Value → Shared → Prop} (hge : env.globals = mainGlobals) (G : s.heap.Ns mainGlobals mg) (hmg : mg x = none) (Bn : s.heap.Ns builtinsNs mb) (hmb : mb x = some v)
    (hk : scope.kind = .function) (hl : scope.names.lookup x = some .globalImplicit) (hd : (x == ("__debug__" : Str)) = false) (h : Q v s) :
    wpAny (model prog w) A (eval (.Name x pos) (genEnv scope cl C code builtinsNs env)) Q E s :=
  Name_function_global hk hl (loadGlobal_builtin (env := genEnv scope cl C code builtinsNs env) (show s.heap.Ns env.globals mg from hge ▸ G) hmg Bn hmb h) hd
theorem g_global {x : Str} {pos : Pos} {v : Value} {Q : Value → Shared → Prop} (hge : env.globals = mainGlobals) (G : s.heap.Ns mainGlobals mg) (hmg : mg x = some v)
    (hk : scope.kind = .function) (hl : scope.names.lookup x = some .globalImplicit) (hd : (x == ("__debug__" : Str)) = false) (h : Q v s) :
    wpAny (model prog w) A (eval (.Name x pos) (genEnv scope cl C code builtinsNs env)) Q E s :=
  Name_function_global hk hl (loadGlobal_global (env := genEnv scope cl C code builtinsNs env) (show s.heap.Ns env.globals mg from hge ▸ G) hmg h) hd
theorem elt_len {p1 p2 p3 p4 p5 p6 p7 : Pos} {a b : Str} {ta tb : Tok} (hn : s.heap.Ns C mm) (h1 : mm (Str.ofString "fws") = some (.str a ta)) (h2 : mm (Str.ofString "part") = some (.str b tb)) (ha : a.length ≤ 1000) (hb : b.length ≤ 1000)
    (hge : env.globals = mainGlobals) (G : s.heap.Ns mainGlobals mg) (hmg : mg (Str.ofString "len") = none) (Bn : s.heap.Ns builtinsNs mb) (hmb : mb (Str.ofString "len") = some (.builtin "len"))
    (hk : scope.kind = .function) (hl1 : scope.names.lookup (Str.ofString "fws") = some .local) (hl2 : scope.names.lookup (Str.ofString "part") = some .local) (hl3 : scope.names.lookup (Str.ofString "len") = some .globalImplicit) :
    wpAny (model prog w) A (eval (.BinOp (.Call (.Name (Str.ofString "len") p1) [.Name (Str.ofString "fws") p2] [] p3) .Add (.Call (.Name (Str.ofString "len") p4) [.Name (Str.ofString "part") p5] [] p6) p7) (genEnv scope cl C code builtinsNs env))
      (fun y s' => (∃ t, y = .int ((a.length : Int) + (b.length : Int)) t) ∧ Keeps s s') E s := by
  have one : ∀ {x : Str} {pp q r : Pos} {c : Str} {t : Tok} {Q : Value → Shared → Prop}, mm x = some (.str c t) → scope.names.lookup x = some .local → (x == ("__debug__" : Str)) = false → c.length ≤ 1000 → ∀ tk0, (∀ t' tk, Q (.int (c.length : Int) t') { s with toks := tk }) →
      wpAny (model prog w) A (eval (.Call (.Name (Str.ofString "len") pp) [.Name x q] [] r) (genEnv scope cl C code builtinsNs env)) Q E { s with toks := tk0 } := by
    intro x pp q r c t Q hx hlx hdx hc tk0 hQ
    refine Call_ ?_
    refine g_builtin hge G hmg Bn hmb hk hl3 (by decide) ?_
    refine PyProof.Rows.callWith_builtin1 (e := .Name x q) (rest := []) ?_
    refine Calls.spliced_cons (g_local hn hk hlx hdx hx ?_)
    refine Calls.spliced_nil ?_
    exact len_str (by omega) (hQ _ _)
  refine wpAny_BinOp ?_
  refine one h1 hl1 (by decide) ha s.toks fun t1 tk1 => ?_
  refine one h2 hl2 (by decide) hb tk1 fun t2 tk2 => ?_
  exact PyProof.Rows.add_int ⟨⟨_, rfl⟩, s.heap, _, rfl, fun _ _ e => e⟩
theorem joinSmall {a b : Str} (ha : a.length ≤ 1000) (hb : b.length ≤ 1000) : (([a, b] : List Str).map (·.length)).sum + ([a, b] : List Str).length * (Str.ofString "").length ≤ 16777216 := by
  have e : (Str.ofString "").length = 0 := by decide
  simp only [List.map_cons, List.map_nil, List.sum_cons, List.sum_nil, List.length_cons, List.length_nil, e]
  omega
theorem elt_str {p1 p2 p3 p4 p5 p6 : Pos} {kt : Nat} {pl : Sem Bool} {a b : Str} {ta tb te : Tok} (hn : s.heap.Ns C mm) (h1 : mm (Str.ofString "fws") = some (.str a ta)) (h2 : mm (Str.ofString "part") = some (.str b tb)) (ha : a.length ≤ 1000) (hb : b.length ≤ 1000)
    (hge : env.globals = mainGlobals) (G : s.heap.Ns mainGlobals mg) (hmg : mg (Str.ofString "EMPTYSTRING") = some (.str (Str.ofString "") te))
    (hk : scope.kind = .function) (hl1 : scope.names.lookup (Str.ofString "fws") = some .local) (hl2 : scope.names.lookup (Str.ofString "part") = some .local) (hl3 : scope.names.lookup (Str.ofString "EMPTYSTRING") = some .globalImplicit)
    (he : eval (.Call (.Attribute (.Name (Str.ofString "EMPTYSTRING") p1) (Str.ofString "join") p2) [.Tuple [.Name (Str.ofString "fws") p3, .Name (Str.ofString "part") p4] kt p5] [] p6) (genEnv scope cl C code builtinsNs env) = (do
      let ov ← eval (.Name (Str.ofString "EMPTYSTRING") p1) (genEnv scope cl C code builtinsNs env)
      standAt p2.atName
      let (f, first) ← holding [ov] (getMethod ov (Str.ofString "join") pl)
      callWith p6 f first (backTo p6 (starEach [.Tuple [.Name (Str.ofString "fws") p3, .Name (Str.ofString "part") p4] kt p5] (genEnv scope cl C code builtinsNs env))) [])) :
    wpAny (model prog w) A (eval (.Call (.Attribute (.Name (Str.ofString "EMPTYSTRING") p1) (Str.ofString "join") p2) [.Tuple [.Name (Str.ofString "fws") p3, .Name (Str.ofString "part") p4] kt p5] [] p6) (genEnv scope cl C code builtinsNs env))
      (fun y s' => (∃ t, y = .str (Txt.join (Str.ofString "") [a, b]) t) ∧ Keeps s s') E s := by
  refine MethodCall_ (pl := pl) ?_ he
  refine g_global hge G hmg hk hl3 (by decide) ?_
  refine GM.join ?_
  refine callWith_builtin (by rfl) ?_
  refine evalArgs_plain ?_
  refine Calls.spliced_cons (Tuple_ (k := kt) (Calls.spliced_cons (g_local hn hk hl1 (by decide) h1 (Calls.spliced_cons (g_local hn hk hl2 (by decide) h2 (Calls.spliced_nil ?_))))))
  refine wpAny_newTuple ?_ (by size_fits)
  refine Calls.spliced_nil ?_
  refine join_tuple (x := Str.ofString "") (items := #[.str a ta, .str b tb]) (ys := [a, b]) ⟨_, Heap.get?_push_size _ rfl, rfl, 0, rfl⟩ (.cons _ _ (.cons _ _ .nil)) (joinSmall ha hb) fun t' k => ?_
  exact ⟨⟨_, rfl⟩, _, _, rfl, fun _ _ e => Heap.get?_push_of_some _ e⟩
end
section
variable {prog : Program} {w : World} {A : Around} {E : Value → Shared → Prop} {s : Shared} {K : Frag} {x dx c P : Addr} {ps : Array Value} {vs : List Value} {n : Nat} {es : List DictEntry} {ne : Nat} {h₀ h h' : Heap} {L : Addr} {m mg mb : Str → Option Value} {news : List (Addr × Obj)} {o o' : Obj} {g : Obj → List (Addr × Obj)}
  {env : Env} {p : Program} {loose : List Str} {mean : ExcName → Option Value}
theorem fr_ext (F : Fr h₀ L h m) (N : News h₀ L h news) (hm : (P, o) ∈ news) (hx : Heap.ExtBut P h h') : Fr h₀ L h' m :=
  ⟨F.ns.at' fun o e => hx _ o (Ne.symm (N _ hm).2.1) e, fun b o e => hx b o (fun q => by rw [q, (N _ hm).2.2] at e; cases e) (F.keep b o e), F.above⟩
theorem news_ext (N : News h₀ L h news) (U : UpdF P o news g) (hx : Heap.ExtBut P h h') (hP : h'.get? P = some o') : News h₀ L h' (g o') := by
  obtain ⟨pre, post, e1, e2, a, b⟩ := U.split
  rw [e1] at N
  rw [e2]
  intro q hq
  rcases List.mem_append.mp hq with hq | hq
  · have := N q (List.mem_append_left _ hq)
    exact ⟨hx _ _ (a q hq) this.1, this.2⟩
  · rcases List.mem_cons.mp hq with rfl | hq
    · exact ⟨hP, (N (P, o) (by simp)).2⟩
    · have := N q (List.mem_append_right _ (List.mem_cons_of_mem _ hq))
      exact ⟨hx _ _ (b q hq) this.1, this.2⟩
theorem genexp_acc {elt iter : PySem.Expr} {xa xb : Str} {pa pb pt : Pos} {kt : Nat} {scope : Scope} {cl : List (Str × Addr)} {pos : Pos} {Q : Value → Shared → Prop} (Ts : Nat → Addr) (va vb : Nat → Value) (Fv : Nat → Value → Prop)
    (hh : A.handled = none) (F : Fr h₀ L s.heap m) (X₀ : K.In h₀) (N : News h₀ L s.heap news) (T : Top p loose mean mg mb h₀) (hge : env.globals = mainGlobals) (hcode : env.code = .ref c) (hCd : CodeHd h₀ c P) (U : UpdF P (tabObj ps) news g) (ht : TriplesOk ps.toList)
    (hx : (x, accObj dx vs n) ∈ news) (hdx : (dx, dictOf es ne) ∈ news) (hm : subIn K (.ref 272) (.type "list") = some true) (hs : findIn K (.ref 272) "__iter__" = some (some (.builtin "list.__iter__")))
    (hT : ∀ j, j < vs.length → vs[j]? = some (.ref (Ts j)) ∧ (Ts j, tupO [va j, vb j]) ∈ news)
    (helt : ∀ (A' : Around) E' j (s₂ : Shared) m₂ C code, A'.handled = none → j < vs.length → s₂.heap.Ns C m₂ → m₂ xa = some (va j) → m₂ xb = some (vb j) → s₂.heap.Ns mainGlobals mg → s₂.heap.Ns builtinsNs mb →
      wpAny (model prog w) A' (eval elt (genEnv scope cl C code builtinsNs env)) (fun y s₃ => Fv j y ∧ Keeps s₂ s₃) E' s₂)
    (hself : ∀ Q' : Value → Shared → Prop, Q' (.ref x) s → wpAny (model prog w) A (eval iter env) Q' E s)
    (hco : scope.isCoroutine = false) (hclos : closureFor scope env = pure cl) (hcell : ∀ y ∈ scope.names, y.2 ≠ .cell) (h0 : scope.names.lookup (".0" : Str) = some NameKind.local)
    (hxa : scope.names.lookup xa = some .local) (hxb : scope.names.lookup xb = some .local) (hab : xa ≠ xb) (hkind : scope.kind = .function) (hroom : A.depth < recursionLimit) (hfold : ∀ x, genFold iter env x = pure x)
    (hQ : ∀ a s₅ ps', (AllBare s.gens → AllBare s₅.gens) → Fr h₀ L s₅.heap m → News h₀ L s₅.heap (g (tabObj ps')) → TriplesOk ps'.toList → s₅.drawn = s.drawn → s₅.os = s.os → s.heap.objs.size ≤ s₅.heap.objs.size → Gen prog w A (s.heap.objs.size - 1) a vs.length Fv s₅ → Q (.ref a) s₅) :
    wpAny (model prog w) A (eval (.GeneratorExp elt [⟨.Tuple [.Name xa pa, .Name xb pb] kt pt, iter, [], 0⟩] scope pos) env) Q E s := by
  revert prog w A E s K x dx c P ps vs n es ne h₀ L m mg mb news g env p loose mean elt iter xa xb pa pb pt kt scope cl pos Q Ts va vb Fv
  refine (?zh : ∀ prog w A E s K x dx c P ps vs n es ne h₀ L m mg mb news g env p loose mean elt iter xa xb pa pb pt kt scope cl pos Q Ts va vb Fv, (?zP : _ → _ → _ → _ → _ → _ → _ → _ → _ → _ → _ → _ → _ → _ → _ → _ → _ → _ → _ → _ → _ → _ → _ → _ → _ → _ → _ → _ → _ → _ → _ → _ → _ → _ → _ → _ → _ → _ → _ → _ → _ → _ → Prop) prog w A E s K x dx c P ps vs n es ne h₀ L m mg mb news g env p loose mean elt iter xa xb pa pb pt kt scope cl pos Q Ts va vb Fv)
  refine fun prog w A E s K x dx c P ps vs n es ne h₀ L m mg mb news g env p loose mean elt iter xa xb pa pb pt kt scope cl pos Q Ts va vb Fv => allE (P := un2 fun prog => un2 fun w => un2 fun A => un2 fun E => un2 fun s => un2 fun K => un2 fun x => un2 fun dx => un2 fun c => un2 fun P => un2 fun ps => un2 fun vs => un2 fun n => un2 fun es => un2 fun ne => un2 fun h₀ => un2 fun L => un2 fun m => un2 fun mg => un2 fun mb => un2 fun news => un2 fun g => un2 fun env => un2 fun p => un2 fun loose => un2 fun mean => un2 fun elt => un2 fun iter => un2 fun xa => un2 fun xb => un2 fun pa => un2 fun pb => un2 fun pt => un2 fun kt => un2 fun scope => un2 fun cl => un2 fun pos => un2 fun Q => un2 fun Ts => un2 fun va => un2 fun vb Fv => ?zP prog w A E s K x dx c P ps vs n es ne h₀ L m mg mb news g env p loose mean elt iter xa xb pa pb pt kt scope cl pos Q Ts va vb Fv) ?zn ?zk (prog, w, A, E, s, K, x, dx, c, P, ps, vs, n, es, ne, h₀, L, m, mg, mb, news, g, env, p, loose, mean, elt, iter, xa, xb, pa, pb, pt, kt, scope, cl, pos, Q, Ts, va, vb, Fv)
  case zn => walk_at "ne"
  clear prog w A E s K x dx c P ps vs n es ne h₀ L m mg mb news g env p loose mean elt iter xa xb pa pb pt kt scope cl pos Q Ts va vb Fv
  refine (?zj : AtE _ ?zE)
  refine (?zF : ∀ prog w A E s K x dx c P ps vs n es ne h₀ L m mg mb news g env p loose mean elt iter xa xb pa pb pt kt scope cl pos Q Ts va vb Fv, ?zP prog w A E s K x dx c P ps vs n es ne h₀ L m mg mb news g env p loose mean elt iter xa xb pa pb pt kt scope cl pos Q Ts va vb Fv) ?zE.1 ?zE.2.1 ?zE.2.2.1 ?zE.2.2.2.1 ?zE.2.2.2.2.1 ?zE.2.2.2.2.2.1 ?zE.2.2.2.2.2.2.1 ?zE.2.2.2.2.2.2.2.1 ?zE.2.2.2.2.2.2.2.2.1 ?zE.2.2.2.2.2.2.2.2.2.1 ?zE.2.2.2.2.2.2.2.2.2.2.1 ?zE.2.2.2.2.2.2.2.2.2.2.2.1 ?zE.2.2.2.2.2.2.2.2.2.2.2.2.1 ?zE.2.2.2.2.2.2.2.2.2.2.2.2.2.1 ?zE.2.2.2.2.2.2.2.2.2.2.2.2.2.2.1 ?zE.2.2.2.2.2.2.2.2.2.2.2.2.2.2.2.1 ?zE.2.2.2.2.2.2.2.2.2.2.2.2.2.2.2.2.1 ?zE.2.2.2.2.2.2.2.2.2.2.2.2.2.2.2.2.2.1 ?zE.2.2.2.2.2.2.2.2.2.2.2.2.2.2.2.2.2.2.1 ?zE.2.2.2.2.2.2.2.2.2.2.2.2.2.2.2.2.2.2.2.1 ?zE.2.2.2.2.2.2.2.2.2.2.2.2.2.2.2.2.2.2.2.2.1 ?zE.2.2.2.2.2.2.2.2.2.2.2.2.2.2.2.2.2.2.2.2.2.1 ?zE.2.2.2.2.2.2.2.2.2.2.2.2.2.2.2.2.2.2.2.2.2.2.1 ?zE.2.2.2.2.2.2.2.2.2.2.2.2.2.2.2.2.2.2.2.2.2.2.2.1 ?zE.2.2.2.2.2.2.2.2.2.2.2.2.2.2.2.2.2.2.2.2.2.2.2.2.1 ?zE.2.2.2.2.2.2.2.2.2.2.2.2.2.2.2.2.2.2.2.2.2.2.2.2.2.1 ?zE.2.2.2.2.2.2.2.2.2.2.2.2.2.2.2.2.2.2.2.2.2.2.2.2.2.2.1 ?zE.2.2.2.2.2.2.2.2.2.2.2.2.2.2.2.2.2.2.2.2.2.2.2.2.2.2.2.1 ?zE.2.2.2.2.2.2.2.2.2.2.2.2.2.2.2.2.2.2.2.2.2.2.2.2.2.2.2.2.1 ?zE.2.2.2.2.2.2.2.2.2.2.2.2.2.2.2.2.2.2.2.2.2.2.2.2.2.2.2.2.2.1 ?zE.2.2.2.2.2.2.2.2.2.2.2.2.2.2.2.2.2.2.2.2.2.2.2.2.2.2.2.2.2.2.1 ?zE.2.2.2.2.2.2.2.2.2.2.2.2.2.2.2.2.2.2.2.2.2.2.2.2.2.2.2.2.2.2.2.1 ?zE.2.2.2.2.2.2.2.2.2.2.2.2.2.2.2.2.2.2.2.2.2.2.2.2.2.2.2.2.2.2.2.2.1 ?zE.2.2.2.2.2.2.2.2.2.2.2.2.2.2.2.2.2.2.2.2.2.2.2.2.2.2.2.2.2.2.2.2.2.1 ?zE.2.2.2.2.2.2.2.2.2.2.2.2.2.2.2.2.2.2.2.2.2.2.2.2.2.2.2.2.2.2.2.2.2.2.1 ?zE.2.2.2.2.2.2.2.2.2.2.2.2.2.2.2.2.2.2.2.2.2.2.2.2.2.2.2.2.2.2.2.2.2.2.2.1 ?zE.2.2.2.2.2.2.2.2.2.2.2.2.2.2.2.2.2.2.2.2.2.2.2.2.2.2.2.2.2.2.2.2.2.2.2.2.1 ?zE.2.2.2.2.2.2.2.2.2.2.2.2.2.2.2.2.2.2.2.2.2.2.2.2.2.2.2.2.2.2.2.2.2.2.2.2.2.1 ?zE.2.2.2.2.2.2.2.2.2.2.2.2.2.2.2.2.2.2.2.2.2.2.2.2.2.2.2.2.2.2.2.2.2.2.2.2.2.2.1 ?zE.2.2.2.2.2.2.2.2.2.2.2.2.2.2.2.2.2.2.2.2.2.2.2.2.2.2.2.2.2.2.2.2.2.2.2.2.2.2.2.1 ?zE.2.2.2.2.2.2.2.2.2.2.2.2.2.2.2.2.2.2.2.2.2.2.2.2.2.2.2.2.2.2.2.2.2.2.2.2.2.2.2.2.1 ?zE.2.2.2.2.2.2.2.2.2.2.2.2.2.2.2.2.2.2.2.2.2.2.2.2.2.2.2.2.2.2.2.2.2.2.2.2.2.2.2.2.2
  intros prog w A E s K x dx c P ps vs n es ne h₀ L m mg mb news g env p loose mean elt iter xa xb pa pb pt kt scope cl pos Q Ts va vb Fv
  intro hh F X₀ N T hge hcode hCd U ht hx hdx hm hs hT helt hself hco hclos hcell h0 hxa hxb hab hkind hroom hfold hQ
  have hPm := UpdF.mem' U
  have hP0 := (N _ hPm).2.2
  have hPs := (N _ hPm).1
  have hPlt : P < s.heap.objs.size := Heap.lt_size hPs
  have hxlt : x < s.heap.objs.size := Heap.lt_size (N _ hx).1
  have hxP : x ≠ P := fun e => by have h1 := (N _ hx).1; rw [e, hPs] at h1; cases h1
  have hTP : ∀ j, j < vs.length → Ts j ≠ P := fun j hj e => by have h1 := (N _ (hT j hj).2).1; rw [e, hPs] at h1; cases h1
  have hTlt : ∀ j, j < vs.length → Ts j < s.heap.objs.size := fun j hj => Heap.lt_size (N _ (hT j hj).2).1
  refine wpAny_GeneratorExp_walksQTD hh hco hclos hcell h0 hxa hxb hab hkind hroom (hself _ (acc_iter F X₀ N hx hdx hm hs ?_)) hfold
  generalize hH : s.heap.push { cls := .type "list_iterator", data := .fields #[.ref x, .int 0 0] } = H
  have hsz : H.objs.size = s.heap.objs.size + 1 := by rw [← hH, Heap.size_push]
  have hk : ∀ b o, s.heap.get? b = some o → H.get? b = some o := fun b o e => hH ▸ Heap.get?_push_of_some _ e
  have hI : H.get? s.heap.objs.size = some { cls := .type "list_iterator", data := .fields #[.ref x, .int 0 0] } := hH ▸ Heap.get?_push_size _ rfl
  have F₁ : Fr h₀ L H m := F.grownK hk
  have N₁ : News h₀ L H news := N.grown hk
  have cnt : ∀ (code : Value) (h₃ : Heap) (tk₃ : Nat) (ps' : Array Value), Heap.ExtBut P H h₃ → H.objs.size ≤ h₃.objs.size → h₃.get? P = some (tabObj ps') → TriplesOk ps'.toList →
      wpAny (model prog w) A (builtinsFor env.globals env.builtins) (fun bi s₄ =>
        ∃ I fp wr n₀ Pt St₀ Mid pz F, (Value.ref s.heap.objs.size) = .ref I ∧ (∀ A' : Around, A'.handled = none → WalksU prog w A' I fp wr n₀ Pt St₀ Mid) ∧ (∀ i vals, Pt i vals → ∃ va vb, vals = #[va, vb]) ∧ St₀ 0 s₄.heap ∧ (∀ b ∈ fp, b < s₄.heap.objs.size) ∧ s₄.heap.NoLimit ∧ cStatics ∉ wr ∧
          (∀ href : Heap, (∀ b o, s₄.heap.get? b = some o → href.get? b = some o) →
            QuietGenTD prog w (genEnv scope cl s₄.heap.objs.size code bi env) xa xb [] elt (List.range s₄.heap.objs.size) wr Pt pz F href (A.depth + 1) (A.units + 8)) ∧
          (∀ a h₅ tk gs, gs.bare = true → s₄.heap.objs.size < a → h₅.objs.size = a + 1 → (∀ b o, s₄.heap.get? b = some o → h₅.get? b = some o) →
            WalksS prog w A.in4 a (a :: s₄.heap.objs.size :: List.range s₄.heap.objs.size) (s₄.heap.objs.size :: wr) (GenOnlyQ s₄.gens.size) (passing pz n₀ 0).length
              (fun j y => ∃ i, (passing pz n₀ 0)[j]? = some i ∧ F i y) (GenAt prog w A.in4 a s₄.gens.size s₄.heap.objs.size (List.range s₄.heap.objs.size) wr pz n₀ F) →
            GenAt prog w A.in4 a s₄.gens.size s₄.heap.objs.size (List.range s₄.heap.objs.size) wr pz n₀ F 0 { s₄ with gens := s₄.gens.push gs, toks := tk, heap := h₅ } →
            Q (.ref a) { s₄ with gens := s₄.gens.push gs, toks := tk, heap := h₅ })) E { s with heap := h₃, toks := tk₃ } := by
    intro code h₃ tk₃ ps' hx₃ hsz₃ hP₃ ht₃
    have F₃ : Fr h₀ L h₃ m := fr_ext F₁ N₁ hPm hx₃
    have N₃ : News h₀ L h₃ (g (tabObj ps')) := news_ext N₁ U hx₃ hP₃
    have T₃ := T.keeps F₃.keep
    obtain ⟨bm, ob, b1, b2, b3, b4, b5, b6⟩ := T₃.bmain
    have hz : @LT.lt Nat _ s.heap.objs.size h₃.objs.size := Nat.lt_of_lt_of_le (Nat.lt_of_lt_of_eq (Nat.lt_succ_self _) hsz.symm) hsz₃
    have hpass : passing (fun _ => true) vs.toArray.size 0 = List.range vs.length := by
      unfold passing; simp
    refine wpAny_builtinsFor (hge ▸ T₃.g) b1 b2 b3 b4 b5 b6 ?_
    refine ex9 s.heap.objs.size _ [s.heap.objs.size] vs.toArray.size _ _ _ (fun _ => true) Fv ⟨rfl,
      fun A' hA => walksAcc hA s.heap.objs.size x (Nat.ne_of_lt hxlt) vs.toArray Ts (fun j => #[va j, vb j]) (fun j hj => by have := (hT j (by simpa using hj)).1; simpa using this) (fun j hj => Nat.ne_of_lt (hTlt j (by simpa using hj))), ?_, ?_, ?_, T₃.nolimit, ?_, ?_, ?_⟩
    · rintro i vals ⟨_, rfl⟩; exact ⟨_, _, rfl⟩
    · refine ⟨⟨_, hx₃ _ _ (Nat.ne_of_gt hPlt) hI, rfl, rfl⟩, ⟨_, _, hx₃ _ _ hxP (hk _ _ (N _ hx).1), rfl⟩, fun k hk' => ?_⟩
      have hk2 : k < vs.length := by simpa using hk'
      exact ⟨_, hx₃ _ _ (hTP k hk2) (hk _ _ (N _ (hT k hk2).2).1), rfl, _, rfl⟩
    · intro b hb
      show b < h₃.objs.size
      rcases List.mem_cons.mp hb with rfl | hb
      · exact hz
      rcases List.mem_cons.mp hb with rfl | hb
      · exact Nat.lt_trans hxlt hz
      obtain ⟨j, hj, rfl⟩ := List.mem_map.mp hb
      exact Nat.lt_trans (hTlt j (by simpa using List.mem_range.mp hj)) hz
    · intro hc
      obtain ⟨_, hns, _⟩ := T.nolimit
      have h1 : cStatics < s.heap.objs.size := (hns.keeps F.keep).lt
      rcases List.mem_cons.mp hc with e | hc
      · exact absurd h1 (by rw [e]; exact Nat.lt_irrefl _)
      · cases hc
    · intro href hhref
      have up : ∀ (s₂ : Shared), (∀ b ∈ List.range h₃.objs.size, b ∉ [s.heap.objs.size] → ∀ o, href.get? b = some o → s₂.heap.get? b = some o) → ∀ b o, h₀.get? b = some o → s₂.heap.get? b = some o := by
        intro s₂ hkp b o e
        have e3 := F₃.keep b o e
        refine hkp b (List.mem_range.mpr (Heap.lt_size e3)) (fun hm => ?_) o (hhref b o e3)
        have h1 := Heap.lt_size (F.keep b o e)
        rcases List.mem_cons.mp hm with e | hm
        · exact absurd h1 (by rw [e]; exact Nat.lt_irrefl _)
        · cases hm
      exact ⟨fun A' E' i v1 v2 s₂ m₂ _ _ _ _ _ _ _ _ => wpAny_pure ⟨rfl, Keeps.refl' _⟩, fun A' E' i v1 v2 s₂ m₂ hA _ _ hPt _ hns hma hmb hkp => by
        obtain ⟨hi, e⟩ := hPt
        have e1 : v1 = va i := by have := congrArg (fun a : Array Value => a[0]?) e; simpa using this
        have e2 : v2 = vb i := by have := congrArg (fun a : Array Value => a[1]?) e; simpa using this
        exact helt A' E' i s₂ m₂ _ _ hA (by simpa using hi) hns (e1 ▸ hma) (e2 ▸ hmb) (T.g.keeps (up s₂ hkp)) (T.b.keeps (up s₂ hkp))⟩
    · intro a h₅ tk gs hgb hag hsz₅ hk₅ W hat
      refine hQ a _ ps' (fun x => x.push hgb) (F₃.grownK hk₅) (N₃.grown hk₅) ht₃ rfl rfl (by show @LE.le Nat _ s.heap.objs.size h₅.objs.size; rw [hsz₅]; exact Nat.le_of_lt (Nat.lt_succ_of_lt (Nat.lt_trans hz hag))) ?_
      have hlen : (passing (fun _ => true) vs.toArray.size 0).length = vs.length := by rw [hpass, List.length_range]
      refine ⟨a :: h₃.objs.size :: List.range h₃.objs.size, [h₃.objs.size, s.heap.objs.size], s.gens.size, _, ?_, hat, (fun i s' st => st.1.typeIs), List.mem_cons_self, ?_, ?_⟩
      · have W2 := W
        rw [hlen] at W2
        refine ⟨W2.sub, W2.grefl, W2.gtrans, W2.frame, fun i s Q E hi st q => W2.item i s Q E hi st fun v s' hv => ?_, W2.done, W2.self⟩
        obtain ⟨j, hj, hv⟩ := hv
        rw [hpass] at hj
        have : j = i := by rw [List.getElem?_range hi] at hj; exact (Option.some.inj hj).symm
        exact q v s' (this ▸ hv)
      · intro b hb
        show b < h₅.objs.size
        rw [hsz₅]
        have hag' : h₃.objs.size < a := hag
        rcases List.mem_cons.mp hb with rfl | hb
        · exact Nat.lt_succ_self _
        · rcases List.mem_cons.mp hb with rfl | hb
          · exact Nat.lt_succ_of_lt hag
          · have := List.mem_range.mp hb
            exact Nat.lt_succ_of_lt (Nat.lt_trans this hag)
      · intro b hb
        have h0 : @LT.lt Nat _ (s.heap.objs.size - 1) s.heap.objs.size := Nat.sub_lt (Nat.lt_of_le_of_lt (Nat.zero_le _) hxlt) Nat.one_pos
        rcases List.mem_cons.mp hb with rfl | hb
        · exact Nat.lt_trans h0 hz
        · rcases List.mem_cons.mp hb with rfl | hb
          · exact h0
          · cases hb
  refine ⟨(T.keeps F₁.keep).nolimit, ?_⟩
  have C₁ : CodeHd H c P := hCd.keeps F₁.keep
  have hPH := hk _ _ hPs
  cases hnf : codeAmong pos ps.toList with
  | some cv =>
    exact wpAny_genexprCode_hit hcode (C₁.code hPH ht) hnf (cnt cv H s.toks ps (Heap.ExtBut.refl _ _) (Nat.le_refl _) hPH ht)
  | none =>
    refine wpAny_genexprCodeX hcode (C₁.code hPH ht) (C₁.tab hPH) hnf fun c' h' tk hx' hge' hlt hc' _ htab _ => ?_
    obtain ⟨_, _, _, _, _, _, _, _, _, _, _, _, _, _, _, _, _, _, _, ht', _⟩ := hc'
    exact cnt (.ref c') h' tk _ hx' (Nat.le_trans hge' (Nat.le_of_lt hlt)) htab.2 ht'
end
end
section
open PySem PySem.W PyProof.Rows PySem.Flt PySem.Spec
set_option maxHeartbeats 1000000
section
variable {prog : Program} {w : World} {A : Around} {E : Value → Shared → Prop} {s : Shared} {env : Env} {h₀ : Heap} {x : Str} {body orelse : List Stmt} {Q : Flow → Shared → Prop}
theorem loopL {px : Pos} {I ax : Addr} {oax : Obj} {n : Nat} {P : Nat → Value → Prop} {St : Nat → Heap → Prop} {m₀ : Str → Option Value} {news : List (Addr × Obj)} {R : Result → Shared → Prop}
    (J : Nat → (Str → Option Value) → List (Addr × Obj) → Array GenState → Prop)
    (W : Walks prog w A I [I, ax] [I] n P St) (hx : env.kindOf x = some .local)
    (hp : (env.scope.kind == .class || (env.scope.kind == .module && env.locals != env.globals)) = false)
    (hIo : ∀ i h, St i h → ∃ o, h.get? I = some o) (hLI : env.locals ≠ I) (hI0 : h₀.get? I = none) (hnw : ∀ p ∈ news, p.1 ≠ I) (hst : St 0 s.heap) (F : Fr h₀ env.locals s.heap m₀) (N : News h₀ env.locals s.heap news) (hj : J 0 m₀ news s.gens) (hax : ∀ i m nx g, J i m nx g → (ax, oax) ∈ nx)
    (turn : ∀ i v m₁ news₁ h g tk oI, i < n → P i v → (∀ p ∈ news₁, p.1 ≠ I) → J i m₁ news₁ g → Fr h₀ env.locals h (fun y => if y = x then some v else m₁ y) → News h₀ env.locals h ((I, oI) :: news₁) →
      wpAny (model prog w) A (execs body env) (PostM h₀ env.locals (J (i + 1)) I oI { s with heap := h, gens := g, toks := tk } (fun f s' => R (.ok f) s')) (notedBy (model prog w) A env fun e s' => R (.error e) s') { s with heap := h, gens := g, toks := tk })
    (done : ∀ m₁ news₁ h g tk, J n m₁ news₁ g → Fr h₀ env.locals h m₁ → News h₀ env.locals h news₁ →
      wpAny (model prog w) A (execs orelse env) (fun f s₃ => R (.ok f) s₃) (notedBy (model prog w) A env fun e s' => R (.error e) s') { s with heap := h, gens := g, toks := tk }) :
    codeAny (model prog w) A (.forLoop (.Name x px) (.ref I) body orelse env) R s := by
  revert prog w A s env h₀ x body orelse px I ax oax n P St m₀ news R J
  refine (?zh : ∀ prog w A s env h₀ x body orelse px I ax oax n P St m₀ news R J, (?zP : _ → _ → _ → _ → _ → _ → _ → _ → _ → _ → _ → _ → _ → _ → _ → _ → _ → _ → _ → _ → Prop) prog w A s env h₀ x body orelse px I ax oax n P St m₀ news R J)
  refine fun prog w A s env h₀ x body orelse px I ax oax n P St m₀ news R J => allE (P := un2 fun prog => un2 fun w => un2 fun A => un2 fun s => un2 fun env => un2 fun h₀ => un2 fun x => un2 fun body => un2 fun orelse => un2 fun px => un2 fun I => un2 fun ax => un2 fun oax => un2 fun n => un2 fun P => un2 fun St => un2 fun m₀ => un2 fun news => un2 fun R J => ?zP prog w A s env h₀ x body orelse px I ax oax n P St m₀ news R J) ?zn ?zk (prog, w, A, s, env, h₀, x, body, orelse, px, I, ax, oax, n, P, St, m₀, news, R, J)
  case zn => walk_at "ne"
  clear prog w A s env h₀ x body orelse px I ax oax n P St m₀ news R J
  refine (?zj : AtE _ ?zE)
  refine (?zF : ∀ prog w A s env h₀ x body orelse px I ax oax n P St m₀ news R J, ?zP prog w A s env h₀ x body orelse px I ax oax n P St m₀ news R J) ?zE.1 ?zE.2.1 ?zE.2.2.1 ?zE.2.2.2.1 ?zE.2.2.2.2.1 ?zE.2.2.2.2.2.1 ?zE.2.2.2.2.2.2.1 ?zE.2.2.2.2.2.2.2.1 ?zE.2.2.2.2.2.2.2.2.1 ?zE.2.2.2.2.2.2.2.2.2.1 ?zE.2.2.2.2.2.2.2.2.2.2.1 ?zE.2.2.2.2.2.2.2.2.2.2.2.1 ?zE.2.2.2.2.2.2.2.2.2.2.2.2.1 ?zE.2.2.2.2.2.2.2.2.2.2.2.2.2.1 ?zE.2.2.2.2.2.2.2.2.2.2.2.2.2.2.1 ?zE.2.2.2.2.2.2.2.2.2.2.2.2.2.2.2.1 ?zE.2.2.2.2.2.2.2.2.2.2.2.2.2.2.2.2.1 ?zE.2.2.2.2.2.2.2.2.2.2.2.2.2.2.2.2.2.1 ?zE.2.2.2.2.2.2.2.2.2.2.2.2.2.2.2.2.2.2.1 ?zE.2.2.2.2.2.2.2.2.2.2.2.2.2.2.2.2.2.2.2
  intros prog w A s env h₀ x body orelse px I ax oax n P St m₀ news R J
  intro W hx hp hIo hLI hI0 hnw hst F N hj hax turn done
  have old : ∀ b o, h₀.get? b = some o → b ≠ I := fun b o e hb => by rw [hb, hI0] at e; cases e
  refine codeAny_forLoop
    (InvM h₀ env.locals I n St J s) ?_ (n + 1)
    ⟨s.heap, s.gens, s.toks, m₀, news, 0, rfl, hst, F, N, hnw, hj, Nat.zero_le _, rfl⟩
  rintro k s' ⟨h', g', tk, m', news', i, rfl, hst', F', N', hnw', hJ, hi, rfl⟩
  have next : ∀ h₁ : Heap, (∀ b o, b ∉ [I] → h'.get? b = some o → h₁.get? b = some o) → Fr h₀ env.locals h₁ m' ∧ News h₀ env.locals h₁ news' := fun h₁ hk₁ =>
    ⟨⟨F'.ns.at' fun o e => hk₁ _ o (by simpa using hLI) e, fun b o e => hk₁ b o (by simpa using old b o e) (F'.keep b o e), F'.above⟩, fun p hp => ⟨hk₁ _ _ (by simpa using hnw' p hp) (N' p hp).1, (N' p hp).2⟩⟩
  by_cases hlt : i < n
  · refine W.item i _ _ _ hlt hst' fun v h₁ tk₁ hP hst₁ hk₁ => ?_
    obtain ⟨F₁, N₁⟩ := next h₁ hk₁
    refine wpAny_assign_Name (wpAny_storeName_local hx F₁.ns (fun h₂ hn₂ hs₂ => ?_) hp)
    have F₂ := F₁.set hn₂ hs₂
    have hst₂ : St (i + 1) h₂ := W.frame _ _ _ hst₁ fun b hb o e => (hs₂.2 b fun q => by
      rcases List.mem_cons.mp hb with hb | hb
      · exact hLI (by rw [← q]; exact hb)
      · exact ((N₁ _ (hax _ _ _ _ hJ)).2.1) (by rw [← q]; exact (List.mem_singleton.mp hb).symm)).trans e
    obtain ⟨oI, hoI⟩ := hIo _ _ hst₂
    · have Nown : News h₀ env.locals h₂ ((I, oI) :: news') := by
        intro p hp
        rcases List.mem_cons.mp hp with rfl | hp
        · exact ⟨hoI, fun e => hLI e.symm, hI0⟩
        · exact (N₁.set hs₂) p hp
      refine wpAny_mono (turn i v m' news' h₂ g' _ oI hlt hP hnw' hJ F₂ Nown) (fun f s₃ h₃ => ?_) fun _ _ e => e
      have fin : EndM h₀ env.locals (J (i + 1)) I oI { s with heap := h₂, gens := g', toks := tk₁ + 1 } s₃ → ∃ m, m < n + 1 - i ∧ InvM h₀ env.locals I n St J s m s₃ := by
        rintro ⟨h₃', g₃, tk₃, m₂, nw, nx, rfl, F₃, N₃, hI₃, hs₃, hn₃, hJ₃⟩
        refine ⟨n + 1 - (i + 1), by omega, h₃', g₃, tk₃, m₂, nx, i + 1, rfl, ?_, F₃, fun p hp => N₃ p (hs₃ p hp), hn₃, hJ₃, hlt, rfl⟩
        refine W.frame _ _ _ hst₂ fun b hb o e => ?_
        rcases List.mem_cons.mp hb with hb | hb
        · rw [hb] at e ⊢
          rw [hoI] at e; cases e
          exact (N₃ _ hI₃).1
        · rw [List.mem_singleton.mp hb] at e ⊢
          have e1 := (Nown _ (List.mem_cons_of_mem _ (hax _ _ _ _ hJ))).1
          rw [e1] at e; cases e
          exact (N₃ _ (hs₃ _ (hax _ _ _ _ hJ₃))).1
      cases f with
      | ret v => exact h₃
      | brk => exact h₃
      | cont => exact fin h₃
      | next => exact fin h₃
  · have hin : i = n := by omega
    subst hin
    refine W.done _ _ _ hst' fun h₁ tk₁ hk₁ => ?_
    obtain ⟨F₁, N₁⟩ := next h₁ hk₁
    exact done m' news' h₁ g' tk₁ hJ F₁ N₁

end
inductive LstAt (prog : Program) (w : World) (A : Around) (env : Env) (h₀ : Heap) (x : Str) (body orelse : List Stmt) (Q : Flow → Shared → Prop) (E : Value → Shared → Prop) (m₀ : Str → Option Value) (tmp : List Str) (R : Nat → List (Str × Value) → List (Addr × Obj) → Array GenState → Prop) (xv : Value) (s₁ : Shared) : Prop where
  | mk (ax : _) (vs : _) (k : _) (news : _) (ps₀ : _) (f0 : xv = .ref ax) (f1 : ∀ i ps nx g, R i ps nx g → (ax, listOf (List.toArray vs) k) ∈ nx) (f2 : Fr h₀ env.locals s₁.heap m₀) (f3 : News h₀ env.locals s₁.heap news) (f4 : R 0 ps₀ news s₁.gens) (f5 : AllM m₀ ps₀) (f6 : ∀ i v ps nx (u : Str → Option Value) h g tk I oI, vs[i]? = some v → (∀ p ∈ news, p.1 < I) → (∀ p ∈ nx, p.1 ≠ I) → R i ps nx g → Fr h₀ env.locals h (fun y => if y = x then some v else if tmp.contains y = true then u y else upd ps m₀ y) → News h₀ env.locals h ((I, oI) :: nx) →
        wpAny (model prog w) A (execs body env) (PostM h₀ env.locals (JR m₀ x tmp (R (i + 1))) I oI { s₁ with heap := h, gens := g, toks := tk } Q) E { s₁ with heap := h, gens := g, toks := tk }) (f7 : ∀ ps nx (u : Str → Option Value) h g tk, R vs.length ps nx g → Fr h₀ env.locals h (fun y => if y = x then u y else if tmp.contains y = true then u y else upd ps m₀ y) → News h₀ env.locals h nx →
        wpAny (model prog w) A (execs orelse env) Q E { s₁ with heap := h, gens := g, toks := tk }) : LstAt prog w A env h₀ x body orelse Q E m₀ tmp R xv s₁
theorem LstAt.intro {prog : Program} {w : World} {A : Around} {env : Env} {h₀ : Heap} {x : Str} {body orelse : List Stmt} {Q : Flow → Shared → Prop} {E : Value → Shared → Prop} {m₀ : Str → Option Value} {tmp : List Str} {R : Nat → List (Str × Value) → List (Addr × Obj) → Array GenState → Prop} {s₁ : Shared} {ax : Addr} {vs : List Value} {k : Nat} {news : List (Addr × Obj)} {ps₀ : List (Str × Value)} (hax : ∀ i ps nx g, R i ps nx g → (ax, listOf (List.toArray vs) k) ∈ nx) (F : Fr h₀ env.locals s₁.heap m₀) (N : News h₀ env.locals s₁.heap news) (hR : R 0 ps₀ news s₁.gens) (hz : AllM m₀ ps₀)
    (turn : ∀ i v ps nx (u : Str → Option Value) h g tk I oI, vs[i]? = some v → (∀ p ∈ news, p.1 < I) → (∀ p ∈ nx, p.1 ≠ I) → R i ps nx g → Fr h₀ env.locals h (fun y => if y = x then some v else if tmp.contains y = true then u y else upd ps m₀ y) → News h₀ env.locals h ((I, oI) :: nx) →
        wpAny (model prog w) A (execs body env) (PostM h₀ env.locals (JR m₀ x tmp (R (i + 1))) I oI { s₁ with heap := h, gens := g, toks := tk } Q) E { s₁ with heap := h, gens := g, toks := tk })
    (done : ∀ ps nx (u : Str → Option Value) h g tk, R vs.length ps nx g → Fr h₀ env.locals h (fun y => if y = x then u y else if tmp.contains y = true then u y else upd ps m₀ y) → News h₀ env.locals h nx →
        wpAny (model prog w) A (execs orelse env) Q E { s₁ with heap := h, gens := g, toks := tk }) : LstAt prog w A env h₀ x body orelse Q E m₀ tmp R (.ref ax) s₁ :=
  ⟨ax, vs, k, news, ps₀, rfl, hax, F, N, hR, hz, turn, done⟩
section
variable {prog : Program} {w : World} {A : Around} {E : Value → Shared → Prop} {s : Shared} {env : Env} {h₀ : Heap} {x : Str} {body orelse : List Stmt} {Q : Flow → Shared → Prop}
theorem For_lst {px pos : Pos} {iter : PySem.Expr} {m₀ : Str → Option Value} (F0 : Fr h₀ env.locals s.heap m₀) (tmp : List Str) (R : Nat → List (Str × Value) → List (Addr × Obj) → Array GenState → Prop)
    (hx : env.kindOf x = some .local) (hp : (env.scope.kind == .class || (env.scope.kind == .module && env.locals != env.globals)) = false) (hh : A.handled = none)
    (h : wpAny (model prog w) A (eval iter env) (fun xv s₁ => LstAt prog w A env h₀ x body orelse Q E m₀ tmp R xv s₁) E s)
    (hs : ∀ x, foldedSetIterable iter env x = pure x := by intro _; rfl)
    (hE : PassesOwn (model prog w) A env E := by passes_own) :
    wpAny (model prog w) A (exec (.For (.Name x px) iter body orelse pos) env) Q E s := by
  refine wpAny_For (wpAny_mono h (fun xv s₁ h₁ => ?_) fun _ _ e => e) hs
  obtain ⟨ax, vs, k, news, ps₀, rfl, hax, F, N, hj, hz, turn, done⟩ := h₁
  have hm := hax _ _ _ _ hj
  have hl := News.isList N hm
  have hne : ax ≠ s₁.heap.objs.size := Nat.ne_of_lt (Heap.lt_size (N _ hm).1)
  refine wpAny_pyIter_list hl ?_
  have W := Walks.list (prog := prog) (w := w) hh s₁.heap.objs.size ax hne vs.toArray
  refine loopL (oax := listOf vs.toArray k) (h₀ := h₀) (m₀ := m₀) (news := news) (fun i => JR m₀ x tmp (R i)) W hx hp (fun i h e => let ⟨o, ho, _⟩ := e.1; ⟨o, ho⟩) ?_ ?_ ?_ ?_ (F.push _) (fun p hp => ⟨Heap.get?_push_of_some _ (N p hp).1, (N p hp).2⟩) ⟨ps₀, hj, fun z _ _ => hz.upd z⟩ ?_ ?_ ?_
  · exact Nat.ne_of_lt F.ns.lt
  · exact next_is_new F
  · exact fun p hp => Nat.ne_of_lt (Heap.lt_size (N p hp).1)
  · exact ⟨⟨_, Heap.get?_push_size _ rfl, rfl, rfl⟩, hl.at fun o e => Heap.get?_push_of_some _ e⟩
  · rintro i m nx g ⟨ps, hR, _⟩
    exact hax _ _ _ _ hR
  · rintro i v m₁ news₁ h g tk oI hi hc hne ⟨ps, hR, hm⟩ F₁ N₁
    refine wpAny_passesOwn hE ?_
    rw [JR.map _ hm] at F₁
    exact turn i v ps news₁ m₁ h g tk s₁.heap.objs.size oI (by simpa using hc) (fun p hp => Heap.lt_size (N p hp).1) hne hR F₁ N₁
  · rintro m₁ news₁ h g tk ⟨ps, hR, hm⟩ F₁ N₁
    rw [JR.done hm] at F₁
    exact wpAny_passesOwn hE (done ps news₁ m₁ h g tk (by simpa using hR) F₁ N₁)
end
end
section
open PySem PySem.W PyProof.Rows PySem.Flt PySem.Spec
set_option maxHeartbeats 1000000
theorem ints_at {vs : List Value} {ns : List Int} (h : IntsAre vs ns) {i : Nat} {v : Value} (hv : vs[i]? = some v) : i < ns.length ∧ ∃ t, v = .int (ns.getD i 0) t := by
  induction h generalizing i with
  | nil => simp at hv
  | cons n t _ ih =>
    cases i with
    | zero =>
      simp only [List.getElem?_cons_zero, Option.some.injEq] at hv
      subst hv
      exact ⟨by simp, t, by simp⟩
    | succ i =>
      simp only [List.getElem?_cons_succ] at hv
      obtain ⟨a, t', e⟩ := ih hv
      exact ⟨by simp; omega, t', by simpa using e⟩
theorem ints_kf {vs : List Value} {ns : List Int} (h : IntsAre vs ns) : kf_ints vs = true := by
  induction h with
  | nil => rfl
  | cons n t _ ih => exact ih
theorem kf_has {vs : List Value} {ns : List Int} (h : IntsAre vs ns) {k : Int} (hk : k ∈ ns) : ∃ j, kf_at k vs = some j ∧ ns[j]? = some k := by
  induction h with
  | nil => simp at hk
  | cons n t _ ih =>
    by_cases e : n = k
    · subst e
      exact ⟨0, by simp [kf_at, PyProof.Rows.isInt], rfl⟩
    · have hk' : k ∈ _ := (List.mem_cons.mp hk).resolve_left fun x => e x.symm
      obtain ⟨j, h1, h2⟩ := ih hk'
      refine ⟨j + 1, ?_, by simpa using h2⟩
      have e' : PyProof.Rows.isInt k (.int n t) = false := by simp [PyProof.Rows.isInt, e]
      simp [kf_at, e', h1]
section
variable {prog : Program} {w : World} {A : Around} {E : Value → Shared → Prop} {s : Shared} {Q : Value → Shared → Prop} {h₀ : Heap} {L D : Addr} {m : Str → Option Value} {news news' : List (Addr × Obj)} {vs ws : List Value} {ns ms : List Int} {n n2 : Nat} {k : Int} {u : Tok}
theorem idx_N (N : News h₀ L s.heap news) (hm : (D, listOf vs.toArray n) ∈ news) (hi : IntsAre vs ns) (hk : k ∈ ns) (hlen : ns.length ≤ 1000)
    (h : ∀ (j : Nat) t' tk, ns[j]? = some k → (j : Int) < ns.length → Q (.int (j : Int) t') { s with toks := tk }) : wpAny (model prog w) A (call (.builtin "list.index") [.ref D, .int k u]) Q E s := by
  obtain ⟨j, h1, h2⟩ := kf_has hi hk
  have hj : j < ns.length := by
    rcases Nat.lt_or_ge j ns.length with h | h
    · exact h
    · rw [List.getElem?_eq_none h] at h2; cases h2
  exact kf_index N hm (by simpa using ints_kf hi) (by simpa using h1) rfl (by rw [sizeLine_eq, List.toList_toArray, hi.length]; omega) (h j _ _ h2 (by omega))
theorem item_lstN {value slice : PySem.Expr} (N : News h₀ L s.heap news) (hm : (D, listOf vs.toArray n) ∈ news) (hi : IntsAre vs ns) (hlen : ns.length ≤ 1000) (h0 : 0 ≤ k) (h1 : k < (ns.length : Int)) (h : ∀ t', Q (.int (ns.getD k.toNat 0) t') s)
    (hs : subscripted slice false (.ref D) (.int k u) = operate [.ref D, .int k u] (getItem (.ref D) (.int k u)) := by with_unfolding_all rfl) (hg : ∀ r, letTemporaryGo value (.ref D) r = pure () := by intro _; with_unfolding_all rfl) :
    wpAny (model prog w) A (subscriptTail value slice (.ref D) (.int k u)) Q E s := by
  obtain ⟨t', e⟩ := hi.get _ _ (getD_some h0 h1)
  exact item_listL (News.isList N hm) h0 (by omega) e (h t') hs hg
end
end
section
open PySem PySem.W PyProof.Rows PySem.Flt PySem.Spec
set_option maxHeartbeats 1000000
noncomputable def OncePost (Q : Flow → Shared → Prop) (f : Flow) (s : Shared) : Prop := match f with
  | .ret v => Q (.ret v) s
  | .brk => Q .next s
  | _ => False
inductive DownAt (prog : Program) (w : World) (A : Around) (env : Env) (h₀ : Heap) (x : Str) (body : List Stmt) (Q : Flow → Shared → Prop) (E : Value → Shared → Prop) (xv : Value) (s₁ : Shared) : Prop where
  | mk (r : _) (a₀ : _) (b₀ : _) (t₀ : _) (u₀ : _) (v₀ : _) (m₀ : _) (news : _) (f0 : xv = .ref r) (f1 : IsRange s₁.heap r a₀ b₀ (-1) t₀ u₀ v₀) (f2 : -(2 ^ 60) ≤ a₀ ∧ a₀ < 2 ^ 60 ∧ -(2 ^ 60) ≤ b₀ ∧ b₀ < a₀) (f3 : Fr h₀ env.locals s₁.heap m₀) (f4 : News h₀ env.locals s₁.heap news) (f5 : ∀ t h tk I oI, (∀ p ∈ news, p.1 < I) → Fr h₀ env.locals h (fun y => if y = x then some (.int a₀ t) else m₀ y) → News h₀ env.locals h ((I, oI) :: news) →
      wpAny (model prog w) A (execs body env) (OncePost Q) E { s₁ with heap := h, toks := tk }) : DownAt prog w A env h₀ x body Q E xv s₁
inductive TextAt (prog : Program) (w : World) (A : Around) (env : Env) (h₀ : Heap) (x : Str) (body : List Stmt) (Q : Flow → Shared → Prop) (E : Value → Shared → Prop) (xv : Value) (s₁ : Shared) : Prop where
  | mk (xs : _) (c : _) (t₀ : _) (m₀ : _) (news : _) (f0 : xv = .str xs t₀) (f1 : xs.cps = #[c]) (f2 : c < 128) (f3 : Fr h₀ env.locals s₁.heap m₀) (f4 : News h₀ env.locals s₁.heap news) (f5 : ∀ t h tk I oI, (∀ p ∈ news, p.1 < I) → Fr h₀ env.locals h (fun y => if y = x then some (.str ⟨#[c]⟩ t) else m₀ y) → News h₀ env.locals h ((I, oI) :: news) →
      wpAny (model prog w) A (execs body env) (OncePost Q) E { s₁ with heap := h, toks := tk }) : TextAt prog w A env h₀ x body Q E xv s₁
section
variable {prog : Program} {w : World} {A : Around} {E : Value → Shared → Prop} {s : Shared} {env : Env} {h₀ : Heap} {x : Str} {body orelse : List Stmt} {Q : Flow → Shared → Prop}
theorem For_down {px pos : Pos} {iter : PySem.Expr} {m₀ : Str → Option Value} (_F0 : Fr h₀ env.locals s.heap m₀) (hx : env.kindOf x = some .local) (hp : (env.scope.kind == .class || (env.scope.kind == .module && env.locals != env.globals)) = false) (hh : A.handled = none)
    (h : wpAny (model prog w) A (eval iter env) (DownAt prog w A env h₀ x body Q E) E s)
    (hs : ∀ x, foldedSetIterable iter env x = pure x := by intro _; rfl)
    (hE : PassesOwn (model prog w) A env E := by passes_own) :
    wpAny (model prog w) A (exec (.For (.Name x px) iter body orelse pos) env) Q E s := by
  refine wpAny_For (wpAny_mono h (fun xv s₁ h₁ => ?_) fun _ _ e => e) hs
  obtain ⟨r, a₀, b₀, t₀, u₀, v₀, m₀, news, rfl, hr, ⟨hb1, hb2, hb3, hb4⟩, F, N, turn⟩ := h₁
  refine wpAny_pyIter_range hr (small_down (by omega) (by omega) (by omega) (by omega)) ?_
  have hn : Builtin.Range.rangeSize a₀ b₀ (-1) = ((a₀ - b₀).toNat : Int) := rangeSize_downNat _ _
  refine loopM (h₀ := h₀) (m₀ := m₀) (news := news) (n := (a₀ - b₀).toNat) (fun i m nx g => i = 0 ∧ m = m₀ ∧ nx = news ∧ g = s₁.gens) (Walks.range hh s₁.heap.objs.size a₀ (-1) (a₀ - b₀).toNat) hx hp (fun i h e => ⟨_, e⟩) ?_ ?_ ?_ ?_ (F.push _) (fun p hp => ⟨Heap.get?_push_of_some _ (N p hp).1, (N p hp).2⟩) ⟨rfl, rfl, rfl, rfl⟩ ?_ ?_
  · exact Nat.ne_of_lt F.ns.lt
  · exact next_is_new F
  · exact fun p hp => Nat.ne_of_lt (Heap.lt_size (N p hp).1)
  · show IsRangeIter _ _ _ _ _
    rw [hn]; simpa using Heap.get?_push_size _ rfl
  · rintro i v m₁ news₁ h g tk oI hi ⟨t, rfl⟩ hne ⟨rfl, rfl, rfl, rfl⟩ F₁ N₁
    refine wpAny_passesOwn hE ?_
    have e : a₀ + ((0 : Nat) : Int) * (-1) = a₀ := by omega
    rw [e] at F₁
    refine wpAny_mono (turn t h tk s₁.heap.objs.size oI (fun p hp => Heap.lt_size (N p hp).1) F₁ N₁) (fun f s₃ h₃ => ?_) fun _ _ e => e
    cases f <;> first | exact h₃ | exact h₃.elim
  · rintro m₁ news₁ h g tk ⟨h0, _⟩ F₁ N₁
    exact absurd h0 (by omega)
theorem For_text {px pos : Pos} {iter : PySem.Expr} {m₀ : Str → Option Value} (_F0 : Fr h₀ env.locals s.heap m₀) (hx : env.kindOf x = some .local) (hp : (env.scope.kind == .class || (env.scope.kind == .module && env.locals != env.globals)) = false) (hh : A.handled = none)
    (h : wpAny (model prog w) A (eval iter env) (TextAt prog w A env h₀ x body Q E) E s)
    (hs : ∀ x, foldedSetIterable iter env x = pure x := by intro _; rfl)
    (hE : PassesOwn (model prog w) A env E := by passes_own) :
    wpAny (model prog w) A (exec (.For (.Name x px) iter body orelse pos) env) Q E s := by
  refine wpAny_For (wpAny_mono h (fun xv s₁ h₁ => ?_) fun _ _ e => e) hs
  obtain ⟨xs, c, t₀, m₀, news, rfl, hc, hlt, F, N, turn⟩ := h₁
  have hasc : xs.cps.all (· < 128) = true := by rw [hc]; simpa using hlt
  refine wpAny_pyIter_ascii hasc ?_
  refine loopM (h₀ := h₀) (m₀ := m₀) (news := news) (n := xs.cps.size) (fun i m nx g => i = 0 ∧ m = m₀ ∧ nx = news ∧ g = s₁.gens) (Walks.strAscii hh s₁.heap.objs.size xs t₀) hx hp (fun i h e => ⟨_, e.choose_spec.1⟩) ?_ ?_ ?_ ?_ (F.push _) (fun p hp => ⟨Heap.get?_push_of_some _ (N p hp).1, (N p hp).2⟩) ⟨rfl, rfl, rfl, rfl⟩ ?_ ?_
  · exact Nat.ne_of_lt F.ns.lt
  · exact next_is_new F
  · exact fun p hp => Nat.ne_of_lt (Heap.lt_size (N p hp).1)
  · exact ⟨_, Heap.get?_push_size _ rfl, rfl, rfl⟩
  · rintro i v m₁ news₁ h g tk oI hi ⟨c', u, hc', rfl⟩ hne ⟨rfl, rfl, rfl, rfl⟩ F₁ N₁
    refine wpAny_passesOwn hE ?_
    have e : c' = c := by rw [hc] at hc'; simpa using hc'.symm
    rw [e] at F₁
    refine wpAny_mono (turn u h tk s₁.heap.objs.size oI (fun p hp => Heap.lt_size (N p hp).1) F₁ N₁) (fun f s₃ h₃ => ?_) fun _ _ e => e
    cases f <;> first | exact h₃ | exact h₃.elim
  · rintro m₁ news₁ h g tk ⟨h0, _⟩ F₁ N₁
    exact absurd h0 (by rw [hc]; simp)
end
end
section
open PySem PySem.W PyProof.Rows PySem.Flt PySem.Spec PyProof.Rows.LCg
set_option maxHeartbeats 1000000
section
variable {prog : Program} {w : World} {A : Around} {E : Value → Shared → Prop} {s : Shared} {R : Result → Shared → Prop}
theorem compTurn_last {elt target iter : PySem.Expr} {gens : List Comprehension} {scope : Scope} {pos : Pos} {d : Nat} {it acc : Value} {env : Env} (hg : gens[d]? = some ⟨target, iter, [], 0⟩) (hn : gens[d + 1]? = none) :
    compTurn (.ListComp elt gens scope pos) d it acc env = (standAt iter.pos >>= fun _ => pyNext it >>= fun r => match r with
      | none => pure (.done .next)
      | some v => letOwnedTupleGo target it v >>= fun _ => assign target env v >>= fun _ =>
        (eval elt env >>= fun x => call (.builtin "list.append") [acc, x] >>= fun _ => pure ()) >>= fun _ =>
          again (.compLoop (.ListComp elt gens scope pos) d it acc env)) := by
  unfold compTurn
  simp only [hg, hn]
  rfl
theorem compTurn_mid {elt target iter target2 iter2 : PySem.Expr} {gens : List Comprehension} {scope : Scope} {pos : Pos} {d : Nat} {it acc : Value} {env : Env} (hg : gens[d]? = some ⟨target, iter, [], 0⟩) (hn : gens[d + 1]? = some ⟨target2, iter2, [], 0⟩) :
    compTurn (.ListComp elt gens scope pos) d it acc env = (standAt iter.pos >>= fun _ => pyNext it >>= fun r => match r with
      | none => pure (.done .next)
      | some v => letOwnedTupleGo target it v >>= fun _ => assign target env v >>= fun _ =>
        (eval iter2 env >>= fun x => standAt iter2.pos >>= fun _ => foldedSetIterable iter2 env x >>= fun x => holding [x] (pyIter x) >>= fun it' => runOwn (.compStart (.ListComp elt gens scope pos) (d + 1) it' acc env) env >>= fun _ => again (.compLoop (.ListComp elt gens scope pos) d it acc env))) := by
  unfold compTurn
  simp only [hg, hn]
  rfl
theorem codeAny_compStart_gen {elt target iter : PySem.Expr} {gens : List Comprehension} {scope : Scope} {pos : Pos} {d : Nat} {it acc : Value} {env : Env} (hg : gens[d]? = some ⟨target, iter, [], 0⟩)
    (h0 : codeAny (model prog w) A (.compLoop (.ListComp elt gens scope pos) d it acc env) R s)
    (h : wpAny (model prog w) A (pyIter it) (fun it' s' => codeAny (model prog w) A (.compLoop (.ListComp elt gens scope pos) d it' acc env) R s')
      (notedBy (model prog w) A env fun x s' => R (.error x) s') s) :
    codeAny (model prog w) A (.compStart (.ListComp elt gens scope pos) d it acc env) R s := by
  refine codeAny_of_tree ?_
  show wpAny _ _ ((compStart (.ListComp elt gens scope pos) d it acc env).onRaise (fun x => do noteFrame x env; standAt theWindowsPlace)) _ _ s
  refine wpAny_notedAt ?_
  unfold compStart
  have hc : clausesOf (.ListComp elt gens scope pos) = gens := rfl
  simp only [hc, hg]
  show wpAny _ _ (ask >>= _) _ _ s
  refine wpAny_bind (wpAny_askSetting (wpAny_ite ?_))
  split
  · first
      | exact wpAny_bind (wpAny_pure (wpAny_pure (And.intro rfl h0)))
      | exact wpAny_pure (And.intro rfl h0)
  · first
      | exact wpAny_bind (wpAny_rule (wpAny_bind (wpAny_standAt (wpAny_bind (wpAny_mono h (fun it' s' h' => wpAny_pure (And.intro rfl h')) fun _ _ x => x)))))
      | (refine wpAny_bind (wpAny_rule ?_); show wpAny _ _ (standAt iter.pos >>= _) _ _ s; exact wpAny_bind (wpAny_standAt (wpAny_bind (wpAny_mono h (fun it' s' h' => wpAny_pure (And.intro rfl h')) fun _ _ x => x))))
/-- a turn of the last clause -/
theorem compLoop_last {elt target iter : PySem.Expr} {gens : List Comprehension} {scope : Scope} {pos : Pos} {d : Nat} {it acc : Value} {env : Env} (I : Nat → Shared → Prop) (hg : gens[d]? = some ⟨target, iter, [], 0⟩) (hn : gens[d + 1]? = none)
    (turn : ∀ n s (E : Value → Shared → Prop), I n s → wpAny (model prog w) A (pyNext it) (fun r s₁ => match r with
      | none => R (.ok .next) s₁
      | some v => wpAny (model prog w) A (assign target env v) (fun _ s₂ => wpAny (model prog w) A (eval elt env) (fun x s₃ =>
          wpAny (model prog w) A (call (.builtin "list.append") [acc, x]) (fun _ s₄ => ∃ m, m < n ∧ I m s₄) E s₃) E s₂) E s₁) E s)
    (n : Nat) (h : I n s) (ht : ∀ v, letOwnedTupleGo target it v = pure () := by intro _; rfl) :
    codeAny (model prog w) A (.compLoop (.ListComp elt gens scope pos) d it acc env) R s := by
  refine codeAny_loop rfl I (fun n s hI => ?_) n h
  show wpAny _ _ ((compTurn (.ListComp elt gens scope pos) d it acc env).onRaise (fun x => do noteFrame x env; theTreesLotGoes x)) _ _ s
  refine wpAny_noted ?_
  rw [compTurn_last hg hn]
  refine wpAny_bind (wpAny_standAt (wpAny_bind (wpAny_mono (turn n s _ hI) (fun r s₁ h₁ => ?_) fun _ _ h' => h')))
  cases r with
  | none => exact wpAny_pure h₁
  | some v =>
    refine wpAny_bind (wpAny_of_eq (ht v) ?_)
    exact wpAny_bind (wpAny_mono h₁ (fun _ s₂ h₂ => wpAny_bind (wpAny_bind (wpAny_mono h₂ (fun x s₃ h₃ => wpAny_bind (wpAny_mono h₃
      (fun _ s₄ h₄ => wpAny_pure (wpAny_pure ⟨rfl, h₄⟩)) fun _ _ h' => h')) fun _ _ h' => h'))) fun _ _ h' => h')
/-- a turn of a clause that is not the last -/
theorem compLoop_mid {elt target iter target2 iter2 : PySem.Expr} {gens : List Comprehension} {scope : Scope} {pos : Pos} {d : Nat} {it acc : Value} {env : Env} (I : Nat → Shared → Prop) (hg : gens[d]? = some ⟨target, iter, [], 0⟩) (hn : gens[d + 1]? = some ⟨target2, iter2, [], 0⟩)
    (turn : ∀ n s (E : Value → Shared → Prop), I n s → wpAny (model prog w) A (pyNext it) (fun r s₁ => match r with
      | none => R (.ok .next) s₁
      | some v => wpAny (model prog w) A (assign target env v) (fun _ s₂ => wpAny (model prog w) A (eval iter2 env) (fun x s₃ => wpAny (model prog w) A (pyIter x) (fun it' s₄ =>
          codeAny (model prog w) A (.compStart (.ListComp elt gens scope pos) (d + 1) it' acc env) (fun r s₅ => match r with | .ok _ => ∃ m, m < n ∧ I m s₅ | .error _ => False) s₄) E s₃) E s₂) E s₁) E s)
    (n : Nat) (h : I n s) (ht : ∀ v, letOwnedTupleGo target it v = pure () := by intro _; rfl) (hs : ∀ x, foldedSetIterable iter2 env x = pure x := by intro _; rfl) :
    codeAny (model prog w) A (.compLoop (.ListComp elt gens scope pos) d it acc env) R s := by
  refine codeAny_loop rfl I (fun n s hI => ?_) n h
  show wpAny _ _ ((compTurn (.ListComp elt gens scope pos) d it acc env).onRaise (fun x => do noteFrame x env; theTreesLotGoes x)) _ _ s
  refine wpAny_noted ?_
  rw [compTurn_mid hg hn]
  refine wpAny_bind (wpAny_standAt (wpAny_bind (wpAny_mono (turn n s _ hI) (fun r s₁ h₁ => ?_) fun _ _ h' => h')))
  cases r with
  | none => exact wpAny_pure h₁
  | some v =>
    refine wpAny_bind (wpAny_of_eq (ht v) ?_)
    refine wpAny_bind (wpAny_mono h₁ (fun _ s₂ h₂ => wpAny_bind (wpAny_mono h₂ (fun x s₃ h₃ => wpAny_bind (wpAny_standAt (wpAny_bind (wpAny_of_eq (hs x) (wpAny_bind (wpAny_holding (wpAny_mono h₃ (fun it' s₄ h₄ => ?_) fun _ _ h' => h'))))))) fun _ _ h' => h')) fun _ _ h' => h')
    refine wpAny_bind (wpAny_runOwn (codeAny_mono h₄ fun r s₅ h₅ => ?_))
    cases r with
    | ok f => exact wpAny_pure ⟨rfl, h₅⟩
    | error e => exact h₅.elim
end
end
section
open PySem PySem.W PyProof.Rows PySem.Flt PySem.Spec PyProof.Rows.LCg
set_option maxHeartbeats 1000000
noncomputable abbrev Led := List (Addr × Obj)
noncomputable abbrev Inv := Nat → List Value → Led → (Str → Option Value) → Prop
/-- the end of a turn of a comprehension's clause -/
inductive TEnd (h₀ : Heap) (L : Addr) (m : Str → Option Value) (s : Shared) (I : Addr) (oI : Obj) (C D : Addr) (J' : List Value → Led → (Str → Option Value) → Prop) (s'' : Shared) : Prop where
  | mk (ys : _) (nx : _) (mC : _) (h : _) (g : _) (tk : _) (oC : _) (f0 : s'' = { s with heap := h, gens := g, toks := tk }) (f1 : AllBare s.gens → AllBare g) (f2 : Fr h₀ L h m) (f3 : News h₀ L h ((I, oI) :: (C, oC) :: (D, lst ys) :: nx)) (f4 : NsObj oC mC) (f5 : ∀ p ∈ nx, p.1 ≠ I ∧ p.1 ≠ C ∧ p.1 ≠ D) (f6 : J' ys nx mC) : TEnd h₀ L m s I oI C D J' s''
inductive InvT (h₀ : Heap) (L I C D : Addr) (n : Nat) (St : Nat → Heap → Prop) (m : Str → Option Value) (J : Inv) (s : Shared) (k : Nat) (s' : Shared) : Prop where
  | mk (i : Nat) (h' : Heap) (g' : Array GenState) (tk : Nat) (ys : List Value) (nx : Led) (mC : Str → Option Value) (oC : Obj) (e : s' = { s with heap := h', gens := g', toks := tk }) (f0 : AllBare s.gens → AllBare g') (f1 : St i h') (f2 : Fr h₀ L h' m) (f3 : News h₀ L h' ((C, oC) :: (D, lst ys) :: nx)) (f8 : NsObj oC mC) (f4 : ∀ p ∈ nx, p.1 ≠ I ∧ p.1 ≠ C ∧ p.1 ≠ D) (f5 : J i ys nx mC) (f6 : i ≤ n) (f7 : k = n + 1 - i) : InvT h₀ L I C D n St m J s k s'
theorem TEnd.intro {h₀ : Heap} {L : Addr} {m : Str → Option Value} {s : Shared} {I : Addr} {oI : Obj} {C D : Addr} {J' : List Value → Led → (Str → Option Value) → Prop} {ys : List Value} {nx : Led} {mC : Str → Option Value} {h : Heap} {g : Array GenState} {tk : Nat} {oC : Obj} (hg : AllBare s.gens → AllBare g) (F : Fr h₀ L h m) (N : News h₀ L h ((I, oI) :: (C, oC) :: (D, lst ys) :: nx)) (hO : NsObj oC mC) (off : ∀ p ∈ nx, p.1 ≠ I ∧ p.1 ≠ C ∧ p.1 ≠ D) (hJ : J' ys nx mC) : TEnd h₀ L m s I oI C D J' { s with heap := h, gens := g, toks := tk } :=
  ⟨ys, nx, mC, h, g, tk, oC, rfl, hg, F, N, hO, off, hJ⟩
noncomputable def Looping (prog : Program) (w : World) (A : Around) (code : Code) (it : Value) (target : PySem.Expr) (cenv : Env) (INNER : Shared → (Shared → Prop) → (Value → Shared → Prop) → Prop) : Prop :=
  ∀ (R : Result → Shared → Prop) (Iv : Nat → Shared → Prop), (∀ n s (E : Value → Shared → Prop), Iv n s → wpAny (model prog w) A (pyNext it) (fun r s₁ => match r with
      | none => R (.ok .next) s₁
      | some v => wpAny (model prog w) A (assign target cenv v) (fun _ s₂ => INNER s₂ (fun s' => ∃ m, m < n ∧ Iv m s') E) E s₁) E s) → ∀ n s, Iv n s → codeAny (model prog w) A code R s
noncomputable def InnerLast (prog : Program) (w : World) (A : Around) (elt : PySem.Expr) (acc : Value) (cenv : Env) (s₂ : Shared) (Post : Shared → Prop) (E : Value → Shared → Prop) : Prop :=
  wpAny (model prog w) A (eval elt cenv) (fun x s₃ => wpAny (model prog w) A (call (.builtin "list.append") [acc, x]) (fun _ s₄ => Post s₄) E s₃) E s₂
noncomputable def MidK (prog : Program) (w : World) (A : Around) (e : PySem.Expr) (d : Nat) (acc : Value) (cenv : Env) (Post : Shared → Prop) (E : Value → Shared → Prop) (x : Value) (s₃ : Shared) : Prop :=
  wpAny (model prog w) A (pyIter x) (fun it' s₄ => codeAny (model prog w) A (.compStart e d it' acc cenv) (fun r s₅ => match r with | .ok _ => Post s₅ | .error _ => False) s₄) E s₃
noncomputable def InnerMid (prog : Program) (w : World) (A : Around) (e : PySem.Expr) (d : Nat) (iter2 : PySem.Expr) (acc : Value) (cenv : Env) (s₂ : Shared) (Post : Shared → Prop) (E : Value → Shared → Prop) : Prop :=
  wpAny (model prog w) A (eval iter2 cenv) (MidK prog w A e d acc cenv Post E) E s₂
/-- a value that can be walked: `dep` is what must stand -/
noncomputable def IterAt (prog : Program) (w : World) (A : Around) (xv : Value) (s₁ : Shared) (n : Nat) (P : Nat → Value → Prop) (dep : Led) : Prop :=
  ∀ (Q : Value → Shared → Prop) (E : Value → Shared → Prop), (∀ fp St h₂, (∀ b o, s₁.heap.get? b = some o → h₂.get? b = some o) → Walks prog w A s₁.heap.objs.size fp [s₁.heap.objs.size] n P St → St 0 h₂ → (∀ i h, St i h → ∃ o, h.get? s₁.heap.objs.size = some o) →
    (∀ b ∈ fp, b = s₁.heap.objs.size ∨ ∃ o, (b, o) ∈ dep) → Q (.ref s₁.heap.objs.size) { s₁ with heap := h₂ }) → wpAny (model prog w) A (pyIter xv) Q E s₁
section
variable {prog : Program} {w : World} {A : Around} {E : Value → Shared → Prop} {s : Shared} {R : Result → Shared → Prop} {h₀ : Heap} {L : Addr} {m : Str → Option Value}
theorem looping_last {elt target iter : PySem.Expr} {gens : List Comprehension} {scope : Scope} {pos : Pos} {d : Nat} {it acc : Value} {cenv : Env} (hg : gens[d]? = some ⟨target, iter, [], 0⟩) (hn : gens[d + 1]? = none) (ht : ∀ v, letOwnedTupleGo target it v = pure () := by intro _; rfl) :
    Looping prog w A (.compLoop (.ListComp elt gens scope pos) d it acc cenv) it target cenv (InnerLast prog w A elt acc cenv) :=
  fun _ Iv turn n _ h => compLoop_last Iv hg hn turn n h ht
theorem looping_mid {elt target iter target2 iter2 : PySem.Expr} {gens : List Comprehension} {scope : Scope} {pos : Pos} {d : Nat} {it acc : Value} {cenv : Env} (hg : gens[d]? = some ⟨target, iter, [], 0⟩) (hn : gens[d + 1]? = some ⟨target2, iter2, [], 0⟩) (ht : ∀ v, letOwnedTupleGo target it v = pure () := by intro _; rfl)
    (hs : ∀ x, foldedSetIterable iter2 cenv x = pure x := by intro _; rfl) :
    Looping prog w A (.compLoop (.ListComp elt gens scope pos) d it acc cenv) it target cenv (InnerMid prog w A (.ListComp elt gens scope pos) (d + 1) iter2 acc cenv) :=
  fun _ Iv turn n _ h => compLoop_mid Iv hg hn turn n h ht hs
theorem iter_list {D : Addr} {vs : List Value} {k : Nat} {news : Led} (hh : A.handled = none) (N : News h₀ L s.heap news) (hm : (D, listOf vs.toArray k) ∈ news) :
    IterAt prog w A (.ref D) s vs.length (fun i v => vs[i]? = some v) [(D, listOf vs.toArray k)] := by
  intro Q E h
  have hl := News.isList N hm
  have hlt : D < s.heap.objs.size := Heap.lt_size (N _ hm).1
  refine wpAny_pyIter_list hl ?_
  have W := Walks.list (prog := prog) (w := w) (A := A) hh s.heap.objs.size D (Nat.ne_of_lt hlt) vs.toArray
  rw [List.size_toArray] at W
  refine h _ _ _ (fun b o e => Heap.get?_push_of_some _ e) { W with item := fun i s' Q' E' hi st hQ => W.item i s' Q' E' hi st fun v h' tk hP => hQ v h' tk (by simpa using hP) } ⟨⟨_, Heap.get?_push_size _ rfl, rfl, rfl⟩, hl.push _⟩ (fun i h st => by obtain ⟨o, e, _⟩ := st.1; exact ⟨o, e⟩) fun b hb => ?_
  rcases List.mem_cons.mp hb with hb | hb
  · exact .inl hb
  · exact .inr ⟨_, by rw [List.mem_singleton.mp hb]; exact .head _⟩
theorem iter_range {r : Addr} {a b : Int} {t u v : Tok} {n : Nat} (hh : A.handled = none) (hr : IsRange s.heap r a b 1 t u v) (hb : -(2 ^ 60) ≤ a ∧ a < 2 ^ 60 ∧ -(2 ^ 60) ≤ b ∧ b < 2 ^ 60) (hn : n = (b - a).toNat) :
    IterAt prog w A (.ref r) s n (fun i v => ∃ t, v = .int (a + (i : Int)) t) [] := by
  intro Q E h
  subst hn
  obtain ⟨hb1, hb2, hb3, hb4⟩ := hb
  refine wpAny_pyIter_range hr (small_one (by omega) (by omega) (by omega) (by omega)) ?_
  have hn : Builtin.Range.rangeSize a b 1 = ((b - a).toNat : Int) := rangeSize_nat _ _
  refine h _ _ _ (fun b o e => Heap.get?_push_of_some _ e) (range_walks hh a (b - a).toNat) ?_ (fun i h e => ⟨_, e⟩) fun b hb => .inl (List.mem_singleton.mp hb)
  show IsRangeIter _ _ _ _ _
  rw [hn]; simpa using Heap.get?_push_size _ rfl
theorem level {code : Code} {target : PySem.Expr} {cenv : Env} {INNER : Shared → (Shared → Prop) → (Value → Shared → Prop) → Prop} {I C D : Addr} {fp : List Addr} {n : Nat} {P : Nat → Value → Prop} {St : Nat → Heap → Prop} {J : Inv} {dep : Led} {h₁ : Heap} {g₁ : Array GenState} {tk₁ : Nat} {ys₁ : List Value} {nx₁ : Led} {mC₁ : Str → Option Value} {oC₁ : Obj}
    (LR : Looping prog w A code (.ref I) target cenv INNER) (W : Walks prog w A I fp [I] n P St) (hIo : ∀ i h, St i h → ∃ o, h.get? I = some o) (hfp : ∀ b ∈ fp, b = I ∨ ∃ o, (b, o) ∈ dep) (hdep : ∀ p ∈ dep, ∀ i ys nx mC, J i ys nx mC → p ∈ nx)
    (hIL : L ≠ I) (hI₀ : h₀.get? I = none) (hIC : I ≠ C) (hID : I ≠ D) (hst : St 0 h₁) (F₁ : Fr h₀ L h₁ m) (N₁ : News h₀ L h₁ ((C, oC₁) :: (D, lst ys₁) :: nx₁)) (hO₁ : NsObj oC₁ mC₁) (off₁ : ∀ p ∈ nx₁, p.1 ≠ I ∧ p.1 ≠ C ∧ p.1 ≠ D) (hJ₁ : J 0 ys₁ nx₁ mC₁) (hgk₁ : AllBare s.gens → AllBare g₁)
    (turn : ∀ i v ys nx mC h g tk oC oI (E : Value → Shared → Prop) (Post : Shared → Prop), (AllBare s.gens → AllBare g) → i < n → P i v → J i ys nx mC → NsObj oC mC → Fr h₀ L h m → News h₀ L h ((I, oI) :: (C, oC) :: (D, lst ys) :: nx) → (∀ p ∈ nx, p.1 ≠ I ∧ p.1 ≠ C ∧ p.1 ≠ D) →
      (∀ s'', TEnd h₀ L m s I oI C D (J (i + 1)) s'' → Post s'') → wpAny (model prog w) A (assign target cenv v) (fun _ s₂ => INNER s₂ Post E) E { s with heap := h, gens := g, toks := tk })
    (done : ∀ ys nx mC h g tk oC, (AllBare s.gens → AllBare g) → J n ys nx mC → NsObj oC mC → Fr h₀ L h m → News h₀ L h ((C, oC) :: (D, lst ys) :: nx) → (∀ p ∈ nx, p.1 ≠ I ∧ p.1 ≠ C ∧ p.1 ≠ D) → R (.ok .next) { s with heap := h, gens := g, toks := tk }) :
    codeAny (model prog w) A code R { s with heap := h₁, gens := g₁, toks := tk₁ } := by
  have old : ∀ b o, h₀.get? b = some o → b ≠ I := fun b o e hb => by rw [hb, hI₀] at e; cases e
  refine LR R (InvT h₀ L I C D n St m J s) ?_ (n + 1) _
    ⟨0, h₁, g₁, tk₁, ys₁, nx₁, mC₁, oC₁, rfl, hgk₁, hst, F₁, N₁, hO₁, off₁, hJ₁, Nat.zero_le _, rfl⟩
  rintro k s' E ⟨i, h', g', tk, ys, nx, mC, oC, rfl, hgk, hst', F', N', hO, off, hJ, hi, rfl⟩
  have next : ∀ h₂ : Heap, (∀ b o, b ∉ [I] → h'.get? b = some o → h₂.get? b = some o) → Fr h₀ L h₂ m ∧ News h₀ L h₂ ((C, oC) :: (D, lst ys) :: nx) := fun h₂ hk =>
    ⟨⟨F'.ns.at' fun o e => hk _ o (by simpa using hIL) e, fun b o e => hk b o (by simpa using old b o e) (F'.keep b o e), F'.above⟩, fun p hp => ⟨hk _ _ (by
      rcases List.mem_cons.mp hp with rfl | hp
      · simpa using Ne.symm hIC
      · rcases List.mem_cons.mp hp with rfl | hp
        · simpa using Ne.symm hID
        · simpa using (off p hp).1) (N' p hp).1, (N' p hp).2⟩⟩
  by_cases hlt : i < n
  · refine W.item i _ _ _ hlt hst' fun v h₂ tk₂ hP hst₂ hk₂ => ?_
    obtain ⟨F₂, N₂⟩ := next h₂ hk₂
    obtain ⟨oI, hoI⟩ := hIo _ _ hst₂
    have Nown : News h₀ L h₂ ((I, oI) :: (C, oC) :: (D, lst ys) :: nx) := fun p hp => by
      rcases List.mem_cons.mp hp with rfl | hp
      · exact ⟨hoI, fun e => hIL e.symm, hI₀⟩
      · exact N₂ p hp
    refine turn i v ys nx mC h₂ g' tk₂ oC oI E _ hgk hlt hP hJ hO F₂ Nown off fun s'' hT => ?_
    obtain ⟨ys₃, nx₃, mC₃, h₃, g₃, tk₃, oC₃, rfl, hgk₃, F₃, N₃, hO₃, off₃, hJ₃⟩ := hT
    refine ⟨n + 1 - (i + 1), by omega, i + 1, h₃, g₃, tk₃, ys₃, nx₃, mC₃, oC₃, rfl, hgk₃, ?_, F₃, fun p hp => N₃ p (List.mem_cons_of_mem _ hp), hO₃, off₃, hJ₃, hlt, rfl⟩
    refine W.frame _ _ _ hst₂ fun b hb o e => ?_
    rcases hfp b hb with rfl | ⟨o', hd⟩
    · rw [hoI] at e; cases e
      exact (N₃ _ (.head _)).1
    · have e1 := (Nown _ (.tail _ (.tail _ (.tail _ (hdep _ hd _ _ _ _ hJ))))).1
      dsimp only at e1
      rw [e1] at e; cases e
      exact (N₃ _ (.tail _ (.tail _ (.tail _ (hdep _ hd _ _ _ _ hJ₃))))).1
  · obtain rfl : i = n := by omega
    refine W.done _ _ _ hst' fun h₂ tk₂ hk₂ => ?_
    obtain ⟨F₂, N₂⟩ := next h₂ hk₂
    exact done ys nx mC h₂ g' tk₂ oC hgk hJ hO F₂ N₂ off
end
end
section
open PySem PySem.W PyProof.Rows PySem.Flt PySem.Spec PyProof.Rows.LCg
set_option maxHeartbeats 1000000
section
variable {prog : Program} {w : World} {A : Around} {E : Value → Shared → Prop} {s : Shared} {R : Result → Shared → Prop} {h₀ : Heap} {L : Addr} {m : Str → Option Value} {env : Env}
/-- one turn of a clause, as its loop asks for it -/
noncomputable def TurnAt (prog : Program) (w : World) (A : Around) (h₀ : Heap) (L : Addr) (m : Str → Option Value) (s : Shared) (target : PySem.Expr) (cenv : Env) (INNER : Shared → (Shared → Prop) → (Value → Shared → Prop) → Prop) (C D : Addr) (n : Nat) (P : Nat → Value → Prop) (J : Inv) : Prop :=
  ∀ i v ys nx mC h g tk oC I oI (E : Value → Shared → Prop) (Post : Shared → Prop), (AllBare s.gens → AllBare g) → i < n → P i v → J i ys nx mC → NsObj oC mC → Fr h₀ L h m → News h₀ L h ((I, oI) :: (C, oC) :: (D, lst ys) :: nx) → (∀ p ∈ nx, p.1 ≠ I ∧ p.1 ≠ C ∧ p.1 ≠ D) → ((@Ne Nat I C) ∧ (@Ne Nat I D) ∧ (@Ne Nat C D)) →
      (∀ s'', TEnd h₀ L m s I oI C D (J (i + 1)) s'' → Post s'') → wpAny (model prog w) A (assign target cenv v) (fun _ s₂ => INNER s₂ Post E) E { s with heap := h, gens := g, toks := tk }
/-- the inner clause, entered at the value `xv` -/
theorem mid_go {elt target iter : PySem.Expr} {gens : List Comprehension} {scope : Scope} {pos : Pos} {d : Nat} {cenv : Env} {INNER : Shared → (Shared → Prop) → (Value → Shared → Prop) → Prop} {C D : Addr} {n : Nat} {P : Nat → Value → Prop} {dep : Led} {xv : Value} {Post : Shared → Prop} {ys : List Value} {nx : Led} {mC : Str → Option Value} {oC : Obj}
    (hg : gens[d]? = some ⟨target, iter, [], 0⟩) (LR : ∀ I, Looping prog w A (.compLoop (.ListComp elt gens scope pos) d (.ref I) (.ref D) cenv) (.ref I) target cenv INNER)
    (IT : IterAt prog w A xv s n P dep) (J : Inv) (F : Fr h₀ L s.heap m) (N : News h₀ L s.heap ((C, oC) :: (D, lst ys) :: nx)) (hO : NsObj oC mC) (off : ∀ p ∈ nx, p.1 ≠ C ∧ p.1 ≠ D) (hCD : @Ne Nat C D)
    (hdep : ∀ p ∈ dep, ∀ i ys nx mC, J i ys nx mC → p ∈ nx) (hJ : J 0 ys nx mC) (turn : TurnAt prog w A h₀ L m s target cenv INNER C D n P J)
    (done : ∀ ys nx mC h g tk oC, (AllBare s.gens → AllBare g) → J n ys nx mC → NsObj oC mC → Fr h₀ L h m → News h₀ L h ((C, oC) :: (D, lst ys) :: nx) → (∀ p ∈ nx, p.1 ≠ C ∧ p.1 ≠ D) → Post { s with heap := h, gens := g, toks := tk }) :
    MidK prog w A (.ListComp elt gens scope pos) d (.ref D) cenv Post E xv s := by
  unfold MidK
  refine IT _ _ fun fp St h₂ up W hst hIo hfp => ?_
  have hIL : L ≠ s.heap.objs.size := Nat.ne_of_lt F.ns.lt
  have hnew : ∀ p ∈ (C, oC) :: (D, lst ys) :: nx, p.1 ≠ s.heap.objs.size := fun p hp => Nat.ne_of_lt (Heap.lt_size (N p hp).1)
  have hIC : s.heap.objs.size ≠ C := Ne.symm (hnew (C, oC) (.head _))
  have hID : s.heap.objs.size ≠ D := Ne.symm (hnew (D, lst ys) (.tail _ (.head _)))
  have loop : codeAny (model prog w) A (.compLoop (.ListComp elt gens scope pos) d (.ref s.heap.objs.size) (.ref D) cenv) (fun r s₅ => match r with | .ok _ => Post s₅ | .error _ => False) { s with heap := h₂ } :=
    level (s := s) (g₁ := s.gens) (tk₁ := s.toks) (LR _) W hIo hfp hdep hIL (next_is_new F) hIC hID hst (F.keeps up) (N.grown up) hO (fun p hp => ⟨hnew p (.tail _ (.tail _ hp)), off p hp⟩) hJ id
      (fun i v ys nx mC h g tk oC oI E Post hz hi hP hJ hO F N off hT => turn i v ys nx mC h g tk oC _ oI E Post hz hi hP hJ hO F N off ⟨hIC, hID, hCD⟩ hT)
      (fun ys nx mC h g tk oC hz hJ hO F N off => done ys nx mC h g tk oC hz hJ hO F N fun p hp => (off p hp).2)
  exact codeAny_compStart_gen hg loop (W.self 0 _ _ _ hst loop)
/-- the target is a name -/
theorem assign_nm {x : Str} {px : Pos} {scope : Scope} {cl : List (Str × Addr)} {C D I : Addr} {oI oC : Obj} {mC : Str → Option Value} {ys : List Value} {nx : Led} {v : Value} {Q : Unit → Shared → Prop} (hkind : scope.kind = .function) (hx : scope.names.lookup x = some .local)
    (hO : NsObj oC mC) (F : Fr h₀ L s.heap m) (N : News h₀ L s.heap ((I, oI) :: (C, oC) :: (D, lst ys) :: nx)) (off : ∀ p ∈ nx, p.1 ≠ I ∧ p.1 ≠ C ∧ p.1 ≠ D) (hne : (@Ne Nat I C) ∧ (@Ne Nat I D) ∧ (@Ne Nat C D))
    (h : ∀ h' tk' oC', NsObj oC' (fun y => if y = x then some v else mC y) → Fr h₀ L h' m → News h₀ L h' ((I, oI) :: (C, oC') :: (D, lst ys) :: nx) → Q () { s with heap := h', toks := tk' }) :
    wpAny (model prog w) A (assign (.Name x px) (compEnvC scope cl C env) v) Q E s := by
  have hC := (N _ (.tail _ (.head _)))
  refine wpAny_assign_Name (wpAny_storeName_local (lookup_relabel_local hx) (hO.ns hC.1) (fun h₃ hn₃ hs₃ => ?_) (by simp [compEnvC, relabel, hkind]))
  obtain ⟨oC', heC, hoC⟩ := ns_obj hn₃
  refine h h₃ _ oC' hoC (F.change hs₃ hC.2.1 hC.2.2) fun p hp => ?_
  rcases List.mem_cons.mp hp with rfl | hp
  · exact ⟨hs₃.extBut _ _ hne.1 (N _ (.head _)).1, (N _ (.head _)).2⟩
  · rcases List.mem_cons.mp hp with rfl | hp
    · exact ⟨heC, hC.2⟩
    · refine ⟨hs₃.extBut _ _ ?_ (N p (.tail _ (.tail _ hp))).1, (N p (.tail _ (.tail _ hp))).2⟩
      rcases List.mem_cons.mp hp with rfl | hp
      · exact Ne.symm hne.2.2
      · exact (off p hp).2.1
/-- the element is there: it is appended -/
inductive EltEnd (h₀ : Heap) (L : Addr) (m : Str → Option Value) (s : Shared) (keep : Led) (Jy : Value → Prop) (y : Value) (s'' : Shared) : Prop where
  | mk (h : _) (g : _) (tk : _) (news : _) (f0 : s'' = { s with heap := h, gens := g, toks := tk }) (f1 : AllBare s.gens → AllBare g) (f2 : Fr h₀ L h m) (f3 : News h₀ L h news) (f4 : ∀ p ∈ keep, p ∈ news) (f5 : Jy y) : EltEnd h₀ L m s keep Jy y s''
theorem EltEnd.intro {keep : Led} {Jy : Value → Prop} {y : Value} {h : Heap} {g : Array GenState} {tk : Nat} {news : Led} (F : Fr h₀ L h m) (N : News h₀ L h news) (hk : ∀ p ∈ keep, p ∈ news) (hj : Jy y) (hz : AllBare s.gens → AllBare g := by exact fun z => z) : EltEnd h₀ L m s keep Jy y { s with heap := h, gens := g, toks := tk } :=
  ⟨h, g, tk, news, rfl, hz, F, N, hk, hj⟩
theorem emit_ok {elt : PySem.Expr} {cenv : Env} {C D I : Addr} {oI oC : Obj} {mC : Str → Option Value} {ys : List Value} {nx : Led} {s₀ : Shared} {J' : List Value → Led → (Str → Option Value) → Prop} {Post : Shared → Prop} (hO : NsObj oC mC) (off : ∀ p ∈ nx, p.1 ≠ I ∧ p.1 ≠ C ∧ p.1 ≠ D) (hne : (@Ne Nat I C) ∧ (@Ne Nat I D) ∧ (@Ne Nat C D)) (hsz : ys.length ≤ sizeLine)
    (hP : ∀ s'', TEnd h₀ L m s₀ I oI C D J' s'' → Post s'') (hs : ∃ h g tk, s = { s₀ with heap := h, gens := g, toks := tk } ∧ (AllBare s₀.gens → AllBare g))
    (h : wpAny (model prog w) A (eval elt cenv) (EltEnd h₀ L m s ((I, oI) :: (C, oC) :: (D, lst ys) :: nx) (fun y => J' (ys ++ [y]) nx mC)) E s) :
    InnerLast prog w A elt (.ref D) cenv s Post E := by
  obtain ⟨hh, gg, tt, rfl, hz₀⟩ := hs
  unfold InnerLast
  refine wpAny_mono h (fun y s₃ h₃ => ?_) fun _ _ e => e
  obtain ⟨h', g', tk', news, rfl, hz₁, F, N, hk, hJ⟩ := h₃
  have zD := (N _ (hk _ (.tail _ (.tail _ (.head _)))))
  refine append_at (hsz := by show ys.toArray.size ≤ sizeLine; rw [List.size_toArray]; exact hsz) zD.1 fun h₅ hs₅ hD₅ => hP _ ?_
  refine ⟨ys ++ [y], nx, mC, h₅, g', tk', oC, rfl, fun z => hz₁ (hz₀ z), F.change hs₅ zD.2.1 zD.2.2, fun p hp => ?_, hO, off, hJ⟩
  rcases List.mem_cons.mp hp with rfl | hp
  · have z := N _ (hk _ (.head _)); exact ⟨hs₅.extBut _ _ hne.2.1 z.1, z.2⟩
  · rcases List.mem_cons.mp hp with rfl | hp
    · have z := N _ (hk _ (.tail _ (.head _))); exact ⟨hs₅.extBut _ _ hne.2.2 z.1, z.2⟩
    · rcases List.mem_cons.mp hp with rfl | hp
      · exact ⟨hD₅.trans (congrArg some (lst_snoc ys y)), zD.2⟩
      · have z := N _ (hk _ (.tail _ (.tail _ (.tail _ hp)))); exact ⟨hs₅.extBut _ _ (off p hp).2.2 z.1, z.2⟩
/-- the first clause's source, and all that follows -/
inductive SrcM (prog : Program) (w : World) (A : Around) (h₀ : Heap) (L : Addr) (m : Str → Option Value) (target : PySem.Expr) (cenvOf : Addr → Env) (INNER : Addr → Addr → Shared → (Shared → Prop) → (Value → Shared → Prop) → Prop) (Q : Value → Shared → Prop) (xv : Value) (s₁ : Shared) : Prop where
  | mk (n : _) (P : _) (dep : _) (news : _) (J : _) (f0 : IterAt prog w A xv s₁ n P dep) (f1 : Fr h₀ L s₁.heap m) (f2 : News h₀ L s₁.heap news) (f3 : ∀ p ∈ dep, ∀ i ys nx mC, J i ys nx mC → p ∈ nx) (f4 : ∀ mC, J 0 [] news mC) (f5 : ∀ C D, TurnAt prog w A h₀ L m s₁ target (cenvOf C) (INNER C D) C D n P J) (f6 : ∀ D ys nx mC h g tk, (AllBare s₁.gens → AllBare g) → J n ys nx mC → Fr h₀ L h m → News h₀ L h ((D, lst ys) :: nx) → (∀ p ∈ nx, p.1 ≠ D) → Q (.ref D) { s₁ with heap := h, gens := g, toks := tk }) : SrcM prog w A h₀ L m target cenvOf INNER Q xv s₁
theorem SrcM.intro {prog : Program} {w : World} {A : Around} {h₀ : Heap} {L : Addr} {m : Str → Option Value} {target : PySem.Expr} {cenvOf : Addr → Env} {INNER : Addr → Addr → Shared → (Shared → Prop) → (Value → Shared → Prop) → Prop} {xv : Value} {s₁ : Shared} {n : Nat} {P : Nat → Value → Prop} {dep news : List (Addr × Obj)} {Q : Value → Shared → Prop} (J : Inv) (W : IterAt prog w A xv s₁ n P dep) (F : Fr h₀ L s₁.heap m) (N : News h₀ L s₁.heap news) (hd : ∀ p ∈ dep, ∀ i ys nx mC, J i ys nx mC → p ∈ nx) (hJ : ∀ mC, J 0 [] news mC) (turn : ∀ C D, TurnAt prog w A h₀ L m s₁ target (cenvOf C) (INNER C D) C D n P J) (done : ∀ D ys nx mC h g tk, (AllBare s₁.gens → AllBare g) → J n ys nx mC → Fr h₀ L h m → News h₀ L h ((D, lst ys) :: nx) → (∀ p ∈ nx, p.1 ≠ D) → Q (.ref D) { s₁ with heap := h, gens := g, toks := tk }) : SrcM prog w A h₀ L m target cenvOf INNER Q xv s₁ :=
  ⟨n, P, dep, news, J, W, F, N, hd, hJ, turn, done⟩
theorem ListComp_M {elt target iter : PySem.Expr} {gs : List Comprehension} {scope : Scope} {cl : List (Str × Addr)} {pos : Pos} {Q : Value → Shared → Prop} {INNER : Addr → Addr → Shared → (Shared → Prop) → (Value → Shared → Prop) → Prop} (_F₀ : Fr h₀ L s.heap m)
    (hclos : closureFor scope env = pure cl) (hcell : ∀ y ∈ scope.names, y.2 ≠ .cell) (hkind : scope.kind = .function)
    (hnames : ∀ y ∈ scope.names, y.2 = .local → scope.names.lookup y.1 = some .local)
    (LR : ∀ C I D, Looping prog w A (.compLoop (.ListComp elt (⟨target, iter, [], 0⟩ :: gs) scope pos) 0 (.ref I) (.ref D) (compEnvC scope cl C env)) (.ref I) target (compEnvC scope cl C env) (INNER C D))
    (h : wpAny (model prog w) A (eval iter env) (SrcM prog w A h₀ L m target (fun C => compEnvC scope cl C env) INNER Q) E s)
    (hs : ∀ x, foldedSetIterable iter env x = pure x := by intro _; rfl) :
    wpAny (model prog w) A (eval (.ListComp elt (⟨target, iter, [], 0⟩ :: gs) scope pos) env) Q E s := by
  rw [eval_ListComp]
  refine wpAny_comprehension_free (use := none) rfl hs hclos hkind hnames (wpAny_mono h (fun xv s₁ h₁ => ?_) fun _ _ e => e)
  obtain ⟨n, P, dep, news, J, IT, F, N, hdep, hJ, turn, done⟩ := h₁
  refine IT _ _ fun fp St h₂ up W hst hIo hfp => ?_
  have F₂ := F.keeps up
  have N₂ := N.grown up
  obtain ⟨oI₀, hI₂⟩ := hIo _ _ hst
  have hIlt : s₁.heap.objs.size < h₂.objs.size := Heap.lt_size hI₂
  refine wpAny_newObj_type (wpAny_newFunctionEnv hcell (by intro y hy; simp at hy) (fun h₃ hns₃ hsb₃ => ?_) hkind)
  dsimp only at hns₃ hsb₃ ⊢
  generalize hH2 : h₂.push { cls := .type "list", dict := none, data := .seq ([] : List Value).toArray } = H2 at hns₃ hsb₃ ⊢
  have hC : H2.objs.size = h₂.objs.size + 1 := by rw [← hH2, Heap.size_push]
  have hCD : H2.objs.size ≠ h₂.objs.size := by rw [hC]; exact Ne.symm (Nat.ne_of_lt (Nat.lt_succ_self _))
  have below : ∀ b, b < h₂.objs.size → b ≠ H2.objs.size ∧ b ≠ h₂.objs.size := fun b hb => ⟨by rw [hC]; exact Nat.ne_of_lt (Nat.lt_succ_of_lt hb), Nat.ne_of_lt hb⟩
  have old : ∀ b o, h₂.get? b = some o → h₃.get? b = some o := fun b o e => hsb₃.extBut b o (below b (Heap.lt_size e)).1 (Heap.get?_push_of_some _ (hH2 ▸ Heap.get?_push_of_some _ e))
  have hacc : h₃.get? h₂.objs.size = some (lst []) := hsb₃.extBut _ _ (Ne.symm hCD) (Heap.get?_push_of_some _ (hH2 ▸ Heap.get?_push_size _ rfl))
  have hst₃ : St 0 h₃ := W.frame _ _ _ hst fun b _ o e => old b o e
  have fresh : ∀ a, h₂.objs.size ≤ a → h₂.get? a = none := fun a ha => by
    cases e : h₂.get? a with
    | none => rfl
    | some o' => exact absurd (Heap.lt_size e) (Nat.not_lt.mpr ha)
  have fresh₀ : ∀ a, h₂.objs.size ≤ a → h₀.get? a = none := fun a ha => by
    cases e : h₀.get? a with
    | none => rfl
    | some o' => have := F₂.keep a o' e; rw [fresh a ha] at this; cases this
  have hD₀ := fresh₀ _ (Nat.le_refl _)
  have hC₀ : h₀.get? H2.objs.size = none := fresh₀ _ (by rw [hC]; exact Nat.le_succ _)
  have hLlt : L < h₂.objs.size := F₂.ns.lt
  have hDL : h₂.objs.size ≠ L := Ne.symm (below L hLlt).2
  have hCL : H2.objs.size ≠ L := Ne.symm (below L hLlt).1
  have hIL : L ≠ s₁.heap.objs.size := Nat.ne_of_lt F.ns.lt
  have hIC := (below _ hIlt).1
  have hID := (below _ hIlt).2
  obtain ⟨oC, heC, hoC⟩ := ns_obj hns₃
  have N₃ : News h₀ L h₃ ((H2.objs.size, oC) :: (h₂.objs.size, lst []) :: news) := fun p hp => by
    rcases List.mem_cons.mp hp with rfl | hp
    · exact ⟨heC, hCL, hC₀⟩
    · rcases List.mem_cons.mp hp with rfl | hp
      · exact ⟨hacc, hDL, hD₀⟩
      · exact ⟨old _ _ (N₂ p hp).1, (N₂ p hp).2⟩
  have off₃ : ∀ p ∈ news, p.1 ≠ s₁.heap.objs.size ∧ p.1 ≠ H2.objs.size ∧ p.1 ≠ h₂.objs.size := fun p hp => ⟨Nat.ne_of_lt (Heap.lt_size (N p hp).1), below _ (Heap.lt_size (N₂ p hp).1)⟩
  have loop : ∀ s₃ : Shared, s₃ = { s₁ with heap := h₃, toks := s₁.toks + ([] : List (Str × Value)).length } →
      codeAny (model prog w) A (.compLoop (.ListComp elt (⟨target, iter, [], 0⟩ :: gs) scope pos) 0 (.ref s₁.heap.objs.size) (.ref h₂.objs.size) (compEnvC scope cl H2.objs.size env))
        (compPost (model prog w) A E none Q (.ref h₂.objs.size) H2.objs.size) s₃ := by
    rintro s₃ rfl
    refine level (s := s₁) (g₁ := s₁.gens) (LR _ _ _) W hIo hfp hdep hIL (next_is_new F) hIC hID hst₃ (F₂.keeps old) N₃ hoC off₃ (hJ _) id
      (fun i v ys nx mC h g tk oC oI E Post hz hi hP hJ hO F N off hT => turn _ _ i v ys nx mC h g tk oC _ oI E Post hz hi hP hJ hO F N off ⟨hIC, hID, hCD⟩ hT) ?_
    intro ys nx mC h g tk oC hz hJ hO F N off
    refine ⟨mC, hO.ns (N _ (.head _)).1, fun h'' hs'' => done _ ys nx mC h'' g tk hz hJ (F.change hs'' hCL hC₀) (fun p hp => ?_) fun p hp => (off p hp).2.2⟩
    refine ⟨hs''.extBut _ _ ?_ (N p (.tail _ hp)).1, (N p (.tail _ hp)).2⟩
    rcases List.mem_cons.mp hp with rfl | hp
    · exact Ne.symm hCD
    · exact (off p hp).2.1
  exact codeAny_compStart_gen rfl (loop _ rfl) (W.self 0 _ _ _ hst₃ (loop _ rfl))
end
end
section
open PySem PySem.W PyProof.Rows PySem.Flt PySem.Spec
set_option maxHeartbeats 1000000
/-- the turn's end under a loop whose name is a cell `c` -/
inductive EndC (h₀ : Heap) (L : Addr) (J : (Str → Option Value) → List (Addr × Obj) → Array GenState → Prop) (I : Addr) (oI : Obj) (c : Addr) (s₁ s₂ : Shared) : Prop where
  | mk (h' : _) (g' : _) (tk : _) (m' : _) (news' : _) (nx : _) (oc : _) (v : _) (f0 : s₂ = { s₁ with heap := h', gens := g', toks := tk }) (f1 : Fr h₀ L h' m') (f2 : News h₀ L h' news') (f3 : (I, oI) ∈ news') (f4 : (c, oc) ∈ news') (f5 : oc.data = .cell v) (f6 : ∀ p ∈ nx, p ∈ news') (f7 : ∀ p ∈ nx, p.1 ≠ I ∧ p.1 ≠ c) (f8 : J m' nx g') : EndC h₀ L J I oI c s₁ s₂
inductive InvC (h₀ : Heap) (L I c : Addr) (n : Nat) (St : Nat → Heap → Prop) (J : Nat → (Str → Option Value) → List (Addr × Obj) → Array GenState → Prop) (s : Shared) (k : Nat) (s' : Shared) : Prop where
  | mk (h' : Heap) (g' : Array GenState) (tk : Nat) (m' : Str → Option Value) (news' : List (Addr × Obj)) (i : Nat) (oc : Obj) (v : Option Value) (e : s' = { s with heap := h', gens := g', toks := tk }) (f1 : St i h') (f2 : Fr h₀ L h' m') (f3 : News h₀ L h' ((c, oc) :: news')) (f8 : oc.data = .cell v) (f4 : ∀ p ∈ news', p.1 ≠ I ∧ p.1 ≠ c) (f5 : J i m' news' g') (f6 : i ≤ n) (f7 : k = n + 1 - i) : InvC h₀ L I c n St J s k s'
noncomputable def PostC (h₀ : Heap) (L : Addr) (J : (Str → Option Value) → List (Addr × Obj) → Array GenState → Prop) (I : Addr) (oI : Obj) (c : Addr) (s₁ : Shared) (Q : Flow → Shared → Prop) (f : Flow) (s₂ : Shared) : Prop :=
  match f with
  | .ret v => Q (.ret v) s₂
  | .brk => Q .next s₂
  | _ => EndC h₀ L J I oI c s₁ s₂
section
variable {prog : Program} {w : World} {A : Around} {E : Value → Shared → Prop} {s : Shared} {env : Env} {h₀ : Heap} {x : Str} {body orelse : List Stmt} {Q : Flow → Shared → Prop}
theorem loopC {px : Pos} {I c : Addr} {n : Nat} {P : Nat → Value → Prop} {St : Nat → Heap → Prop} {m₀ : Str → Option Value} {news : List (Addr × Obj)} {R : Result → Shared → Prop} {oc₀ : Obj} {vc₀ : Option Value}
    (J : Nat → (Str → Option Value) → List (Addr × Obj) → Array GenState → Prop)
    (W : Walks prog w A I [I] [I] n P St) (hk : env.scope.kind = .function) (hx : env.kindOf x = some .cell) (hc : env.cells.lookup x = some c)
    (hIo : ∀ i h, St i h → ∃ o, h.get? I = some o) (hLI : env.locals ≠ I) (hI0 : h₀.get? I = none) (hIc : c ≠ I) (hnw : ∀ p ∈ news, p.1 ≠ I ∧ p.1 ≠ c) (hst : St 0 s.heap) (F : Fr h₀ env.locals s.heap m₀) (N : News h₀ env.locals s.heap ((c, oc₀) :: news)) (hoc : oc₀.data = .cell vc₀) (hj : J 0 m₀ news s.gens)
    (turn : ∀ i v m₁ news₁ h g tk oI oc, i < n → P i v → (∀ p ∈ news₁, p.1 ≠ I ∧ p.1 ≠ c) → J i m₁ news₁ g → oc.data = .cell (some v) → Fr h₀ env.locals h m₁ → News h₀ env.locals h ((I, oI) :: (c, oc) :: news₁) →
      wpAny (model prog w) A (execs body env) (PostC h₀ env.locals (J (i + 1)) I oI c { s with heap := h, gens := g, toks := tk } (fun f s' => R (.ok f) s')) (notedBy (model prog w) A env fun e s' => R (.error e) s') { s with heap := h, gens := g, toks := tk })
    (done : ∀ m₁ news₁ h g tk oc v, J n m₁ news₁ g → oc.data = .cell v → Fr h₀ env.locals h m₁ → News h₀ env.locals h ((c, oc) :: news₁) → (∀ p ∈ news₁, p.1 ≠ c) →
      wpAny (model prog w) A (execs orelse env) (fun f s₃ => R (.ok f) s₃) (notedBy (model prog w) A env fun e s' => R (.error e) s') { s with heap := h, gens := g, toks := tk }) :
    codeAny (model prog w) A (.forLoop (.Name x px) (.ref I) body orelse env) R s := by
  revert prog w A s env h₀ x body orelse px I c n P St m₀ news R oc₀ vc₀ J
  refine (?zh : ∀ prog w A s env h₀ x body orelse px I c n P St m₀ news R oc₀ vc₀ J, (?zP : _ → _ → _ → _ → _ → _ → _ → _ → _ → _ → _ → _ → _ → _ → _ → _ → _ → _ → _ → _ → _ → Prop) prog w A s env h₀ x body orelse px I c n P St m₀ news R oc₀ vc₀ J)
  refine fun prog w A s env h₀ x body orelse px I c n P St m₀ news R oc₀ vc₀ J => allE (P := un2 fun prog => un2 fun w => un2 fun A => un2 fun s => un2 fun env => un2 fun h₀ => un2 fun x => un2 fun body => un2 fun orelse => un2 fun px => un2 fun I => un2 fun c => un2 fun n => un2 fun P => un2 fun St => un2 fun m₀ => un2 fun news => un2 fun R => un2 fun oc₀ => un2 fun vc₀ J => ?zP prog w A s env h₀ x body orelse px I c n P St m₀ news R oc₀ vc₀ J) ?zn ?zk (prog, w, A, s, env, h₀, x, body, orelse, px, I, c, n, P, St, m₀, news, R, oc₀, vc₀, J)
  case zn => walk_at "ne"
  clear prog w A s env h₀ x body orelse px I c n P St m₀ news R oc₀ vc₀ J
  refine (?zj : AtE _ ?zE)
  refine (?zF : ∀ prog w A s env h₀ x body orelse px I c n P St m₀ news R oc₀ vc₀ J, ?zP prog w A s env h₀ x body orelse px I c n P St m₀ news R oc₀ vc₀ J) ?zE.1 ?zE.2.1 ?zE.2.2.1 ?zE.2.2.2.1 ?zE.2.2.2.2.1 ?zE.2.2.2.2.2.1 ?zE.2.2.2.2.2.2.1 ?zE.2.2.2.2.2.2.2.1 ?zE.2.2.2.2.2.2.2.2.1 ?zE.2.2.2.2.2.2.2.2.2.1 ?zE.2.2.2.2.2.2.2.2.2.2.1 ?zE.2.2.2.2.2.2.2.2.2.2.2.1 ?zE.2.2.2.2.2.2.2.2.2.2.2.2.1 ?zE.2.2.2.2.2.2.2.2.2.2.2.2.2.1 ?zE.2.2.2.2.2.2.2.2.2.2.2.2.2.2.1 ?zE.2.2.2.2.2.2.2.2.2.2.2.2.2.2.2.1 ?zE.2.2.2.2.2.2.2.2.2.2.2.2.2.2.2.2.1 ?zE.2.2.2.2.2.2.2.2.2.2.2.2.2.2.2.2.2.1 ?zE.2.2.2.2.2.2.2.2.2.2.2.2.2.2.2.2.2.2.1 ?zE.2.2.2.2.2.2.2.2.2.2.2.2.2.2.2.2.2.2.2.1 ?zE.2.2.2.2.2.2.2.2.2.2.2.2.2.2.2.2.2.2.2.2
  intros prog w A s env h₀ x body orelse px I c n P St m₀ news R oc₀ vc₀ J
  intro W hk hx hc hIo hLI hI0 hIc hnw hst F N hoc hj turn done
  have old : ∀ b o, h₀.get? b = some o → b ≠ I := fun b o e hb => by rw [hb, hI0] at e; cases e
  refine codeAny_forLoop
    (InvC h₀ env.locals I c n St J s) ?_ (n + 1)
    ⟨s.heap, s.gens, s.toks, m₀, news, 0, oc₀, vc₀, rfl, hst, F, N, hoc, hnw, hj, Nat.zero_le _, rfl⟩
  rintro k s' ⟨h', g', tk, m', news', i, oc, vc, rfl, hst', F', N', hoc', hnw', hJ, hi, rfl⟩
  have next : ∀ h₁ : Heap, (∀ b o, b ∉ [I] → h'.get? b = some o → h₁.get? b = some o) → Fr h₀ env.locals h₁ m' ∧ News h₀ env.locals h₁ ((c, oc) :: news') := fun h₁ hk₁ =>
    ⟨⟨F'.ns.at' fun o e => hk₁ _ o (by simpa using hLI) e, fun b o e => hk₁ b o (by simpa using old b o e) (F'.keep b o e), F'.above⟩, fun p hp => ⟨hk₁ _ _ (by
      rcases List.mem_cons.mp hp with rfl | hp
      · simpa using hIc
      · simpa using (hnw' p hp).1) (N' p hp).1, (N' p hp).2⟩⟩
  by_cases hlt : i < n
  · refine W.item i _ _ _ hlt hst' fun v h₁ tk₁ hP hst₁ hk₁ => ?_
    obtain ⟨F₁, N₁⟩ := next h₁ hk₁
    have zc := N₁ (c, oc) (.head _)
    refine wpAny_assign_Name (wpAny_storeName_cell hk hx hc ⟨oc, zc.1, hoc'⟩ fun h₂ hc₂ hs₂ => ?_)
    obtain ⟨oc₂, ho₂, hd₂⟩ := hc₂
    have F₂ : Fr h₀ env.locals h₂ m' := F₁.change hs₂ zc.2.1 zc.2.2
    have hst₂ : St (i + 1) h₂ := W.frame _ _ _ hst₁ fun b hb o e => hs₂.extBut b o (fun q => hIc (by rw [← List.mem_singleton.mp hb]; exact q.symm)) e
    obtain ⟨oI, hoI⟩ := hIo _ _ hst₂
    have Nown : News h₀ env.locals h₂ ((I, oI) :: (c, oc₂) :: news') := by
      intro p hp
      rcases List.mem_cons.mp hp with rfl | hp
      · exact ⟨hoI, fun e => hLI e.symm, hI0⟩
      · rcases List.mem_cons.mp hp with rfl | hp
        · exact ⟨ho₂, zc.2⟩
        · exact ⟨hs₂.extBut _ _ (hnw' p hp).2 (N₁ p (.tail _ hp)).1, (N₁ p (.tail _ hp)).2⟩
    refine wpAny_mono (turn i v m' news' h₂ g' _ oI oc₂ hlt hP hnw' hJ hd₂ F₂ Nown) (fun f s₃ h₃ => ?_) fun _ _ e => e
    have fin : EndC h₀ env.locals (J (i + 1)) I oI c { s with heap := h₂, gens := g', toks := tk₁ } s₃ → ∃ m, m < n + 1 - i ∧ InvC h₀ env.locals I c n St J s m s₃ := by
      rintro ⟨h₃', g₃, tk₃, m₂, nw, nx, oc₃, v₃, rfl, F₃, N₃, hI₃, hc₃, hd₃, hs₃, hn₃, hJ₃⟩
      refine ⟨n + 1 - (i + 1), by omega, h₃', g₃, tk₃, m₂, nx, i + 1, oc₃, v₃, rfl, ?_, F₃, fun p hp => ?_, hd₃, hn₃, hJ₃, hlt, rfl⟩
      · refine W.frame _ _ _ hst₂ fun b hb o e => ?_
        rw [List.mem_singleton.mp hb] at e ⊢
        rw [hoI] at e; cases e
        exact (N₃ _ hI₃).1
      · rcases List.mem_cons.mp hp with rfl | hp
        · exact N₃ _ hc₃
        · exact N₃ p (hs₃ p hp)
    cases f with
    | ret v => exact h₃
    | brk => exact h₃
    | cont => exact fin h₃
    | next => exact fin h₃
  · have hin : i = n := by omega
    subst hin
    refine W.done _ _ _ hst' fun h₁ tk₁ hk₁ => ?_
    obtain ⟨F₁, N₁⟩ := next h₁ hk₁
    exact done m' news' h₁ g' tk₁ oc vc hJ hoc' F₁ N₁ fun p hp => (hnw' p hp).2
inductive RngCAt (prog : Program) (w : World) (A : Around) (env : Env) (h₀ : Heap) (c : Addr) (body orelse : List Stmt) (Q : Flow → Shared → Prop) (E : Value → Shared → Prop) (J : Nat → (Str → Option Value) → List (Addr × Obj) → Array GenState → Prop) (xv : Value) (s₁ : Shared) : Prop where
  | mk (r : _) (a₀ : _) (b₀ : _) (t₀ : _) (u₀ : _) (v₀ : _) (m₀ : _) (news : _) (oc₀ : _) (vc₀ : _) (f0 : xv = .ref r) (f1 : IsRange s₁.heap r a₀ b₀ 1 t₀ u₀ v₀) (f2 : -(2 ^ 60) ≤ a₀ ∧ a₀ < 2 ^ 60 ∧ -(2 ^ 60) ≤ b₀ ∧ b₀ < 2 ^ 60) (f3 : Fr h₀ env.locals s₁.heap m₀) (f4 : News h₀ env.locals s₁.heap ((c, oc₀) :: news)) (f5 : oc₀.data = .cell vc₀) (f6 : ∀ p ∈ news, p.1 ≠ c) (f7 : J 0 m₀ news s₁.gens) (f8 : ∀ i t m₁ news₁ h g tk I oI oc, i < (b₀ - a₀).toNat → (∀ p ∈ (c, oc₀) :: news, p.1 < I) → (∀ p ∈ news₁, p.1 ≠ I ∧ p.1 ≠ c) → J i m₁ news₁ g → oc.data = .cell (some (.int (a₀ + (i : Int)) t)) → Fr h₀ env.locals h m₁ → News h₀ env.locals h ((I, oI) :: (c, oc) :: news₁) →
        wpAny (model prog w) A (execs body env) (PostC h₀ env.locals (J (i + 1)) I oI c { s₁ with heap := h, gens := g, toks := tk } Q) E { s₁ with heap := h, gens := g, toks := tk }) (f9 : ∀ m₁ news₁ h g tk oc v, J (b₀ - a₀).toNat m₁ news₁ g → oc.data = .cell v → Fr h₀ env.locals h m₁ → News h₀ env.locals h ((c, oc) :: news₁) → (∀ p ∈ news₁, p.1 ≠ c) →
        wpAny (model prog w) A (execs orelse env) Q E { s₁ with heap := h, gens := g, toks := tk }) : RngCAt prog w A env h₀ c body orelse Q E J xv s₁
theorem RngCAt.intro {prog : Program} {w : World} {A : Around} {E : Value → Shared → Prop} {env : Env} {h₀ : Heap} {body orelse : List Stmt} {Q : Flow → Shared → Prop} {J : Nat → (Str → Option Value) → List (Addr × Obj) → Array GenState → Prop} {s₁ : Shared} {c r : Addr} {a₀ b₀ : Int} {t₀ u₀ v₀ : Tok} {m₀ : Str → Option Value} {news : List (Addr × Obj)} {oc₀ : Obj} {vc₀ : Option Value} (hr : IsRange s₁.heap r a₀ b₀ 1 t₀ u₀ v₀) (hb : -(2 ^ 60) ≤ a₀ ∧ a₀ < 2 ^ 60 ∧ -(2 ^ 60) ≤ b₀ ∧ b₀ < 2 ^ 60) (F : Fr h₀ env.locals s₁.heap m₀) (N : News h₀ env.locals s₁.heap ((c, oc₀) :: news)) (hc : oc₀.data = .cell vc₀) (hne : ∀ p ∈ news, p.1 ≠ c) (hJ : J 0 m₀ news s₁.gens)
    (turn : ∀ i t m₁ news₁ h g tk I oI oc, i < (b₀ - a₀).toNat → (∀ p ∈ (c, oc₀) :: news, p.1 < I) → (∀ p ∈ news₁, p.1 ≠ I ∧ p.1 ≠ c) → J i m₁ news₁ g → oc.data = .cell (some (.int (a₀ + (i : Int)) t)) → Fr h₀ env.locals h m₁ → News h₀ env.locals h ((I, oI) :: (c, oc) :: news₁) →
        wpAny (model prog w) A (execs body env) (PostC h₀ env.locals (J (i + 1)) I oI c { s₁ with heap := h, gens := g, toks := tk } Q) E { s₁ with heap := h, gens := g, toks := tk })
    (done : ∀ m₁ news₁ h g tk oc v, J (b₀ - a₀).toNat m₁ news₁ g → oc.data = .cell v → Fr h₀ env.locals h m₁ → News h₀ env.locals h ((c, oc) :: news₁) → (∀ p ∈ news₁, p.1 ≠ c) →
        wpAny (model prog w) A (execs orelse env) Q E { s₁ with heap := h, gens := g, toks := tk }) : RngCAt prog w A env h₀ c body orelse Q E J (.ref r) s₁ :=
  ⟨r, a₀, b₀, t₀, u₀, v₀, m₀, news, oc₀, vc₀, rfl, hr, hb, F, N, hc, hne, hJ, turn, done⟩
/-- a for over a range whose name is a cell -/
theorem For_rangeC {px pos : Pos} {iter : PySem.Expr} {m : Str → Option Value} {c : Addr} (_F0 : Fr h₀ env.locals s.heap m) (J : Nat → (Str → Option Value) → List (Addr × Obj) → Array GenState → Prop)
    (hk : env.scope.kind = .function) (hx : env.kindOf x = some .cell) (hc : env.cells.lookup x = some c) (hh : A.handled = none)
    (h : wpAny (model prog w) A (eval iter env) (RngCAt prog w A env h₀ c body orelse Q E J) E s)
    (hs : ∀ x, foldedSetIterable iter env x = pure x := by intro _; rfl)
    (hE : PassesOwn (model prog w) A env E := by passes_own) :
    wpAny (model prog w) A (exec (.For (.Name x px) iter body orelse pos) env) Q E s := by
  refine wpAny_For (wpAny_mono h (fun xv s₁ h₁ => ?_) fun _ _ e => e) hs
  obtain ⟨r, a₀, b₀, t₀, u₀, v₀, m₀, news, oc₀, vc₀, rfl, hr, ⟨hb1, hb2, hb3, hb4⟩, F, N, hoc, hnc, hj, turn, done⟩ := h₁
  refine wpAny_pyIter_range hr (small_one (by omega) (by omega) (by omega) (by omega)) ?_
  have hn : Builtin.Range.rangeSize a₀ b₀ 1 = ((b₀ - a₀).toNat : Int) := rangeSize_nat _ _
  have hlt : ∀ p ∈ (c, oc₀) :: news, p.1 < s₁.heap.objs.size := fun p hp => Heap.lt_size (N p hp).1
  refine loopC (h₀ := h₀) (m₀ := m₀) (news := news) (n := (b₀ - a₀).toNat) J (Walks.range hh s₁.heap.objs.size a₀ 1 (b₀ - a₀).toNat) hk hx hc (fun i h e => ⟨_, e⟩) ?_ ?_ (Nat.ne_of_lt (hlt _ (.head _))) (fun p hp => ⟨Nat.ne_of_lt (hlt p (.tail _ hp)), hnc p hp⟩) ?_ (F.push _) (fun p hp => ⟨Heap.get?_push_of_some _ (N p hp).1, (N p hp).2⟩) hoc hj ?_ ?_
  · exact Nat.ne_of_lt F.ns.lt
  · exact next_is_new F
  · show IsRangeIter _ _ _ _ _
    rw [hn]; simpa using Heap.get?_push_size _ rfl
  · rintro i v m₁ news₁ h g tk oI oc hi ⟨t, rfl⟩ hne hJ hd F₁ N₁
    refine wpAny_passesOwn hE ?_
    exact turn i t m₁ news₁ h g tk s₁.heap.objs.size oI oc hi hlt hne hJ (by simpa using hd) F₁ N₁
  · intro m₁ news₁ h g tk oc v hJ hd F₁ N₁ hn₁
    exact wpAny_passesOwn hE (done m₁ news₁ h g tk oc v hJ hd F₁ N₁ hn₁)
end
end
section
open PySem PySem.W PyProof.Rows PySem.Flt PySem.Spec PyProof.Rows.LCg
set_option maxHeartbeats 1000000
/-- a comprehension over a list, whose target is a tuple -/
noncomputable def LoopingP (prog : Program) (w : World) (A : Around) (code : Code) (it : Value) (target : PySem.Expr) (cenv : Env) (INNER : Shared → (Shared → Prop) → (Value → Shared → Prop) → Prop) : Prop :=
  ∀ (R : Result → Shared → Prop) (Iv : Nat → Shared → Prop), (∀ n s (E : Value → Shared → Prop), Iv n s → wpAny (model prog w) A (pyNext it) (fun r s₁ => match r with
      | none => R (.ok .next) s₁
      | some v => wpAny (model prog w) A (letOwnedTupleGo target it v) (fun _ s₁' => wpAny (model prog w) A (assign target cenv v) (fun _ s₂ => INNER s₂ (fun s' => ∃ m, m < n ∧ Iv m s') E) E s₁') E s₁) E s) → ∀ n s, Iv n s → codeAny (model prog w) A code R s
noncomputable def IterAtL (prog : Program) (w : World) (A : Around) (xv : Value) (s₁ : Shared) (n : Nat) (P : Nat → Value → Prop) (dep : Led) : Prop :=
  ∀ (Q : Value → Shared → Prop) (E : Value → Shared → Prop), (∀ fp St h₂, (∀ b o, s₁.heap.get? b = some o → h₂.get? b = some o) → Walks prog w A s₁.heap.objs.size fp [s₁.heap.objs.size] n P St → St 0 h₂ → (∀ i h, St i h → ∃ o, h.get? s₁.heap.objs.size = some o) →
    (∀ i h, St i h → ∃ l j, h.IsListIter s₁.heap.objs.size l j) → (∀ b ∈ fp, b = s₁.heap.objs.size ∨ ∃ o, (b, o) ∈ dep) → Q (.ref s₁.heap.objs.size) { s₁ with heap := h₂ }) → wpAny (model prog w) A (pyIter xv) Q E s₁
section
variable {prog : Program} {w : World} {A : Around} {E : Value → Shared → Prop} {s : Shared} {R : Result → Shared → Prop} {h₀ : Heap} {L : Addr} {m : Str → Option Value} {env : Env}
theorem loopingP_last {elt iter : PySem.Expr} {elts : List PySem.Expr} {kx} {tp : Pos} {scope : Scope} {pos : Pos} {it acc : Value} {cenv : Env} :
    LoopingP prog w A (.compLoop (.ListComp elt [⟨.Tuple elts kx tp, iter, [], 0⟩] scope pos) 0 it acc cenv) it (.Tuple elts kx tp) cenv (InnerLast prog w A elt acc cenv) :=
  fun _ Iv turn n _ h => PyProof.Rows.LCp.codeAny_compLoop_pair Iv (fun n s hI => turn n s _ hI) n h
theorem iter_listL {D : Addr} {vs : List Value} {k : Nat} {news : Led} (hh : A.handled = none) (N : News h₀ L s.heap news) (hm : (D, listOf vs.toArray k) ∈ news) :
    IterAtL prog w A (.ref D) s vs.length (fun i v => vs[i]? = some v) [(D, listOf vs.toArray k)] := by
  intro Q E h
  have hl := News.isList N hm
  have hlt : D < s.heap.objs.size := Heap.lt_size (N _ hm).1
  refine wpAny_pyIter_list hl ?_
  have W := Walks.list (prog := prog) (w := w) (A := A) hh s.heap.objs.size D (Nat.ne_of_lt hlt) vs.toArray
  rw [List.size_toArray] at W
  refine h _ _ _ (fun b o e => Heap.get?_push_of_some _ e) { W with item := fun i s' Q' E' hi st hQ => W.item i s' Q' E' hi st fun v h' tk hP => hQ v h' tk (by simpa using hP) } ⟨⟨_, Heap.get?_push_size _ rfl, rfl, rfl⟩, hl.push _⟩ (fun i h st => by obtain ⟨o, e, _⟩ := st.1; exact ⟨o, e⟩) (fun i h st => ⟨_, _, st.1⟩) fun b hb => ?_
  rcases List.mem_cons.mp hb with hb | hb
  · exact .inl hb
  · exact .inr ⟨_, by rw [List.mem_singleton.mp hb]; exact .head _⟩
theorem levelP {code : Code} {elts : List PySem.Expr} {kx} {tp : Pos} {cenv : Env} {INNER : Shared → (Shared → Prop) → (Value → Shared → Prop) → Prop} {I C D : Addr} {fp : List Addr} {n : Nat} {P : Nat → Value → Prop} {St : Nat → Heap → Prop} {J : Inv} {dep : Led} {h₁ : Heap} {g₁ : Array GenState} {tk₁ : Nat} {ys₁ : List Value} {nx₁ : Led} {mC₁ : Str → Option Value} {oC₁ : Obj}
    (LR : LoopingP prog w A code (.ref I) (.Tuple elts kx tp) cenv INNER) (W : Walks prog w A I fp [I] n P St) (hIo : ∀ i h, St i h → ∃ o, h.get? I = some o) (hfp : ∀ b ∈ fp, b = I ∨ ∃ o, (b, o) ∈ dep) (hdep : ∀ p ∈ dep, ∀ i ys nx mC, J i ys nx mC → p ∈ nx)
    (hLI : ∀ i h, St i h → ∃ l j, h.IsListIter I l j) (hvr : ∀ i v, P i v → ∃ T, v = .ref T) (hIL : L ≠ I) (hI₀ : h₀.get? I = none) (hIC : I ≠ C) (hID : I ≠ D) (hst : St 0 h₁) (F₁ : Fr h₀ L h₁ m) (N₁ : News h₀ L h₁ ((C, oC₁) :: (D, lst ys₁) :: nx₁)) (hO₁ : NsObj oC₁ mC₁) (off₁ : ∀ p ∈ nx₁, p.1 ≠ I ∧ p.1 ≠ C ∧ p.1 ≠ D) (hJ₁ : J 0 ys₁ nx₁ mC₁) (hgk₁ : AllBare s.gens → AllBare g₁)
    (turn : ∀ i v ys nx mC h g tk oC oI (E : Value → Shared → Prop) (Post : Shared → Prop), (AllBare s.gens → AllBare g) → i < n → P i v → J i ys nx mC → NsObj oC mC → Fr h₀ L h m → News h₀ L h ((I, oI) :: (C, oC) :: (D, lst ys) :: nx) → (∀ p ∈ nx, p.1 ≠ I ∧ p.1 ≠ C ∧ p.1 ≠ D) →
      (∀ s'', TEnd h₀ L m s I oI C D (J (i + 1)) s'' → Post s'') → wpAny (model prog w) A (assign (.Tuple elts kx tp) cenv v) (fun _ s₂ => INNER s₂ Post E) E { s with heap := h, gens := g, toks := tk })
    (done : ∀ ys nx mC h g tk oC, (AllBare s.gens → AllBare g) → J n ys nx mC → NsObj oC mC → Fr h₀ L h m → News h₀ L h ((C, oC) :: (D, lst ys) :: nx) → (∀ p ∈ nx, p.1 ≠ I ∧ p.1 ≠ C ∧ p.1 ≠ D) → R (.ok .next) { s with heap := h, gens := g, toks := tk }) :
    codeAny (model prog w) A code R { s with heap := h₁, gens := g₁, toks := tk₁ } := by
  revert prog w A s R h₀ L m code elts kx tp cenv INNER I C D fp n P St J dep h₁ g₁ tk₁ ys₁ nx₁ mC₁ oC₁
  refine (?zh : ∀ prog w A s R h₀ L m code elts kx tp cenv INNER I C D fp n P St J dep h₁ g₁ tk₁ ys₁ nx₁ mC₁ oC₁, (?zP : _ → _ → _ → _ → _ → _ → _ → _ → _ → _ → _ → _ → _ → _ → _ → _ → _ → _ → _ → _ → _ → _ → _ → _ → _ → _ → _ → _ → _ → _ → Prop) prog w A s R h₀ L m code elts kx tp cenv INNER I C D fp n P St J dep h₁ g₁ tk₁ ys₁ nx₁ mC₁ oC₁)
  refine fun prog w A s R h₀ L m code elts kx tp cenv INNER I C D fp n P St J dep h₁ g₁ tk₁ ys₁ nx₁ mC₁ oC₁ => allE (P := un2 fun prog => un2 fun w => un2 fun A => un2 fun s => un2 fun R => un2 fun h₀ => un2 fun L => un2 fun m => un2 fun code => un2 fun elts => un2 fun kx => un2 fun tp => un2 fun cenv => un2 fun INNER => un2 fun I => un2 fun C => un2 fun D => un2 fun fp => un2 fun n => un2 fun P => un2 fun St => un2 fun J => un2 fun dep => un2 fun h₁ => un2 fun g₁ => un2 fun tk₁ => un2 fun ys₁ => un2 fun nx₁ => un2 fun mC₁ oC₁ => ?zP prog w A s R h₀ L m code elts kx tp cenv INNER I C D fp n P St J dep h₁ g₁ tk₁ ys₁ nx₁ mC₁ oC₁) ?zn ?zk (prog, w, A, s, R, h₀, L, m, code, elts, kx, tp, cenv, INNER, I, C, D, fp, n, P, St, J, dep, h₁, g₁, tk₁, ys₁, nx₁, mC₁, oC₁)
  case zn => walk_at "ne"
  clear prog w A s R h₀ L m code elts kx tp cenv INNER I C D fp n P St J dep h₁ g₁ tk₁ ys₁ nx₁ mC₁ oC₁
  refine (?zj : AtE _ ?zE)
  refine (?zF : ∀ prog w A s R h₀ L m code elts kx tp cenv INNER I C D fp n P St J dep h₁ g₁ tk₁ ys₁ nx₁ mC₁ oC₁, ?zP prog w A s R h₀ L m code elts kx tp cenv INNER I C D fp n P St J dep h₁ g₁ tk₁ ys₁ nx₁ mC₁ oC₁) ?zE.1 ?zE.2.1 ?zE.2.2.1 ?zE.2.2.2.1 ?zE.2.2.2.2.1 ?zE.2.2.2.2.2.1 ?zE.2.2.2.2.2.2.1 ?zE.2.2.2.2.2.2.2.1 ?zE.2.2.2.2.2.2.2.2.1 ?zE.2.2.2.2.2.2.2.2.2.1 ?zE.2.2.2.2.2.2.2.2.2.2.1 ?zE.2.2.2.2.2.2.2.2.2.2.2.1 ?zE.2.2.2.2.2.2.2.2.2.2.2.2.1 ?zE.2.2.2.2.2.2.2.2.2.2.2.2.2.1 ?zE.2.2.2.2.2.2.2.2.2.2.2.2.2.2.1 ?zE.2.2.2.2.2.2.2.2.2.2.2.2.2.2.2.1 ?zE.2.2.2.2.2.2.2.2.2.2.2.2.2.2.2.2.1 ?zE.2.2.2.2.2.2.2.2.2.2.2.2.2.2.2.2.2.1 ?zE.2.2.2.2.2.2.2.2.2.2.2.2.2.2.2.2.2.2.1 ?zE.2.2.2.2.2.2.2.2.2.2.2.2.2.2.2.2.2.2.2.1 ?zE.2.2.2.2.2.2.2.2.2.2.2.2.2.2.2.2.2.2.2.2.1 ?zE.2.2.2.2.2.2.2.2.2.2.2.2.2.2.2.2.2.2.2.2.2.1 ?zE.2.2.2.2.2.2.2.2.2.2.2.2.2.2.2.2.2.2.2.2.2.2.1 ?zE.2.2.2.2.2.2.2.2.2.2.2.2.2.2.2.2.2.2.2.2.2.2.2.1 ?zE.2.2.2.2.2.2.2.2.2.2.2.2.2.2.2.2.2.2.2.2.2.2.2.2.1 ?zE.2.2.2.2.2.2.2.2.2.2.2.2.2.2.2.2.2.2.2.2.2.2.2.2.2.1 ?zE.2.2.2.2.2.2.2.2.2.2.2.2.2.2.2.2.2.2.2.2.2.2.2.2.2.2.1 ?zE.2.2.2.2.2.2.2.2.2.2.2.2.2.2.2.2.2.2.2.2.2.2.2.2.2.2.2.1 ?zE.2.2.2.2.2.2.2.2.2.2.2.2.2.2.2.2.2.2.2.2.2.2.2.2.2.2.2.2.1 ?zE.2.2.2.2.2.2.2.2.2.2.2.2.2.2.2.2.2.2.2.2.2.2.2.2.2.2.2.2.2
  intros prog w A s R h₀ L m code elts kx tp cenv INNER I C D fp n P St J dep h₁ g₁ tk₁ ys₁ nx₁ mC₁ oC₁
  intro LR W hIo hfp hdep hLI hvr hIL hI₀ hIC hID hst F₁ N₁ hO₁ off₁ hJ₁ hgk₁ turn done
  have old : ∀ b o, h₀.get? b = some o → b ≠ I := fun b o e hb => by rw [hb, hI₀] at e; cases e
  refine LR R (InvT h₀ L I C D n St m J s) ?_ (n + 1) _
    ⟨0, h₁, g₁, tk₁, ys₁, nx₁, mC₁, oC₁, rfl, hgk₁, hst, F₁, N₁, hO₁, off₁, hJ₁, Nat.zero_le _, rfl⟩
  rintro k s' E ⟨i, h', g', tk, ys, nx, mC, oC, rfl, hgk, hst', F', N', hO, off, hJ, hi, rfl⟩
  have next : ∀ h₂ : Heap, (∀ b o, b ∉ [I] → h'.get? b = some o → h₂.get? b = some o) → Fr h₀ L h₂ m ∧ News h₀ L h₂ ((C, oC) :: (D, lst ys) :: nx) := fun h₂ hk =>
    ⟨⟨F'.ns.at' fun o e => hk _ o (by simpa using hIL) e, fun b o e => hk b o (by simpa using old b o e) (F'.keep b o e), F'.above⟩, fun p hp => ⟨hk _ _ (by
      rcases List.mem_cons.mp hp with rfl | hp
      · simpa using Ne.symm hIC
      · rcases List.mem_cons.mp hp with rfl | hp
        · simpa using Ne.symm hID
        · simpa using (off p hp).1) (N' p hp).1, (N' p hp).2⟩⟩
  by_cases hlt : i < n
  · refine W.item i _ _ _ hlt hst' fun v h₂ tk₂ hP hst₂ hk₂ => ?_
    obtain ⟨F₂, N₂⟩ := next h₂ hk₂
    obtain ⟨oI, hoI⟩ := hIo _ _ hst₂
    have Nown : News h₀ L h₂ ((I, oI) :: (C, oC) :: (D, lst ys) :: nx) := fun p hp => by
      rcases List.mem_cons.mp hp with rfl | hp
      · exact ⟨hoI, fun e => hIL e.symm, hI₀⟩
      · exact N₂ p hp
    obtain ⟨lI, jI, hLi⟩ := hLI _ _ hst₂
    obtain ⟨T9, rfl⟩ := hvr _ _ hP
    refine wpAny_letOwnedTupleGo_listiter hLi ?_
    refine turn i _ ys nx mC h₂ g' tk₂ oC oI E _ hgk hlt hP hJ hO F₂ Nown off fun s'' hT => ?_
    obtain ⟨ys₃, nx₃, mC₃, h₃, g₃, tk₃, oC₃, rfl, hgk₃, F₃, N₃, hO₃, off₃, hJ₃⟩ := hT
    refine ⟨n + 1 - (i + 1), by omega, i + 1, h₃, g₃, tk₃, ys₃, nx₃, mC₃, oC₃, rfl, hgk₃, ?_, F₃, fun p hp => N₃ p (List.mem_cons_of_mem _ hp), hO₃, off₃, hJ₃, hlt, rfl⟩
    refine W.frame _ _ _ hst₂ fun b hb o e => ?_
    rcases hfp b hb with rfl | ⟨o', hd⟩
    · rw [hoI] at e; cases e
      exact (N₃ _ (.head _)).1
    · have e1 := (Nown _ (.tail _ (.tail _ (.tail _ (hdep _ hd _ _ _ _ hJ))))).1
      dsimp only at e1
      rw [e1] at e; cases e
      exact (N₃ _ (.tail _ (.tail _ (.tail _ (hdep _ hd _ _ _ _ hJ₃))))).1
  · obtain rfl : i = n := by omega
    refine W.done _ _ _ hst' fun h₂ tk₂ hk₂ => ?_
    obtain ⟨F₂, N₂⟩ := next h₂ hk₂
    exact done ys nx mC h₂ g' tk₂ oC hgk hJ hO F₂ N₂ off
/-- the target is a tuple of three names -/
theorem assign_t3 {x1 x2 x3 : Str} {p1 p2 p3 tp : Pos} {kx} {scope : Scope} {cl : List (Str × Addr)} {C D I T : Addr} {oI oC : Obj} {mC : Str → Option Value} {ys : List Value} {nx : Led} {v1 v2 v3 : Value} {n0 : Nat} {Q : Unit → Shared → Prop} (hh : A.handled = none) (hkind : scope.kind = .function) (hx1 : scope.names.lookup x1 = some .local) (hx2 : scope.names.lookup x2 = some .local) (hx3 : scope.names.lookup x3 = some .local)
    (hO : NsObj oC mC) (F : Fr h₀ L s.heap m) (N : News h₀ L s.heap ((I, oI) :: (C, oC) :: (D, lst ys) :: nx)) (hT : (T, ({ cls := .type "tuple", data := .seq #[v1, v2, v3] n0 } : Obj)) ∈ nx) (off : ∀ p ∈ nx, p.1 ≠ I ∧ p.1 ≠ C ∧ p.1 ≠ D) (hne : (@Ne Nat I C) ∧ (@Ne Nat I D) ∧ (@Ne Nat C D))
    (h : ∀ h' tk' oC', NsObj oC' (fun y => if y = x3 then some v3 else if y = x2 then some v2 else if y = x1 then some v1 else mC y) → Fr h₀ L h' m → News h₀ L h' ((I, oI) :: (C, oC') :: (D, lst ys) :: nx) → Q () { s with heap := h', toks := tk' }) :
    wpAny (model prog w) A (assign (.Tuple [.Name x1 p1, .Name x2 p2, .Name x3 p3] kx tp) (compEnvC scope cl C env) (.ref T)) Q E s := by
  have hC := (N _ (.tail _ (.head _)))
  have ht : IsTup s.heap T #[v1, v2, v3] := ⟨_, (N _ (.tail _ (.tail _ (.tail _ hT)))).1, rfl, _, rfl⟩
  refine assign_Tuple_tuple hh ht rfl rfl fun h₅ he => ?_
  have he' : ∀ b o, s.heap.get? b = some o → h₅.get? b = some o := fun b o e => he b o (Nat.ne_of_lt (Heap.lt_size e)) e
  refine assignInOrder_cons (wpAny_assign_Name (wpAny_storeName_local (lookup_relabel_local hx1) ((hO.ns hC.1).at' fun o e => he' _ o e) (fun h₆ hn₆ hs₆ => ?_) (by simp [compEnvC, relabel, hkind])))
  refine assignInOrder_cons (wpAny_assign_Name (wpAny_storeName_local (lookup_relabel_local hx2) hn₆ (fun h₇ hn₇ hs₇ => ?_) (by simp [compEnvC, relabel, hkind])))
  refine assignInOrder_cons (wpAny_assign_Name (wpAny_storeName_local (lookup_relabel_local hx3) hn₇ (fun h₃ hn₃ hs₃ => ?_) (by simp [compEnvC, relabel, hkind])))
  refine assignInOrder_nil ?_
  obtain ⟨oC', heC, hoC⟩ := ns_obj hn₃
  have old3 : ∀ b o, b ≠ C → s.heap.get? b = some o → h₃.get? b = some o := fun b o hb e => hs₃.extBut b o hb (hs₇.extBut b o hb (hs₆.extBut b o hb (he' b o e)))
  have F₃ : Fr h₀ L h₃ m := (((F.keeps he').change hs₆ hC.2.1 hC.2.2).change hs₇ hC.2.1 hC.2.2).change hs₃ hC.2.1 hC.2.2
  refine h h₃ _ oC' hoC F₃ fun p hp => ?_
  rcases List.mem_cons.mp hp with rfl | hp
  · exact ⟨old3 _ _ hne.1 (N _ (.head _)).1, (N _ (.head _)).2⟩
  · rcases List.mem_cons.mp hp with rfl | hp
    · exact ⟨heC, hC.2⟩
    · refine ⟨old3 _ _ ?_ (N p (.tail _ (.tail _ hp))).1, (N p (.tail _ (.tail _ hp))).2⟩
      rcases List.mem_cons.mp hp with rfl | hp
      · exact Ne.symm hne.2.2
      · exact (off p hp).2.1
/-- the element is there, the ledger has changed -/
inductive EltCh (h₀ : Heap) (L : Addr) (m : Str → Option Value) (s : Shared) (I : Addr) (oI : Obj) (C : Addr) (oC : Obj) (D : Addr) (ys : List Value) (J' : List Value → Led → (Str → Option Value) → Prop) (mC : Str → Option Value) (y : Value) (s'' : Shared) : Prop where
  | mk (h : _) (g : _) (tk : _) (nx' : _) (f0 : s'' = { s with heap := h, gens := g, toks := tk }) (f1 : AllBare s.gens → AllBare g) (f2 : Fr h₀ L h m) (f3 : News h₀ L h ((I, oI) :: (C, oC) :: (D, lst ys) :: nx')) (f4 : ∀ p ∈ nx', p.1 ≠ I ∧ p.1 ≠ C ∧ p.1 ≠ D) (f5 : J' (ys ++ [y]) nx' mC) : EltCh h₀ L m s I oI C oC D ys J' mC y s''
theorem emit_ch {elt : PySem.Expr} {cenv : Env} {C D I : Addr} {oI oC : Obj} {mC : Str → Option Value} {ys : List Value} {s₀ : Shared} {J' : List Value → Led → (Str → Option Value) → Prop} {Post : Shared → Prop} (hO : NsObj oC mC) (hne : (@Ne Nat I C) ∧ (@Ne Nat I D) ∧ (@Ne Nat C D)) (hsz : ys.length ≤ sizeLine)
    (hP : ∀ s'', TEnd h₀ L m s₀ I oI C D J' s'' → Post s'') (hs : ∃ h g tk, s = { s₀ with heap := h, gens := g, toks := tk } ∧ (AllBare s₀.gens → AllBare g))
    (h : wpAny (model prog w) A (eval elt cenv) (EltCh h₀ L m s I oI C oC D ys J' mC) E s) :
    InnerLast prog w A elt (.ref D) cenv s Post E := by
  obtain ⟨hh, gg, tt, rfl, hz₀⟩ := hs
  unfold InnerLast
  refine wpAny_mono h (fun y s₃ h₃ => ?_) fun _ _ e => e
  obtain ⟨h', g', tk', nx, rfl, hz₁, F, N, off, hJ⟩ := h₃
  have zD := (N _ (.tail _ (.tail _ (.head _))))
  refine append_at (hsz := by show ys.toArray.size ≤ sizeLine; rw [List.size_toArray]; exact hsz) zD.1 fun h₅ hs₅ hD₅ => hP _ ?_
  refine ⟨ys ++ [y], nx, mC, h₅, g', tk', oC, rfl, fun z => hz₁ (hz₀ z), F.change hs₅ zD.2.1 zD.2.2, fun p hp => ?_, hO, off, hJ⟩
  rcases List.mem_cons.mp hp with rfl | hp
  · have z := N _ (.head _); exact ⟨hs₅.extBut _ _ hne.2.1 z.1, z.2⟩
  · rcases List.mem_cons.mp hp with rfl | hp
    · have z := N _ (.tail _ (.head _)); exact ⟨hs₅.extBut _ _ hne.2.2 z.1, z.2⟩
    · rcases List.mem_cons.mp hp with rfl | hp
      · exact ⟨hD₅.trans (congrArg some (lst_snoc ys y)), zD.2⟩
      · have z := N _ (.tail _ (.tail _ (.tail _ hp))); exact ⟨hs₅.extBut _ _ (off p hp).2.2 z.1, z.2⟩
inductive SrcPA (prog : Program) (w : World) (A : Around) (h₀ : Heap) (L : Addr) (m : Str → Option Value) (target : PySem.Expr) (cenvOf : Addr → Env) (INNER : Addr → Addr → Shared → (Shared → Prop) → (Value → Shared → Prop) → Prop) (y : Str) (Q : Flow → Shared → Prop) (xv : Value) (s₁ : Shared) : Prop where
  | mk (n : _) (P : _) (dep : _) (news : _) (J : _) (f0 : IterAtL prog w A xv s₁ n P dep) (f1 : ∀ i v, P i v → ∃ T, v = .ref T) (f2 : Fr h₀ L s₁.heap m) (f3 : News h₀ L s₁.heap news) (f4 : ∀ p ∈ dep, ∀ i ys nx mC, J i ys nx mC → p ∈ nx) (f5 : ∀ mC, J 0 [] news mC) (f6 : ∀ C D, TurnAt prog w A h₀ L m s₁ target (cenvOf C) (INNER C D) C D n P J) (f7 : ∀ D ys nx mC h g tk, (AllBare s₁.gens → AllBare g) → J n ys nx mC → Fr h₀ L h (fun z => if z = y then some (.ref D) else m z) → News h₀ L h ((D, lst ys) :: nx) → (∀ p ∈ nx, p.1 ≠ D) → Q .next { s₁ with heap := h, gens := g, toks := tk }) : SrcPA prog w A h₀ L m target cenvOf INNER y Q xv s₁
theorem SrcPA.intro {prog : Program} {w : World} {A : Around} {h₀ : Heap} {L : Addr} {m : Str → Option Value} {target : PySem.Expr} {cenvOf : Addr → Env} {INNER : Addr → Addr → Shared → (Shared → Prop) → (Value → Shared → Prop) → Prop} {xv : Value} {s₁ : Shared} {n : Nat} {P : Nat → Value → Prop} {dep news : List (Addr × Obj)} {y : Str} {Q : Flow → Shared → Prop} (J : Inv) (W : IterAtL prog w A xv s₁ n P dep) (hv : ∀ i v, P i v → ∃ T, v = .ref T) (F : Fr h₀ L s₁.heap m) (N : News h₀ L s₁.heap news) (hd : ∀ p ∈ dep, ∀ i ys nx mC, J i ys nx mC → p ∈ nx) (hJ : ∀ mC, J 0 [] news mC) (turn : ∀ C D, TurnAt prog w A h₀ L m s₁ target (cenvOf C) (INNER C D) C D n P J) (done : ∀ D ys nx mC h g tk, (AllBare s₁.gens → AllBare g) → J n ys nx mC → Fr h₀ L h (fun z => if z = y then some (.ref D) else m z) → News h₀ L h ((D, lst ys) :: nx) → (∀ p ∈ nx, p.1 ≠ D) → Q .next { s₁ with heap := h, gens := g, toks := tk }) : SrcPA prog w A h₀ L m target cenvOf INNER y Q xv s₁ :=
  ⟨n, P, dep, news, J, W, hv, F, N, hd, hJ, turn, done⟩
theorem Assign_ListComp_P {elt iter : PySem.Expr} {elts : List PySem.Expr} {kx} {tp : Pos} {gs : List Comprehension} {scope : Scope} {cl : List (Str × Addr)} {pos spos py : Pos} {y : Str} {Q : Flow → Shared → Prop} {INNER : Addr → Addr → Shared → (Shared → Prop) → (Value → Shared → Prop) → Prop} (_F₀ : Fr h₀ L s.heap m) (hLe : env.locals = L) (hsw : swapsWith (.ListComp elt (⟨.Tuple elts kx tp, iter, [], 0⟩ :: gs) scope pos) (some (.Name y py)) spos.line env = pure true)
    (hclos : closureFor scope env = pure cl) (hcell : ∀ y ∈ scope.names, y.2 ≠ .cell) (hkind : scope.kind = .function)
    (hnames : ∀ y ∈ scope.names, y.2 = .local → scope.names.lookup y.1 = some .local)
    (hy : env.kindOf y = some .local) (hp : (env.scope.kind == .class || (env.scope.kind == .module && env.locals != env.globals)) = false)
    (LR : ∀ C I D, LoopingP prog w A (.compLoop (.ListComp elt (⟨.Tuple elts kx tp, iter, [], 0⟩ :: gs) scope pos) 0 (.ref I) (.ref D) (compEnvC scope cl C env)) (.ref I) (.Tuple elts kx tp) (compEnvC scope cl C env) (INNER C D))
    (h : wpAny (model prog w) A (eval iter env) (SrcPA prog w A h₀ L m (.Tuple elts kx tp) (fun C => compEnvC scope cl C env) INNER y Q) E s)
    (hs : ∀ x, foldedSetIterable iter env x = pure x := by intro _; rfl) :
    wpAny (model prog w) A (exec (.Assign [.Name y py] (.ListComp elt (⟨.Tuple elts kx tp, iter, [], 0⟩ :: gs) scope pos) spos) env) Q E s := by
  subst hLe
  rw [exec_Assign_Name_used _ _ _ _ hsw]
  refine wpAny_bind (wpAny_standAt (wpAny_bind ?_))
  show wpAny _ A (do let _ ← comprehension (.ListComp elt (⟨.Tuple elts kx tp, iter, [], 0⟩ :: gs) scope pos) scope env _ (newList []) false (eval iter env) (some (assign (.Name y py) env))) _ _ s
  refine wpAny_bind (wpAny_mono (wpAny_comprehension_free (use := some (assign (.Name y py) env)) (Q := fun _ s' => Q .next s') rfl hs hclos hkind hnames
    (wpAny_mono h (fun xv s₁ h₁ => ?_) fun _ _ e => e)) (fun _ s' hq => wpAny_pure (wpAny_pure hq)) fun _ _ e => e)
  obtain ⟨n, P, dep, news, J, IT, hvr, F, N, hdep, hJ, turn, done⟩ := h₁
  refine IT _ _ fun fp St h₂ up W hst hIo hLI hfp => ?_
  have F₂ := F.keeps up
  have N₂ := N.grown up
  obtain ⟨oI₀, hI₂⟩ := hIo _ _ hst
  have hIlt : s₁.heap.objs.size < h₂.objs.size := Heap.lt_size hI₂
  refine wpAny_newObj_type (wpAny_newFunctionEnv hcell (by intro y hy; simp at hy) (fun h₃ hns₃ hsb₃ => ?_) hkind)
  dsimp only at hns₃ hsb₃ ⊢
  generalize hH2 : h₂.push { cls := .type "list", dict := none, data := .seq ([] : List Value).toArray } = H2 at hns₃ hsb₃ ⊢
  have hC : H2.objs.size = h₂.objs.size + 1 := by rw [← hH2, Heap.size_push]
  have hCD : H2.objs.size ≠ h₂.objs.size := by rw [hC]; exact Ne.symm (Nat.ne_of_lt (Nat.lt_succ_self _))
  have below : ∀ b, b < h₂.objs.size → b ≠ H2.objs.size ∧ b ≠ h₂.objs.size := fun b hb => ⟨by rw [hC]; exact Nat.ne_of_lt (Nat.lt_succ_of_lt hb), Nat.ne_of_lt hb⟩
  have old : ∀ b o, h₂.get? b = some o → h₃.get? b = some o := fun b o e => hsb₃.extBut b o (below b (Heap.lt_size e)).1 (Heap.get?_push_of_some _ (hH2 ▸ Heap.get?_push_of_some _ e))
  have hacc : h₃.get? h₂.objs.size = some (lst []) := hsb₃.extBut _ _ (Ne.symm hCD) (Heap.get?_push_of_some _ (hH2 ▸ Heap.get?_push_size _ rfl))
  have hst₃ : St 0 h₃ := W.frame _ _ _ hst fun b _ o e => old b o e
  have fresh : ∀ a, h₂.objs.size ≤ a → h₂.get? a = none := fun a ha => by
    cases e : h₂.get? a with
    | none => rfl
    | some o' => exact absurd (Heap.lt_size e) (Nat.not_lt.mpr ha)
  have fresh₀ : ∀ a, h₂.objs.size ≤ a → h₀.get? a = none := fun a ha => by
    cases e : h₀.get? a with
    | none => rfl
    | some o' => have := F₂.keep a o' e; rw [fresh a ha] at this; cases this
  have hD₀ := fresh₀ _ (Nat.le_refl _)
  have hC₀ : h₀.get? H2.objs.size = none := fresh₀ _ (by rw [hC]; exact Nat.le_succ _)
  have hLlt : env.locals < h₂.objs.size := F₂.ns.lt
  have hDL : h₂.objs.size ≠ env.locals := Ne.symm (below env.locals hLlt).2
  have hCL : H2.objs.size ≠ env.locals := Ne.symm (below env.locals hLlt).1
  have hIL : env.locals ≠ s₁.heap.objs.size := Nat.ne_of_lt F.ns.lt
  have hIC := (below _ hIlt).1
  have hID := (below _ hIlt).2
  obtain ⟨oC, heC, hoC⟩ := ns_obj hns₃
  have N₃ : News h₀ env.locals h₃ ((H2.objs.size, oC) :: (h₂.objs.size, lst []) :: news) := fun p hp => by
    rcases List.mem_cons.mp hp with rfl | hp
    · exact ⟨heC, hCL, hC₀⟩
    · rcases List.mem_cons.mp hp with rfl | hp
      · exact ⟨hacc, hDL, hD₀⟩
      · exact ⟨old _ _ (N₂ p hp).1, (N₂ p hp).2⟩
  have off₃ : ∀ p ∈ news, p.1 ≠ s₁.heap.objs.size ∧ p.1 ≠ H2.objs.size ∧ p.1 ≠ h₂.objs.size := fun p hp => ⟨Nat.ne_of_lt (Heap.lt_size (N p hp).1), below _ (Heap.lt_size (N₂ p hp).1)⟩
  have loop : ∀ s₃ : Shared, s₃ = { s₁ with heap := h₃, toks := s₁.toks + ([] : List (Str × Value)).length } →
      codeAny (model prog w) A (.compLoop (.ListComp elt (⟨.Tuple elts kx tp, iter, [], 0⟩ :: gs) scope pos) 0 (.ref s₁.heap.objs.size) (.ref h₂.objs.size) (compEnvC scope cl H2.objs.size env))
        (compPost (model prog w) A E (some (assign (.Name y py) env)) (fun _ s' => Q .next s') (.ref h₂.objs.size) H2.objs.size) s₃ := by
    rintro s₃ rfl
    refine levelP (s := s₁) (g₁ := s₁.gens) (LR _ _ _) W hIo hfp hdep hLI hvr hIL (next_is_new F) hIC hID hst₃ (F₂.keeps old) N₃ hoC off₃ (hJ _) id
      (fun i v ys nx mC h g tk oC oI E Post hz hi hP hJ hO F N off hT => turn _ _ i v ys nx mC h g tk oC _ oI E Post hz hi hP hJ hO F N off ⟨hIC, hID, hCD⟩ hT) ?_
    intro ys nx mC h g tk oC hz hJ hO F N off
    show wpAny _ A (assign (.Name y py) env (.ref _)) _ _ _
    refine wpAny_assign_Name (wpAny_storeName_local hy F.ns (fun h₆ hn₆ hs₆ => ?_) hp)
    have hL₀ : h₀.get? env.locals = none := Heap.get?_none_of_le F.above
    have F₆ : Fr h₀ env.locals h₆ (fun z => if z = y then some (.ref h₂.objs.size) else m z) := ⟨hn₆, fun b o e => hs₆.extBut b o (fun q => by rw [q, hL₀] at e; cases e) (F.keep b o e), F.above⟩
    refine ⟨mC, (hO.ns (N _ (.head _)).1).sameBut hs₆ hCL, fun h'' hs'' => done _ ys nx mC h'' g _ hz hJ (F₆.change hs'' hCL hC₀) (fun p hp => ?_) fun p hp => (off p hp).2.2⟩
    have z : h₆.get? p.1 = some p.2 := hs₆.extBut _ _ (N p (.tail _ hp)).2.1 (N p (.tail _ hp)).1
    refine ⟨hs''.extBut _ _ ?_ z, (N p (.tail _ hp)).2⟩
    rcases List.mem_cons.mp hp with rfl | hp
    · exact Ne.symm hCD
    · exact (off p hp).2.1
  exact codeAny_compStart_gen rfl (loop _ rfl) (W.self 0 _ _ _ hst₃ (loop _ rfl))
end
end
section
open PySem PySem.W PyProof.Rows PySem.Flt PySem.Calls
set_option maxHeartbeats 1000000
section
variable {prog : Program} {w : World} {A : Around} {E : Value → Shared → Prop} {s : Shared} {h₀ : Heap} {L KK a : Addr} {n : Nat} {m : Str → Option Value} {Fv : Nat → Value → Prop} {news : List (Addr × Obj)}
theorem WalksS.shift {I : Addr} {fp wr : List Addr} {G : Array GenState → Array GenState → Prop} {P : Nat → Value → Prop} {St : Nat → Shared → Prop} (W : WalksS prog w A I fp wr G n P St) :
    WalksS prog w A I fp wr G (n + 1) (fun i v => 1 ≤ i ∧ P (i - 1) v) (fun i s => 1 ≤ i ∧ St (i - 1) s) where
  sub := W.sub
  grefl := W.grefl
  gtrans := W.gtrans
  frame := fun i s h' tk st a b => ⟨st.1, W.frame _ s h' tk st.2 a b⟩
  item := fun i s Q E hi st hQ => W.item (i - 1) s Q E (by have := st.1; omega) st.2 fun v s' hP hst hm => hQ v s' ⟨st.1, hP⟩ ⟨Nat.le_add_left 1 i, by have := st.1; rwa [show i - 1 + 1 = i + 1 - 1 by omega] at hst⟩ hm
  done := fun s Q E st hQ => W.done s Q E (by have := st.2; rwa [Nat.add_sub_cancel] at this) hQ
  self := fun i s Q E st hQ => W.self (i - 1) s Q E st.2 hQ
theorem args_sum2 (a b : Value) : argsOk "sum" ⟨[a, b], []⟩ := by unfold argsOk; kernel_rfl
theorem preSum_const (c k : Int) : ∀ n, preSum (fun i => if i = 0 then c else k) (n + 1) = c + k * (n : Int)
  | 0 => by simp [preSum]
  | n + 1 => by
    have := preSum_const c k n
    rw [show preSum (fun i => if i = 0 then c else k) (n + 1 + 1) = preSum (fun i => if i = 0 then c else k) (n + 1) + (if n + 1 = 0 then c else k) from rfl, this, if_neg (by omega)]
    rw [Int.natCast_add, Int.mul_add]; simp; omega
theorem sum_start {c k : Int} {ts : Tok} {Q : Value → Shared → Prop} (Fh : Fr h₀ L s.heap m) (N : News h₀ L s.heap news) (X : Gen prog w A KK a n Fv s) (hLK : L ≤ KK) (hNK : ∀ p ∈ news, p.1 ≤ KK) (hval : ∀ j v, Fv j v → ∃ t, v = .int k t) (hc : 0 ≤ c ∧ c ≤ 1000000) (hk : 0 ≤ k ∧ k ≤ 1000) (hn : n ≤ 1000)
    (hQ : ∀ h' g' tk' t', (AllBare s.gens → AllBare g') → Fr h₀ L h' m → News h₀ L h' news → Q (.int (c + k * (n : Int)) t') { s with heap := h', gens := g', toks := tk' }) :
    wpAny (model prog w) A (call (.builtin "sum") [.ref a, .int c ts]) Q E s := by
  revert prog w A E s h₀ L KK a n m Fv news c k ts Q
  refine (?zh : ∀ prog w A E s h₀ L KK a n m Fv news c k ts Q, (?zP : _ → _ → _ → _ → _ → _ → _ → _ → _ → _ → _ → _ → _ → _ → _ → _ → _ → Prop) prog w A E s h₀ L KK a n m Fv news c k ts Q)
  refine fun prog w A E s h₀ L KK a n m Fv news c k ts Q => allE (P := un2 fun prog => un2 fun w => un2 fun A => un2 fun E => un2 fun s => un2 fun h₀ => un2 fun L => un2 fun KK => un2 fun a => un2 fun n => un2 fun m => un2 fun Fv => un2 fun news => un2 fun c => un2 fun k => un2 fun ts Q => ?zP prog w A E s h₀ L KK a n m Fv news c k ts Q) ?zn ?zk (prog, w, A, E, s, h₀, L, KK, a, n, m, Fv, news, c, k, ts, Q)
  case zn => walk_at "ne"
  clear prog w A E s h₀ L KK a n m Fv news c k ts Q
  refine (?zj : AtE _ ?zE)
  refine (?zF : ∀ prog w A E s h₀ L KK a n m Fv news c k ts Q, ?zP prog w A E s h₀ L KK a n m Fv news c k ts Q) ?zE.1 ?zE.2.1 ?zE.2.2.1 ?zE.2.2.2.1 ?zE.2.2.2.2.1 ?zE.2.2.2.2.2.1 ?zE.2.2.2.2.2.2.1 ?zE.2.2.2.2.2.2.2.1 ?zE.2.2.2.2.2.2.2.2.1 ?zE.2.2.2.2.2.2.2.2.2.1 ?zE.2.2.2.2.2.2.2.2.2.2.1 ?zE.2.2.2.2.2.2.2.2.2.2.2.1 ?zE.2.2.2.2.2.2.2.2.2.2.2.2.1 ?zE.2.2.2.2.2.2.2.2.2.2.2.2.2.1 ?zE.2.2.2.2.2.2.2.2.2.2.2.2.2.2.1 ?zE.2.2.2.2.2.2.2.2.2.2.2.2.2.2.2.1 ?zE.2.2.2.2.2.2.2.2.2.2.2.2.2.2.2.2
  intros prog w A E s h₀ L KK a n m Fv news c k ts Q
  intro Fh N X hLK hNK hval hc hk hn hQ
  obtain ⟨fp, wr, g, St, W, hst, _, _, hfp, hwr⟩ := X
  have W := W.in4_1
  have W' := WalksS.shift W
  refine call_function_tree F.kind_sum F.plain_sum F.entry_sum (args_sum2 _ _) ?_
  unfold Builtin.«sum»
  simp only [List.length_cons, List.length_nil]
  rw [if_neg (by decide)]
  refine wpAny_bind (wpAny_of_eq (show Builtin.Builtins.bindParams "sum" ["start"] 0 ⟨[.int c ts], []⟩ = pure [some (.int c ts)] from rfl) ?_)
  refine wpAny_bind (W.self 0 _ _ _ hst ?_)
  dsimp only
  have hfit : ∀ j, j < n + 1 → InLong ((fun i => if i = 0 then c else k) j) ∧ InLong (preSum (fun i => if i = 0 then c else k) (j + 1)) := by
    intro j hj
    rw [preSum_const]
    have h1 : 0 ≤ k * (j : Int) := Int.mul_nonneg hk.1 (by omega)
    have h2 : k * (j : Int) ≤ 1000 * 1000 := Int.mul_le_mul hk.2 (by omega) (by omega) (by omega)
    refine ⟨?_, ⟨by omega, by omega⟩⟩
    show InLong (if j = 0 then c else k)
    split <;> exact ⟨by omega, by omega⟩
  split
  · refine wpAny_bind (wpAny_rule ?_)
    refine wpAny_bind (wpAny_mkInt ?_)
    refine wpAny_bind (wpAny_pure ?_)
    simp only [List.forIn_cons, List.forIn_nil]
    refine wpAny_bind (wpAny_bind (wpAny_bind (wpAny_isInstance (T := "int") (b := false) (typeIs_int _ _ _) PySem.sub_int_str ?_)))
    simp only [Bool.false_eq_true, if_false]
    refine wpAny_pure (wpAny_bind (wpAny_bind (wpAny_isInstance (T := "int") (b := false) (typeIs_int _ _ _) PySem.sub_int_bytes ?_)))
    simp only [Bool.false_eq_true, if_false]
    refine wpAny_pure (wpAny_bind (wpAny_bind (wpAny_isInstance (T := "int") (b := false) (typeIs_int _ _ _) PySem.sub_int_bytearray ?_)))
    simp only [Bool.false_eq_true, if_false]
    refine wpAny_pure (wpAny_pure ?_)
    refine wpAny_bind (wpAny_newObj_type ?_)
    have hSf : s.heap.objs.size ∉ fp := fun hm => Nat.lt_irrefl _ (hfp _ hm)
    refine wpAny_pure ⟨plainId_quiet F.plain_sum_loop _, codeAny_sum_loopS W' (fun i => if i = 0 then c else k) ?_ hfit s.heap.objs.size hSf n 1 _ s.toks 0 (by omega) (by omega)
      (W'.frame 1 s _ _ ⟨Nat.le_refl _, hst⟩ (by first | exact Nat.le_refl _ | exact Nat.le_succ _ | omega) fun b _ o e => Heap.get?_push_of_some _ e) ?_ fun s' t' hm => ?_⟩
    · rintro i v ⟨hi, hv⟩
      obtain ⟨t, e⟩ := hval _ v hv
      exact ⟨t, by rw [e, if_neg (by omega)]⟩
    · have e : preSum (fun i => if i = 0 then c else k) 1 = c := by simp [preSum]
      rw [e]
      exact Heap.get?_push_size _ rfl
    · have hm2 := hm.drop_new (by first | exact Nat.le_refl _ | exact Nat.le_succ _ | omega)
      have e := preSum_const c k n
      rw [e]
      obtain ⟨sh, sg, sd, st, so⟩ := s'
      obtain ⟨m1, m2, m3, m4, _⟩ := hm2
      dsimp only at m1 m3 m4
      subst m3 m4
      exact hQ sh sg st t' (fun x => x.moved m2) ⟨Fh.ns.at' fun o e => m1 _ o (fun hm => Nat.lt_irrefl _ (Nat.lt_of_lt_of_le (hwr _ hm) hLK)) e, fun b o e => m1 b o (fun hm => Nat.lt_irrefl _ (Nat.lt_trans (Nat.lt_of_le_of_lt hLK (hwr b hm)) (Nat.lt_of_lt_of_le (Heap.lt_size e) Fh.above))) (Fh.keep b o e), Fh.above⟩
        (fun p hp => ⟨m1 _ _ (fun hm => Nat.lt_irrefl _ (Nat.lt_of_lt_of_le (hwr _ hm) (hNK p hp))) (N p hp).1, (N p hp).2⟩)
  · rename_i hneg
    exact absurd (by show (decide (-(2 ^ 63) ≤ c) && decide (c < 2 ^ 63)) = true; simp only [Bool.and_eq_true, decide_eq_true_eq]; omega) hneg
end
end
section
open PySem PySem.W PyProof.Rows PySem.Flt PySem.Calls Builtin.ObjectAttr Builtin
set_option maxHeartbeats 1000000
noncomputable def BoundP (q x : Addr) (T i : String) (h : Heap) : Prop := h.get? q = some (boundO T i x)
noncomputable def accMro (K : Frag) : Bool := (clsIn K 272).any fun cd => cd.mro == [.ref 272, .type "list", .type "object"] && cd.hasDict
theorem refuse_list (self : Value) : refuseLoop self "__setattr__" [.ref 272, .type "list", .type "object"] = pure () := by
  rw [refuseLoop_ref]; kernel_rfl
section
variable {prog : Program} {w : World} {A : Around} {E : Value → Shared → Prop} {s : Shared} {K : Frag} {x dx q : Addr} {vs : List Value} {n : Nat} {es es' : List DictEntry} {ne ne' : Nat} {h₀ : Heap} {L : Addr} {m : Str → Option Value} {news news' : List (Addr × Obj)} {g : Obj → List (Addr × Obj)} {T i : String}
theorem callWith_B0 {env : Env} {pos : Pos} {Q : Value → Shared → Prop} (hT : T = "builtin_function_or_method" ∨ T = "method-wrapper") (N : News h₀ L s.heap news) (hq : (q, boundO T i x) ∈ news) (h : wpAny (model prog w) A (call (.ref q) []) Q E s) :
    wpAny (model prog w) A (callWith pos (.ref q) [] (backTo pos (starEach [] env)) []) Q E s := by
  refine callWith_of (P := BoundP q x T i) rfl (fun h e => ⟨.machine, .inr (.inl rfl), ?_⟩) (evalArgs_nil3 ⟨(N _ hq).1, h⟩)
  refine (Looks.ld (part := none) e).andThen ?_
  rcases hT with rfl | rfl <;> exact .now
theorem sup_init_call {Q : Value → Shared → Prop} (F : Fr h₀ L s.heap m) (N : News h₀ L s.heap news) (U : UpdF x (accObj dx vs n) news g) (hq : (q, boundO "method-wrapper" "list.__init__" x) ∈ news) (hv : vs = [])
    (h : ∀ h' n', Fr h₀ L h' m → News h₀ L h' (g (accObj dx [] n')) → Q .none { s with heap := h' }) : wpAny (model prog w) A (call (.ref q) []) Q E s := by
  subst hv
  have hxo := (N _ (UpdF.mem' U)).1
  refine wpAny_call (bound_open (.inr rfl) (N _ hq).1 (plainId_quiet (by decide +kernel) _) ?_)
  rw [init_args]
  refine wpAny_pure (codeAny_builtin PySem.F.entry_list_init ?_)
  obtain ⟨n', F', N'⟩ := acc_upd (f := fun _ => #[]) (us := []) F N rfl U
  unfold Builtin.«list.__init__»
  refine wpAny_bind (wpAny_listItems hxo rfl ?_)
  show wpAny _ _ (updateSeq x (fun _ => #[]) >>= _) _ _ s
  refine wpAny_bind (wpAny_updateSeq hxo rfl ?_ (by simp) (by simp))
  refine wpAny_bind (wpAny_pure ?_)
  exact wpAny_pure (h _ n' F' N')
noncomputable def accQual (K : Frag) : Bool := (clsIn K 272).any fun cd => cd.qualname == Str.ofString "_Accumulator"
theorem popArgs (x : Value) : Bind.checkArgs "list.pop" ⟨.positional, s!"{(Str.ofString "_Accumulator").toString}.{Bind.lastOf "list.pop"}", "pop", .self, [⟨"index", .posOnly, false⟩]⟩ ⟨[x], []⟩ = pure () := by kernel_rfl
theorem pop_check {Q : Unit → Shared → Prop} (X : K.In s.heap) (hx : s.heap.get? x = some (accObj dx vs n)) (hmod : subIn K (.ref 272) (.type "module") = some false) (hq : accQual K = true) (hty : typeIn K (.ref 272) = some (.type "type")) (h : Q () s) :
    wpAny (model prog w) A (checkBoundCall "list.pop" ⟨[.ref x], []⟩) Q E s := by
  revert prog w A E s K x dx vs n Q
  refine (?zh : ∀ prog w A E s K x dx vs n Q, (?zP : _ → _ → _ → _ → _ → _ → _ → _ → _ → _ → _ → Prop) prog w A E s K x dx vs n Q)
  refine fun prog w A E s K x dx vs n Q => allE (P := un2 fun prog => un2 fun w => un2 fun A => un2 fun E => un2 fun s => un2 fun K => un2 fun x => un2 fun dx => un2 fun vs => un2 fun n Q => ?zP prog w A E s K x dx vs n Q) ?zn ?zk (prog, w, A, E, s, K, x, dx, vs, n, Q)
  case zn => walk_at "ne"
  clear prog w A E s K x dx vs n Q
  refine (?zj : AtE _ ?zE)
  refine (?zF : ∀ prog w A E s K x dx vs n Q, ?zP prog w A E s K x dx vs n Q) ?zE.1 ?zE.2.1 ?zE.2.2.1 ?zE.2.2.2.1 ?zE.2.2.2.2.1 ?zE.2.2.2.2.2.1 ?zE.2.2.2.2.2.2.1 ?zE.2.2.2.2.2.2.2.1 ?zE.2.2.2.2.2.2.2.2.1 ?zE.2.2.2.2.2.2.2.2.2.1 ?zE.2.2.2.2.2.2.2.2.2.2
  intros prog w A E s K x dx vs n Q
  intro X hx hmod hq hty h
  obtain ⟨cd, hc, hn⟩ := any_some hq
  have hn : cd.qualname = Str.ofString "_Accumulator" := beq_iff_eq.mp hn
  have tx : Looks (model prog w) s.heap (typeOf (.ref x)) (.ref 272) := (Looks.ld hx).andThen .now
  unfold checkBoundCall
  have hs : Manifest.signature? "list.pop" = some ⟨.positional, "list.pop", "pop", .self, [⟨"index", .posOnly, false⟩]⟩ := by kernel_rfl
  have hk : builtinKind "list.pop" = some .method := by kernel_rfl
  simp only [hs, hk]
  have hv : Manifest.varargsMethods.contains "list.pop" = false := by decide +kernel
  simp only [hv, Bool.false_or]
  rw [if_neg (by decide)]
  have li : Looks (model prog w) s.heap (isInstance (.ref x) (.type "module")) false := tx.andThen (looks_subIn X hmod)
  refine wpAny_bind (li.here ?_)
  simp only [Bool.false_eq_true, if_false]
  obtain ⟨hh, gg, dd, tt, oo⟩ := s
  refine wpAny_bind (ks_wpAny_isType_inst hx (fun c e => by cases e) ?_)
  simp only [Bool.false_eq_true, if_false]
  refine wpAny_bind (tx.here ?_)
  refine wpAny_bind ((looks_clsIn X hc).here ?_)
  refine wpAny_bind ((looks_typeIn X hty).here ?_)
  rw [if_pos (by decide +kernel), hn, popArgs]
  exact wpAny_pure h
theorem sup_pop_call {Q : Value → Shared → Prop} {us : List Value} {v : Value} (F : Fr h₀ L s.heap m) (X₀ : K.In h₀) (hmod : subIn K (.ref 272) (.type "module") = some false) (hqn : accQual K = true) (hty : typeIn K (.ref 272) = some (.type "type")) (N : News h₀ L s.heap news) (U : UpdF x (accObj dx vs n) news g) (hq : (q, boundO "builtin_function_or_method" "list.pop" x) ∈ news) (hv : vs = us ++ [v])
    (hlen : vs.length ≤ 1000) (h : ∀ h' n', Fr h₀ L h' m → News h₀ L h' (g (accObj dx us n')) → Q v { s with heap := h' }) : wpAny (model prog w) A (call (.ref q) []) Q E s := by
  revert prog w A E s K x dx q vs n h₀ L m news g Q us v
  refine (?zh : ∀ prog w A E s K x dx q vs n h₀ L m news g Q us v, (?zP : _ → _ → _ → _ → _ → _ → _ → _ → _ → _ → _ → _ → _ → _ → _ → _ → _ → _ → _ → Prop) prog w A E s K x dx q vs n h₀ L m news g Q us v)
  refine fun prog w A E s K x dx q vs n h₀ L m news g Q us v => allE (P := un2 fun prog => un2 fun w => un2 fun A => un2 fun E => un2 fun s => un2 fun K => un2 fun x => un2 fun dx => un2 fun q => un2 fun vs => un2 fun n => un2 fun h₀ => un2 fun L => un2 fun m => un2 fun news => un2 fun g => un2 fun Q => un2 fun us v => ?zP prog w A E s K x dx q vs n h₀ L m news g Q us v) ?zn ?zk (prog, w, A, E, s, K, x, dx, q, vs, n, h₀, L, m, news, g, Q, us, v)
  case zn => walk_at "ne"
  clear prog w A E s K x dx q vs n h₀ L m news g Q us v
  refine (?zj : AtE _ ?zE)
  refine (?zF : ∀ prog w A E s K x dx q vs n h₀ L m news g Q us v, ?zP prog w A E s K x dx q vs n h₀ L m news g Q us v) ?zE.1 ?zE.2.1 ?zE.2.2.1 ?zE.2.2.2.1 ?zE.2.2.2.2.1 ?zE.2.2.2.2.2.1 ?zE.2.2.2.2.2.2.1 ?zE.2.2.2.2.2.2.2.1 ?zE.2.2.2.2.2.2.2.2.1 ?zE.2.2.2.2.2.2.2.2.2.1 ?zE.2.2.2.2.2.2.2.2.2.2.1 ?zE.2.2.2.2.2.2.2.2.2.2.2.1 ?zE.2.2.2.2.2.2.2.2.2.2.2.2.1 ?zE.2.2.2.2.2.2.2.2.2.2.2.2.2.1 ?zE.2.2.2.2.2.2.2.2.2.2.2.2.2.2.1 ?zE.2.2.2.2.2.2.2.2.2.2.2.2.2.2.2.1 ?zE.2.2.2.2.2.2.2.2.2.2.2.2.2.2.2.2.1 ?zE.2.2.2.2.2.2.2.2.2.2.2.2.2.2.2.2.2.1 ?zE.2.2.2.2.2.2.2.2.2.2.2.2.2.2.2.2.2.2
  intros prog w A E s K x dx q vs n h₀ L m news g Q us v
  intro F X₀ hmod hqn hty N U hq hv hlen h
  have hxo := (N _ (UpdF.mem' U)).1
  refine wpAny_call (bound_open (.inl rfl) (N _ hq).1 (plainId_quiet (by decide +kernel) _) (pop_check (X₀.keeps F.keep) hxo hmod hqn hty ?_))
  refine codeAny_builtin PySem.F.entry_list_pop ?_
  obtain ⟨n', F', N'⟩ := acc_upd (f := (·.eraseIdxIfInBounds us.length)) (us := us) F N (by
    subst hv
    simp [Array.eraseIdxIfInBounds, List.eraseIdx_append_of_length_le]) U
  have e0 : vs.toArray.isEmpty = false := by subst hv; simp
  have e1 : seqIndex? (-1) vs.toArray.size = some us.length := by
    subst hv
    unfold seqIndex?
    simp
    omega
  have e2 : vs.toArray[us.length]? = some v := by subst hv; simp
  unfold Builtin.«list.pop»
  refine wpAny_bind (wpAny_of_eq (show selfAndSome "list.pop" "pop" 0 1 ⟨[.ref x], []⟩ = pure (.ref x, []) from rfl) ?_)
  refine wpAny_bind (wpAny_pure ?_)
  dsimp only
  rw [if_neg (by decide +kernel)]
  refine wpAny_bind (wpAny_listItems hxo rfl ?_)
  rw [if_neg (by rw [e0]; decide), e1, Option.bind_some, e2, Option.map_some]
  show wpAny _ _ (updateSeq x (fun xs => xs.eraseIdxIfInBounds us.length) >>= _) _ _ s
  refine wpAny_bind (wpAny_updateSeq hxo rfl ?_ (by rw [List.size_toArray, sizeLine_eq]; omega) ?_)
  · exact wpAny_pure (h _ n' F' N')
  · subst hv
    simp [Array.eraseIdxIfInBounds, List.eraseIdx_append_of_length_le]
    simp at hlen
    rw [sizeLine_eq]
    omega
theorem acc_set {Q : Unit → Shared → Prop} {name : Str} {v : Value} (F : Fr h₀ L s.heap m) (X₀ : K.In h₀) (N : News h₀ L s.heap news) (hx : (x, accObj dx vs n) ∈ news) (hdx : (dx, dictOf es ne) ∈ news) (hs : findIn K (.ref 272) "__setattr__" = some (some (.builtin "object.__setattr__"))) (hp : accMro K = true)
    (ht : takerIn K 272 name = some none) (hl : (getL name es).isSome = true) (e : (putL name (PyData.keyHash w.params name) (.str name (s.toks + 1)) v es, putN name es ne) = (es', ne')) (U : Upd dx (dictOf es ne) (dictOf es' ne') news news') (hz : es'.length ≤ 1000)
    (h : ∀ h', Fr h₀ L h' m → News h₀ L h' news' → Q () { s with heap := h', toks := s.toks + 2 }) : wpAny (model prog w) A (setAttr (.ref x) name v) Q E s := by
  revert prog w A E s K x dx vs n es es' ne ne' h₀ L m news news' Q name v
  refine (?zh : ∀ prog w A E s K x dx vs n es es' ne ne' h₀ L m news news' Q name v, (?zP : _ → _ → _ → _ → _ → _ → _ → _ → _ → _ → _ → _ → _ → _ → _ → _ → _ → _ → _ → _ → _ → _ → Prop) prog w A E s K x dx vs n es es' ne ne' h₀ L m news news' Q name v)
  refine fun prog w A E s K x dx vs n es es' ne ne' h₀ L m news news' Q name v => allE (P := un2 fun prog => un2 fun w => un2 fun A => un2 fun E => un2 fun s => un2 fun K => un2 fun x => un2 fun dx => un2 fun vs => un2 fun n => un2 fun es => un2 fun es' => un2 fun ne => un2 fun ne' => un2 fun h₀ => un2 fun L => un2 fun m => un2 fun news => un2 fun news' => un2 fun Q => un2 fun name v => ?zP prog w A E s K x dx vs n es es' ne ne' h₀ L m news news' Q name v) ?zn ?zk (prog, w, A, E, s, K, x, dx, vs, n, es, es', ne, ne', h₀, L, m, news, news', Q, name, v)
  case zn => walk_at "ne"
  clear prog w A E s K x dx vs n es es' ne ne' h₀ L m news news' Q name v
  refine (?zj : AtE _ ?zE)
  refine (?zF : ∀ prog w A E s K x dx vs n es es' ne ne' h₀ L m news news' Q name v, ?zP prog w A E s K x dx vs n es es' ne ne' h₀ L m news news' Q name v) ?zE.1 ?zE.2.1 ?zE.2.2.1 ?zE.2.2.2.1 ?zE.2.2.2.2.1 ?zE.2.2.2.2.2.1 ?zE.2.2.2.2.2.2.1 ?zE.2.2.2.2.2.2.2.1 ?zE.2.2.2.2.2.2.2.2.1 ?zE.2.2.2.2.2.2.2.2.2.1 ?zE.2.2.2.2.2.2.2.2.2.2.1 ?zE.2.2.2.2.2.2.2.2.2.2.2.1 ?zE.2.2.2.2.2.2.2.2.2.2.2.2.1 ?zE.2.2.2.2.2.2.2.2.2.2.2.2.2.1 ?zE.2.2.2.2.2.2.2.2.2.2.2.2.2.2.1 ?zE.2.2.2.2.2.2.2.2.2.2.2.2.2.2.2.1 ?zE.2.2.2.2.2.2.2.2.2.2.2.2.2.2.2.2.1 ?zE.2.2.2.2.2.2.2.2.2.2.2.2.2.2.2.2.2.1 ?zE.2.2.2.2.2.2.2.2.2.2.2.2.2.2.2.2.2.2.1 ?zE.2.2.2.2.2.2.2.2.2.2.2.2.2.2.2.2.2.2.2.1 ?zE.2.2.2.2.2.2.2.2.2.2.2.2.2.2.2.2.2.2.2.2.1 ?zE.2.2.2.2.2.2.2.2.2.2.2.2.2.2.2.2.2.2.2.2.2
  intros prog w A E s K x dx vs n es es' ne ne' h₀ L m news news' Q name v
  intro F X₀ N hx hdx hs hp ht hl e U hz h
  obtain ⟨pre, post, rfl, rfl, a, b⟩ := U.split
  obtain ⟨e1, e2⟩ := Prod.mk.inj e
  obtain ⟨cd, hc, hcd⟩ := any_some hp
  obtain ⟨hmro, hhd⟩ := Bool.and_eq_true_iff.mp hcd
  have hmro : cd.mro = [.ref 272, .type "list", .type "object"] := beq_iff_eq.mp hmro
  have X := X₀.keeps F.keep
  have I := acc_inst N hx hdx
  refine set_plain X I hs ?_
  obtain ⟨sh, sg, sd, st, so⟩ := s
  have SF := PySem.F.store_object
  have sub : Looks (model prog w) sh (isInstance (.ref x) (.type "object")) true := I.type.andThen (looks_mroIn X (by unfold mroIn; rw [hc, Option.bind_some, hmro]; rfl))
  refine codeAny_call_builtin SF.slot.plain SF.entry (@check_slot (model prog w) _ _ ⟨sh, sg, sd, st + 1, so⟩ "object.__setattr__" "object" "__setattr__" (.ref x) [.str name st, v] [] _ SF.kind SF.split sub (SF.args (.ref x) (.str name st) v) ?_)
  obtain ⟨attr, ha, hr⟩ := Option.bind_eq_some_iff.mp ht
  have L3 : Looks (model prog w) sh (storeTaker? attr) none := by
    cases attr with
    | none => exact .now
    | some a =>
      obtain ⟨b, hb, hb2⟩ := Option.map_eq_some_iff.mp hr
      refine (looks_takesIn X hb).andThen ?_
      cases b with
      | true => cases hb2
      | false => exact .now
  have hm : Looks (model prog w) sh (mroOf (.ref 272)) cd.mro := (looks_clsIn X hc).andThen .now
  rw [osa_eq, refuse_eq]
  refine wpAny_bind (wpAny_bind (I.type.at (wpAny_bind (hm.at ?_))))
  rw [hmro, refuse_list]
  refine wpAny_pure (wpAny_bind (I.type.at (wpAny_bind ((looks_findIn X ha).at (wpAny_bind (L3.at ?_))))))
  dsimp only
  have ee : Obj.putName name (PyData.keyHash w.params name) (.str name (st + 1)) v (dictOf es ne) = dictOf es' ne' := by rw [putName_dict, e1, e2]
  obtain ⟨U1, U2⟩ := news_upd (f := Obj.putName name (PyData.keyHash w.params name) (.str name (st + 1)) v) F N a b ee rfl
  have D := (N (dx, dictOf es ne) hdx).1
  have D' := (U2 (dx, dictOf es' ne') (by simp)).1
  have hxo := (N _ hx).1
  refine wpAny_bind (wpAny_pure (wpAny_bind (wpAny_bind (wpAny_loadPart hxo (wpAny_bind ((looks_clsIn X hc).at ?_))))))
  rw [hhd]
  refine wpAny_pure (a := some dx) (wpAny_bind (wpAny_pure (wpAny_bind ?_)))
  unfold nsSet
  refine wpAny_bind (wpAny_bind (wpAny_askSetting (wpAny_pure (wpAny_bind (wpAny_mkText (wpAny_bind (wpAny_loadPart D ?_)))))))
  dsimp only
  have c : (!es.toArray.any (·.key.isStr name) && es.toArray.any (·.refKey)) = false := by
    rw [List.any_toArray, List.any_toArray]
    unfold getL at hl
    split at hl
    · rename_i en he
      rw [List.any_eq_true.mpr ⟨en, List.mem_of_find?_eq_some he, List.find?_some he⟩]; rfl
    · split at hl
      · cases hl
      · rename_i z; rw [Bool.not_eq_true] at z; rw [z, Bool.and_false]
  rw [aRefKeyMayBeTheName_at, c]
  refine wpAny_updatePart D ?_
  refine wpAny_bind (wpAny_lookBehind D' (pastItsLine_dict (by rw [List.size_toArray, sizeLine_eq]; omega)) ?_)
  exact wpAny_pure (h _ U1 U2)
end
end
section
open PySem PySem.W PyProof.Rows PySem.Flt PySem.Calls Builtin.ObjectAttr Builtin
set_option maxHeartbeats 1000000
noncomputable def accMakes (K : Frag) : Bool := match K.lookup 272 with
  | some ⟨_, _, .cls cd, sl⟩ => !cd.abstract && !cd.hasDel && cd.hasDict && (sl.toList[4]?).join == some (.builtin "list.__new__") && cd.mro == [.ref 272, .type "list", .type "object"] &&
      specialIn K (.ref 272) "__call__" == some (some (.builtin "type.__call__")) && instIn K (.ref 272) (.type "type") == some true
  | _ => false
structure AccMk (M : Model) (h : Heap) : Prop where
  obj : ∃ oc od cd sl, h.get? 272 = some ⟨oc, od, .cls cd, sl⟩ ∧ cd.abstract = false ∧ cd.hasDel = false ∧ cd.hasDict = true
  mro : Looks M h (mroOf (.ref 272)) [.ref 272, .type "list", .type "object"]
  made : Looks M h (Bind.madeBy (.ref 272)) (some "list.__new__")
  base : Looks M h (Bind.staticBase (.ref 272)) (.ref 272)
  self : Looks M h (isSubtype (.ref 272) (.ref 272)) true
  top : Looks M h (isSubtype (.ref 272) (.type "list")) true
  call : Looks M h (specialOf (.ref 272) "__call__") (some (.builtin "type.__call__"))
  typ : Looks M h (isInstance (.ref 272) (.type "type")) true
  istype : Looks M h (isType (.ref 272)) true
theorem accMk_of {K : Frag} {M : Model} {h : Heap} (X : K.In h) (e : accMakes K = true) : AccMk M h := by
  unfold accMakes at e
  obtain ⟨oc, od, cd, sl, ho⟩ : ∃ oc od cd sl, K.lookup 272 = some ⟨oc, od, .cls cd, sl⟩ := by
    cases ho : K.lookup 272 with
    | none => rw [ho] at e; cases e
    | some o =>
      obtain ⟨oc, od, dat, sl⟩ := o
      rw [ho] at e
      cases dat with
      | cls cd => exact ⟨oc, od, cd, sl, rfl⟩
      | _ => cases e
  rw [ho] at e
  · simp only [Bool.and_eq_true, Bool.not_eq_true', beq_iff_eq] at e
    obtain ⟨⟨⟨⟨⟨⟨e1, e2⟩, e3⟩, e4⟩, e5⟩, e6⟩, e7⟩ := e
    have hc : clsIn K 272 = some cd := by unfold clsIn; rw [ho]
    have hm : Looks M h (mroOf (.ref 272)) [.ref 272, .type "list", .type "object"] := e5 ▸ (looks_clsIn X hc).andThen .now
    have made : Looks M h (Bind.madeBy (.ref 272)) (some "list.__new__") := by
      intro A Q E s k q
      unfold Bind.madeBy
      refine wpAny_bind (hm A _ E s k ?_)
      rw [List.forIn_cons]
      refine wpAny_bind (wpAny_bind (wpAny_bind (wpAny_bind (wpAny_loadPart (k _ _ (X _ _ ho)) (wpAny_pure ?_)))))
      dsimp only
      rw [← Array.getElem?_toList, e4]
      exact wpAny_pure (wpAny_pure (wpAny_pure q))
    refine ⟨⟨oc, od, cd, sl, X _ _ ho, e1, e2, e3⟩, hm, made, ?_, looks_mroIn X ?_, looks_mroIn X ?_, looks_specialIn X e6, looks_instIn X e7, ?_⟩
    · intro A Q E s k q
      unfold Bind.staticBase
      refine wpAny_bind (hm A _ E s k ?_)
      rw [List.forIn_cons]
      exact wpAny_bind (wpAny_bind (wpAny_bind (made A _ E s k (wpAny_pure (wpAny_pure (wpAny_pure q))))))
    · unfold mroIn; rw [hc, Option.bind_some, e5]; rfl
    · unfold mroIn; rw [hc, Option.bind_some, e5]; rfl
    · exact (Looks.ld (part := none) (X _ _ ho)).andThen .now
section
variable {prog : Program} {w : World} {A : Around} {K : Frag} {R : Result → Shared → Prop} {h : Heap} {g : Array GenState} {d : Drawn} {t : Nat} {os : OsState}
theorem ln_kind : builtinKind "list.__new__" = some .builtinFn := by decide +kernel
theorem ln_split : splitId "list.__new__" = some ("list", "__new__") := by decide +kernel
theorem acc_new {rest : List Value} (Y : AccMk (model prog w) h) (hq : R (.ok (.ret (.ref (h.objs.size + 1)))) ⟨(h.push emptyDict).push (accObj h.objs.size [] 0), g, d, t, os⟩) :
    codeAny (model prog w) A (.call (.builtin "list.__new__") ⟨.ref 272 :: rest, []⟩) R ⟨h, g, d, t, os⟩ := by
  revert prog w A R h g d t os rest
  refine (?zh : ∀ prog w A R h g d t os rest, (?zP : _ → _ → _ → _ → _ → _ → _ → _ → _ → _ → Prop) prog w A R h g d t os rest)
  refine fun prog w A R h g d t os rest => allE (P := un2 fun prog => un2 fun w => un2 fun A => un2 fun R => un2 fun h => un2 fun g => un2 fun d => un2 fun t => un2 fun os rest => ?zP prog w A R h g d t os rest) ?zn ?zk (prog, w, A, R, h, g, d, t, os, rest)
  case zn => walk_at "ne"
  clear prog w A R h g d t os rest
  refine (?zj : AtE _ ?zE)
  refine (?zF : ∀ prog w A R h g d t os rest, ?zP prog w A R h g d t os rest) ?zE.1 ?zE.2.1 ?zE.2.2.1 ?zE.2.2.2.1 ?zE.2.2.2.2.1 ?zE.2.2.2.2.2.1 ?zE.2.2.2.2.2.2.1 ?zE.2.2.2.2.2.2.2.1 ?zE.2.2.2.2.2.2.2.2.1 ?zE.2.2.2.2.2.2.2.2.2
  intros prog w A R h g d t os rest
  intro Y hq
  obtain ⟨⟨oc, od, cd, sl, hC, e1, e2, e3⟩, hm, made, base, self, top, call, typ, istype⟩ := Y
  refine codeAny_call_builtin_code (Code.quiet_builtin _ (by decide +kernel)) ?_
  simp only [checkBuiltinCall, ln_kind, ln_split]
  repeat (first | simp only [bne_self_eq_false, Bool.false_eq_true, if_false] | lk)
  refine codeAny_builtin_stack PySem.F.entry_list_new rfl fun p st => ?_
  rw [Around.under_plainId PySem.F.plain_list_new _]
  have hown := owner_list_new
  simp only [hown]
  have hC' : ((h.push emptyDict).push (accObj h.objs.size [] 0)).get? 272 = some ⟨oc, od, .cls cd, sl⟩ := Heap.get?_push_of_some _ (Heap.get?_push_of_some _ hC)
  repeat (first | simp only [Bool.false_eq_true, if_false, Bool.not_true] | lk)
  rw [e2]
  rw [if_neg (by decide)]
  refine wpAny_pure (wpAny_pure ?_)
  rw [Heap.size_push]
  exact hq
theorem acc_core {rest : List Value} {init : Value} (Y : AccMk (model prog w) h) (hi : Looks (model prog w) h (typeLookup (.ref 272) "__init__") (some init))
    (hb : ∀ self, Looks (model prog w) h (bindSpecial init self) (init, [self]))
    (hq : codeAny (model prog w) (A.under (.builtin "type.__call__" ⟨.ref 272 :: rest, []⟩)) (.call init ⟨.ref (h.objs.size + 1) :: rest, []⟩) (InitBack (h.objs.size + 1) R) ⟨(h.push emptyDict).push (accObj h.objs.size [] 0), g, d, t, os⟩) :
    codeAny (model prog w) A (.call (.ref 272) ⟨rest, []⟩) R ⟨h, g, d, t, os⟩ := by
  revert prog w A R h g d t os rest init
  refine (?zh : ∀ prog w A R h g d t os rest init, (?zP : _ → _ → _ → _ → _ → _ → _ → _ → _ → _ → _ → Prop) prog w A R h g d t os rest init)
  refine fun prog w A R h g d t os rest init => allE (P := un2 fun prog => un2 fun w => un2 fun A => un2 fun R => un2 fun h => un2 fun g => un2 fun d => un2 fun t => un2 fun os => un2 fun rest init => ?zP prog w A R h g d t os rest init) ?zn ?zk (prog, w, A, R, h, g, d, t, os, rest, init)
  case zn => walk_at "ne"
  clear prog w A R h g d t os rest init
  refine (?zj : AtE _ ?zE)
  refine (?zF : ∀ prog w A R h g d t os rest init, ?zP prog w A R h g d t os rest init) ?zE.1 ?zE.2.1 ?zE.2.2.1 ?zE.2.2.2.1 ?zE.2.2.2.2.1 ?zE.2.2.2.2.2.1 ?zE.2.2.2.2.2.2.1 ?zE.2.2.2.2.2.2.2.1 ?zE.2.2.2.2.2.2.2.2.1 ?zE.2.2.2.2.2.2.2.2.2.1 ?zE.2.2.2.2.2.2.2.2.2.2
  intros prog w A R h g d t os rest init
  intro Y hi hb hq
  have Y' := Y
  obtain ⟨⟨oc, od, cd, sl, hC, e1, e2, e3⟩, hm, made, base, self, top, call, typ, istype⟩ := Y
  refine codeAny_of_tree ?_
  show wpAny _ _ (callAny (.ref 272) _) _ _ _
  refine nd_load hC ?_
  show wpAny _ _ (callAny.viaDunder (.ref 272) _) _ _ _
  unfold callAny.viaDunder
  refine wpAny_bind (call.at ?_)
  dsimp only
  rw [tc_bind]
  refine wpAny_bind (wpAny_pure (wpAny_bind (wpAny_pure ?_)))
  refine wpAny_pure (a := Fin.again (.call (.builtin "type.__call__") ⟨.ref 272 :: rest, []⟩)) (And.intro rfl ?_)
  refine codeAny_call_builtin_at (Code.quiet_builtin _ (by decide +kernel)) entry_typeCall (check_slot tc_kind tc_split typ (tc_args _ _ _) ?_)
  unfold Builtin.«type.__call__»
  have k : ∀ b o, h.get? b = some o → ((h.push emptyDict).push (accObj h.objs.size [] 0)).get? b = some o := fun b o e => Heap.get?_push_of_some _ (Heap.get?_push_of_some _ e)
  have hx : ((h.push emptyDict).push (accObj h.objs.size [] 0)).get? (h.objs.size + 1) = some (accObj h.objs.size [] 0) := by heap_get
  have t1 : Looks (model prog w) ((h.push emptyDict).push (accObj h.objs.size [] 0)) (typeOf (.ref (h.objs.size + 1))) (.ref 272) := (Looks.ld hx).andThen .now
  have s1 := self.keeps k
  have i1 := hi.keeps k
  have b1 := (hb (.ref (h.objs.size + 1))).keeps k
  repeat (first | simp only [List.isEmpty_cons, Bool.false_eq_true, if_false] | with_reducible refine wpAny_call ?_ | lk)
  refine acc_new Y' ?_
  unfold isInstance callSpecial? specialOf
  repeat (first | with_reducible refine wpAny_call ?_ | lk)
  refine codeAny_mono hq fun r s' z => ?_
  rcases r with e | (v | _ | _ | _) <;> first | exact z | exact z.elim | skip
  obtain ⟨rfl, z⟩ := z
  exact wpAny_pure (wpAny_pure z)
end
section
variable {prog : Program} {w : World} {A : Around} {E : Value → Shared → Prop} {s : Shared} {K : Frag} {h₀ : Heap} {L : Addr} {m : Str → Option Value} {news : List (Addr × Obj)} {Q : Value → Shared → Prop}
theorem call_acc {pos : List Value} {fI : Addr} (F : Fr h₀ L s.heap m) (X₀ : K.In h₀) (N : News h₀ L s.heap news) (hm : accMakes K = true) (hi : findIn K (.ref 272) "__init__" = some (some (.ref fI))) (hf : isFn K (.ref fI) = true)
    (h : ∀ x dx h', Fr h₀ L h' m → News h₀ L h' ((x, accObj dx [] 0) :: (dx, dictOf [] 0) :: news) → (∀ p ∈ news, p.1 < dx) → dx < x →
      codeAny (model prog w) (A.under (.builtin "type.__call__" ⟨.ref 272 :: pos, []⟩)) (.call (.ref fI) ⟨.ref x :: pos, []⟩) (InitBack x fun r s' => match r with | .ok (.ret v) => Q v s' | .ok _ => False | .error e => E e s') { s with heap := h' }) :
    wpAny (model prog w) A (call (.ref 272) pos []) Q E s := by
  have X := X₀.keeps F.keep
  refine wpAny_call ?_
  obtain ⟨hh, g, d, t, os⟩ := s
  refine acc_core (accMk_of X hm) (looks_findIn X hi) (fun self => bind_fn X self (beq_iff_eq.mp hf)) (h _ hh.objs.size _ ((F.push _).push _) ?_ (fun p hp => Heap.lt_size (N p hp).1) (Nat.lt_succ_self _))
  have := (N.push F emptyDict).push (F.push _) (accObj hh.objs.size [] 0)
  rwa [Heap.size_push] at this
end
end
section
open PySem PySem.W PyProof.Rows PySem.Flt PySem.Calls Builtin.ObjectAttr Builtin
set_option maxHeartbeats 1000000
theorem pick_from (vs : List Value) (i : Int) (h0 : 0 ≤ i) : slicePick vs.toArray (some i) none none = (vs.drop i.toNat).toArray := by
  have := slicePick_from' vs.toArray i.toNat
  rw [show ((i.toNat : Nat) : Int) = i by omega] at this
  simpa using this
section
variable {prog : Program} {w : World} {M : Model} {A : Around} {E : Value → Shared → Prop} {s : Shared} {K : Frag} {x dx q sl l2 C : Addr} {vs us : List Value} {n n2 : Nat} {es : List DictEntry} {ne : Nat} {h₀ : Heap} {L : Addr} {m : Str → Option Value} {news news' : List (Addr × Obj)} {g : Obj → List (Addr × Obj)} {vl vu : Value} {lo hi : Option Int} {ox : Obj} {od : Option Obj}
theorem sub_none {vs : Value} {Q : Option Int → Shared → Prop} (hs : s.heap.IsSliceOf sl vl vu vs) (h : Q none s) : wpAny M A (Builtin.List.listSubscript? (.ref sl)) Q E s := by
  obtain ⟨o, ho, hc, hd⟩ := hs
  unfold Builtin.List.listSubscript?
  refine wpAny_bind (wpAny_specialOf (T := "slice") ⟨o, ho, hc⟩ slice_no_index ?_)
  simp only [Option.isNone_none, if_true]
  exact wpAny_pure h
theorem parts_two {Q : Value × Value × Value → Shared → Prop} (hs : s.heap.IsSliceOf sl vl vu .none) (pl : IsPart vl lo) (pu : IsPart vu hi) (h : Q (rawPart lo, rawPart hi, rawPart none) s) : wpAny M A (Builtin.List.listSliceParts (.ref sl)) Q E s := by
  obtain ⟨o, ho, hc, hd⟩ := hs
  rw [listSliceParts_eq]
  refine wpAny_bind (wpAny_field ho hd (x := .none) rfl (wpAny_bind (wpAny_listPart .none ?_)))
  rw [if_neg (by decide)]
  refine wpAny_bind (wpAny_field ho hd (x := vl) rfl (wpAny_bind (wpAny_listPart pl ?_)))
  exact wpAny_bind (wpAny_field ho hd (x := vu) rfl (wpAny_bind (wpAny_listPart pu (wpAny_pure h))))
theorem special_bi {name : Str} {id : String} {args : List Value} {Q : Option Value → Shared → Prop} (X : K.In s.heap) (I : InstAt s.heap x ox C od) (hs : findIn K (.ref C) name = some (some (.builtin id))) (hb : ∀ self, bindSpecial (.builtin id) self = pure (.builtin id, [self]))
    (h : wpAny M A (call (.builtin id) (.ref x :: args)) (fun v => Q (some v)) E s) : wpAny M A (callSpecial? (.ref x) name args) Q E s := by
  refine wpAny_bind (wpAny_bind (I.type.here ((looks_findIn X hs).here (wpAny_holding (wpAny_bind ?_)))))
  rw [hb]
  exact wpAny_pure (wpAny_bind (wpAny_mono h (fun _ _ z => wpAny_pure z) fun _ _ z => z))
theorem seqKey_acc {k : Value} {name : Str} {Q : Value → Shared → Prop} (X : K.In s.heap) (I : InstAt s.heap x ox C od) (hq : noSeq K C = true) (h : Q k s) : wpAny M A (sequenceKey (.ref x) k name) Q E s := by
  unfold sequenceKey
  refine wpAny_bind (I.type.here ?_)
  refine wpAny_bind ((anyM_none X hq).here ?_)
  rw [if_pos (show (!false) = true from rfl)]
  exact wpAny_pure h
theorem acc_tail {value slice : PySem.Expr} {i : Value} {Q : Value → Shared → Prop} (X : K.In s.heap) (I : InstAt s.heap x ox C od) (hq : noSeq K C = true) (hs : findIn K (.ref C) "__getitem__" = some (some (.builtin "list.__getitem__")))
    (hg : wpAny (model prog w) A (call (.builtin "list.__getitem__") [.ref x, i]) Q E s)
    (hsub : ∃ ops, subscripted slice false (.ref x) i = operate ops (getItem (.ref x) i)) : wpAny (model prog w) A (subscriptTail value slice (.ref x) i) Q E s := by
  obtain ⟨ops, hsub⟩ := hsub
  unfold subscriptTail getitemInPython
  refine wpAny_bind (wpAny_bind (wpAny_bind (I.type.here ((looks_findIn X hs).here ?_))))
  have fin : wpAny (model prog w) A (subscripted slice false (.ref x) i) (fun r s₃ => wpAny (model prog w) A (letTemporaryGo value (.ref x) r >>= fun _ => pure r) Q E s₃) E s := by
    rw [hsub]
    refine wpAny_operating ?_
    unfold getItem
    refine wpAny_holding (wpAny_bind (seqKey_acc X I hq ?_))
    refine wpAny_bind (special_bi X I hs slot_list_getitem.bind (wpAny_mono hg (fun r s₃ h₃ => wpAny_pure (wpAny_bind (wpAny_letTemporaryGo (wpAny_pure h₃)))) fun _ _ z => z))
  exact wpAny_pure (wpAny_bind fin)
theorem acc_item {value slice : PySem.Expr} {k : Int} {u : Tok} {v : Value} {Q : Value → Shared → Prop} (F : Fr h₀ L s.heap m) (X₀ : K.In h₀) (N : News h₀ L s.heap news) (hx : (x, accObj dx vs n) ∈ news) (hdx : (dx, dictOf es ne) ∈ news) (hm : subIn K (.ref 272) (.type "list") = some true)
    (hq : noSeq K 272 = true) (hs : findIn K (.ref 272) "__getitem__" = some (some (.builtin "list.__getitem__"))) (h0 : 0 ≤ k) (h1 : k < 2 ^ 63) (hv : vs[k.toNat]? = some v) (h : Q v s)
    (hsub : ∃ ops, subscripted slice false (.ref x) (.int k u) = operate ops (getItem (.ref x) (.int k u))) : wpAny (model prog w) A (subscriptTail value slice (.ref x) (.int k u)) Q E s := by
  have X := X₀.keeps F.keep
  have hxo := (N _ hx).1
  refine acc_tail X (acc_inst N hx hdx) hq hs ?_ hsub
  refine call_meth0 (by decide +kernel) entry_list_getitem (owner := "list") (n := "__getitem__") (by decide +kernel) (by decide +kernel) (acc_isList X hm hxo) (args_list_getitem _ _) ?_
  show wpAny _ _ (Builtin.List.listSubscript? (.int k u) >>= _) _ _ s
  refine wpAny_bind (wpAny_listSubscript_int (fitsIndex_of h0 h1) ?_)
  clear h1
  obtain ⟨j, rfl⟩ := Int.eq_ofNat_of_zero_le h0
  have hv' : vs.toArray[j]? = some v := by simpa using hv
  show wpAny _ _ ((seqItemAt x j >>= fun r => pure (r.map (j, ·))) >>= _) _ _ s
  refine wpAny_bind (wpAny_bind (wpAny_seqItemAt hxo rfl (wpAny_pure ?_)))
  rw [hv']
  first
    | exact wpAny_bind (wpAny_pure (wpAny_pure ⟨v, rfl, h⟩))
    | exact wpAny_pure ⟨v, rfl, h⟩
theorem acc_slice {value slice : PySem.Expr} {i : Int} {u : Tok} {Q : Value → Shared → Prop} (F : Fr h₀ L s.heap m) (X₀ : K.In h₀) (N : News h₀ L s.heap news) (hx : (x, accObj dx vs n) ∈ news) (hdx : (dx, dictOf es ne) ∈ news) (hm : subIn K (.ref 272) (.type "list") = some true)
    (hq : noSeq K 272 = true) (hs : findIn K (.ref 272) "__getitem__" = some (some (.builtin "list.__getitem__"))) (h0 : 0 ≤ i) (hlen : vs.length ≤ 1000)
    (h : ∀ D h', Fr h₀ L h' m → News h₀ L h' ((D, listOf (vs.drop i.toNat).toArray 0) :: news) → (∀ p ∈ news, p.1 < D) → Q (.ref D) { s with heap := h' })
    (hsub : ∃ ops, subscripted slice false (.ref x) (.ref s.heap.objs.size) = operate ops (getItem (.ref x) (.ref s.heap.objs.size))) :
    wpAny (model prog w) A (subscriptTail value slice (.ref x) (.ref s.heap.objs.size)) Q E { s with heap := s.heap.push { cls := .type "slice", data := .fields #[.int i u, .none, .none] } } := by
  generalize hH : s.heap.push { cls := .type "slice", data := .fields #[.int i u, .none, .none] } = H
  have hk : ∀ b o, s.heap.get? b = some o → H.get? b = some o := fun b o e => hH ▸ Heap.get?_push_of_some _ e
  have hsz : H.objs.size = s.heap.objs.size + 1 := by rw [← hH, Heap.size_push]
  have hS : H.IsSliceOf s.heap.objs.size (.int i u) .none .none := hH ▸ ⟨_, Heap.get?_push_size _ rfl, rfl, rfl⟩
  have F₁ : Fr h₀ L H m := F.grownK hk
  have N₁ : News h₀ L H news := N.grown hk
  have X : K.In H := X₀.keeps F₁.keep
  have hxo := (N₁ _ hx).1
  obtain ⟨o, ho, hc, hd⟩ := id hS
  refine acc_tail (s := { s with heap := H }) X (acc_inst N₁ hx hdx) hq hs ?_ hsub
  refine call_meth0 (by decide +kernel) entry_list_getitem (owner := "list") (n := "__getitem__") (by decide +kernel) (by decide +kernel) (acc_isList X hm hxo) (args_list_getitem _ _) ?_
  show wpAny _ _ (Builtin.List.listSubscript? (.ref s.heap.objs.size) >>= _) _ _ _
  refine wpAny_bind (sub_none (s := { s with heap := H }) hS ?_)
  show wpAny _ _ (typeOf (.ref s.heap.objs.size) >>= _) _ _ _
  refine wpAny_bind (wpAny_typeOf (T := "slice") ⟨o, ho, hc⟩ ?_)
  rw [if_neg (by decide)]
  refine wpAny_bind (parts_two (s := { s with heap := H }) hS (.int i u) .none ?_)
  refine wpAny_bind (wpAny_listItems hxo rfl ?_)
  refine wpAny_bind (wpAny_of_eq (sliceIndices_raw (some i) none none vs.toArray.size (by simp)) ?_)
  have e : ((sliceRange (sliceBounds (some i) none none vs.toArray.size).1 (sliceBounds (some i) none none vs.toArray.size).2.1 (sliceBounds (some i) none none vs.toArray.size).2.2).filterMap (vs.toArray[·]?)).toArray = (vs.drop i.toNat).toArray := pick_from vs i h0
  dsimp only
  rw [e]
  refine wpAny_bind (wpAny_newObj_type (wpAny_pure ⟨_, rfl, ?_⟩) (by show (vs.drop i.toNat).toArray.size ≤ sizeLine; rw [List.size_toArray, List.length_drop, sizeLine_eq]; omega))
  exact h _ _ (F₁.push _) (N₁.push F₁ _) (fun p hp => Nat.lt_of_lt_of_eq (Nat.lt_succ_of_lt (Heap.lt_size (N p hp).1)) hsz.symm)
theorem acc_setslice {lo : Option Int} {vl : Value} {Q : Unit → Shared → Prop} (a : Nat) (F : Fr h₀ L s.heap m) (X₀ : K.In h₀) (N : News h₀ L s.heap news) (U : UpdF x (accObj dx vs n) news g) (hdx : (dx, dictOf es ne) ∈ news) (hl2 : (l2, listOf us.toArray n2) ∈ news) (hm : subIn K (.ref 272) (.type "list") = some true)
    (hq : noSeq K 272 = true) (hs : findIn K (.ref 272) "__setitem__" = some (some (.builtin "list.__setitem__"))) (pl : IsPart vl lo) (ha : (lo = none ∧ a = 0) ∨ (lo = some (a : Int) ∧ a ≤ vs.length)) (hlen : vs.length ≤ 1000) (hlen2 : us.length ≤ 1000)
    (h : ∀ h' n', Fr h₀ L h' m → News h₀ L h' (g (accObj dx (vs.take a ++ us) n')) → Q () { s with heap := h' }) :
    wpAny (model prog w) A (setItem (.ref x) (.ref s.heap.objs.size) (.ref l2)) Q E { s with heap := s.heap.push { cls := .type "slice", data := .fields #[vl, .none, .none] } } := by
  revert prog w A E s K x dx l2 vs us n n2 es ne h₀ L m news g lo vl Q a
  refine (?zh : ∀ prog w A E s K x dx l2 vs us n n2 es ne h₀ L m news g lo vl Q a, (?zP : _ → _ → _ → _ → _ → _ → _ → _ → _ → _ → _ → _ → _ → _ → _ → _ → _ → _ → _ → _ → _ → _ → _ → _ → Prop) prog w A E s K x dx l2 vs us n n2 es ne h₀ L m news g lo vl Q a)
  refine fun prog w A E s K x dx l2 vs us n n2 es ne h₀ L m news g lo vl Q a => allE (P := un2 fun prog => un2 fun w => un2 fun A => un2 fun E => un2 fun s => un2 fun K => un2 fun x => un2 fun dx => un2 fun l2 => un2 fun vs => un2 fun us => un2 fun n => un2 fun n2 => un2 fun es => un2 fun ne => un2 fun h₀ => un2 fun L => un2 fun m => un2 fun news => un2 fun g => un2 fun lo => un2 fun vl => un2 fun Q a => ?zP prog w A E s K x dx l2 vs us n n2 es ne h₀ L m news g lo vl Q a) ?zn ?zk (prog, w, A, E, s, K, x, dx, l2, vs, us, n, n2, es, ne, h₀, L, m, news, g, lo, vl, Q, a)
  case zn => walk_at "ne"
  clear prog w A E s K x dx l2 vs us n n2 es ne h₀ L m news g lo vl Q a
  refine (?zj : AtE _ ?zE)
  refine (?zF : ∀ prog w A E s K x dx l2 vs us n n2 es ne h₀ L m news g lo vl Q a, ?zP prog w A E s K x dx l2 vs us n n2 es ne h₀ L m news g lo vl Q a) ?zE.1 ?zE.2.1 ?zE.2.2.1 ?zE.2.2.2.1 ?zE.2.2.2.2.1 ?zE.2.2.2.2.2.1 ?zE.2.2.2.2.2.2.1 ?zE.2.2.2.2.2.2.2.1 ?zE.2.2.2.2.2.2.2.2.1 ?zE.2.2.2.2.2.2.2.2.2.1 ?zE.2.2.2.2.2.2.2.2.2.2.1 ?zE.2.2.2.2.2.2.2.2.2.2.2.1 ?zE.2.2.2.2.2.2.2.2.2.2.2.2.1 ?zE.2.2.2.2.2.2.2.2.2.2.2.2.2.1 ?zE.2.2.2.2.2.2.2.2.2.2.2.2.2.2.1 ?zE.2.2.2.2.2.2.2.2.2.2.2.2.2.2.2.1 ?zE.2.2.2.2.2.2.2.2.2.2.2.2.2.2.2.2.1 ?zE.2.2.2.2.2.2.2.2.2.2.2.2.2.2.2.2.2.1 ?zE.2.2.2.2.2.2.2.2.2.2.2.2.2.2.2.2.2.2.1 ?zE.2.2.2.2.2.2.2.2.2.2.2.2.2.2.2.2.2.2.2.1 ?zE.2.2.2.2.2.2.2.2.2.2.2.2.2.2.2.2.2.2.2.2.1 ?zE.2.2.2.2.2.2.2.2.2.2.2.2.2.2.2.2.2.2.2.2.2.1 ?zE.2.2.2.2.2.2.2.2.2.2.2.2.2.2.2.2.2.2.2.2.2.2.1 ?zE.2.2.2.2.2.2.2.2.2.2.2.2.2.2.2.2.2.2.2.2.2.2.2
  intros prog w A E s K x dx l2 vs us n n2 es ne h₀ L m news g lo vl Q a
  intro F X₀ N U hdx hl2 hm hq hs pl ha hlen hlen2 h
  generalize hH : s.heap.push { cls := .type "slice", data := .fields #[vl, .none, .none] } = H
  have hk : ∀ b o, s.heap.get? b = some o → H.get? b = some o := fun b o e => hH ▸ Heap.get?_push_of_some _ e
  have hS : H.IsSliceOf s.heap.objs.size vl .none .none := hH ▸ ⟨_, Heap.get?_push_size _ rfl, rfl, rfl⟩
  have F₁ : Fr h₀ L H m := F.grownK hk
  have N₁ : News h₀ L H news := N.grown hk
  have X : K.In H := X₀.keeps F₁.keep
  have hx := UpdF.mem' U
  have hxo := (N₁ _ hx).1
  have hlo := (N₁ _ hl2).1
  have hxl : x ≠ l2 := fun e => by rw [e] at hxo; rw [hlo] at hxo; cases hxo
  obtain ⟨o, ho, hc, hd⟩ := id hS
  have hst : sliceBounds lo none none vs.toArray.size = ((a : Int), (vs.length : Int), 1) := by
    unfold sliceBounds
    rcases ha with ⟨rfl, rfl⟩ | ⟨rfl, h2⟩
    · simp
    · simp; omega
  obtain ⟨n', F', N'⟩ := acc_upd (s := { s with heap := H }) (f := fun xs => xs.extract 0 (a : Int).toNat ++ us.toArray ++ xs.extract (max (a : Int) (vs.length : Int)).toNat xs.size) (us := vs.take a ++ us) F₁ N₁ (by
    have e1 : (max (a : Int) (vs.length : Int)).toNat = vs.length := by rcases ha with ⟨_, rfl⟩ | ⟨_, h2⟩ <;> omega
    rw [e1]; simp) U
  unfold setItem
  refine wpAny_holding (wpAny_bind (seqKey_acc (s := { s with heap := H }) X (acc_inst N₁ hx hdx) hq ?_))
  refine wpAny_bind (special_bi (s := { s with heap := H }) X (acc_inst N₁ hx hdx) hs slot_list_setitem.bind ?_)
  refine call_slot0 (by decide +kernel) entry_list_setitem (owner := "list") (n := "__setitem__") (by decide +kernel) (by decide +kernel) (acc_isList X hm hxo) (args_list_setitem _ _ _) ?_
  show wpAny _ _ (Builtin.List.listSubscript? (.ref s.heap.objs.size) >>= _) _ _ _
  refine wpAny_bind (sub_none (s := { s with heap := H }) hS ?_)
  show wpAny _ _ (typeOf (.ref s.heap.objs.size) >>= _) _ _ _
  refine wpAny_bind (wpAny_typeOf (T := "slice") ⟨o, ho, hc⟩ ?_)
  rw [if_neg (by decide)]
  refine wpAny_bind (parts_two (s := { s with heap := H }) hS pl .none ?_)
  have hsame : Builtin.List.listSameRef (.ref x) (.ref l2) = false := by simp [Builtin.List.listSameRef, hxl]
  dsimp only
  rw [hsame]
  simp only [Bool.false_eq_true, if_false]
  unfold Builtin.List.listAllItems
  refine wpAny_bind (wpAny_bind (wpAny_typeOf (T := "list") ⟨_, hlo, rfl⟩ ?_))
  rw [if_pos (by decide +kernel)]
  refine wpAny_listItems hlo rfl ?_
  refine wpAny_bind (wpAny_listItems hxo rfl ?_)
  refine wpAny_bind (wpAny_of_eq (sliceIndices_raw lo none none vs.toArray.size (by simp)) ?_)
  rw [hst]
  dsimp only
  rw [if_pos (by decide)]
  refine wpAny_bind (wpAny_rule ?_)
  rw [if_neg (by unfold Builtin.List.listTooLong; simp only [List.size_toArray, sizeLine_eq]; simp; omega)]
  show wpAny _ _ (updateSeq x (fun xs => xs.extract 0 (a : Int).toNat ++ us.toArray ++ xs.extract (max (a : Int) (vs.length : Int)).toNat xs.size) >>= _) _ _ _
  refine wpAny_bind (wpAny_updateSeq hxo rfl ?_ (by rw [List.size_toArray, sizeLine_eq]; omega) ?_)
  · refine wpAny_bind (wpAny_letGo ?_)
    exact wpAny_pure ⟨_, rfl, wpAny_pure (h _ n' F' N')⟩
  · simp only [Array.size_append, Array.size_extract, List.size_toArray, sizeLine_eq]
    omega
end
end
section
open PySem PySem.W PyProof.Rows PySem.Flt PySem.Calls Builtin.ObjectAttr Builtin
set_option maxHeartbeats 1000000
noncomputable def accGet (K : Frag) : Bool := findIn K (.ref 272) "__getattribute__" == some (some (.builtin "list.__getattribute__")) && findIn K (.ref 272) "__getattr__" == some none
section
variable {prog : Program} {w : World} {A : Around} {E : Value → Shared → Prop} {s : Shared} {K : Frag} {x dx q : Addr} {vs : List Value} {n : Nat} {es : List DictEntry} {ne : Nat} {h₀ : Heap} {L : Addr} {m : Str → Option Value} {news : List (Addr × Obj)}
theorem acc_meth {name : Str} {f T : Value} {pl : Sem Bool} {Q : Value × List Value → Shared → Prop} (F : Fr h₀ L s.heap m) (X₀ : K.In h₀) (N : News h₀ L s.heap news) (hx : (x, accObj dx vs n) ∈ news) (hdx : (dx, dictOf es ne) ∈ news)
    (hg : accGet K = true) (hf : findIn K (.ref 272) name = some (some f)) (ht : ∀ h, K.In h → Looks (model prog w) h (typeOf f) T) (hT : T = .type "function" ∨ T = .type "method_descriptor") (hl : getL name es = some none) (h : Q (f, [.ref x]) s) : wpAny (model prog w) A (getMethod (.ref x) name pl) Q E s := by
  have X := X₀.keeps F.keep
  have I := acc_inst N hx hdx
  obtain ⟨g1, g2⟩ := Bool.and_eq_true_iff.mp hg
  have hga := beq_iff_eq.mp g1
  have hk := beq_iff_eq.mp g2
  have hcan := PySem.canon_list_getattribute
  unfold getMethod specialOf
  refine wpAny_bind (wpAny_bind (I.type.here ((looks_findIn X hga).here ?_)))
  dsimp only
  rw [hcan, if_neg (by decide)]
  refine wpAny_bind (wpAny_bind (I.type.here ((looks_findIn X hk).here ?_)))
  refine wpAny_bind (wpAny_bind (I.type.here ((looks_findIn X hf).here (wpAny_bind ((ht _ X).here ?_)))))
  rw [if_neg (by rcases hT with rfl | rfl <;> decide +kernel)]
  refine wpAny_bind (wpAny_loadPart I.at_ ?_)
  refine wpAny_bind (wpAny_bind (wpAny_loadPart (N _ hdx).1 ?_))
  rw [nsLook_of (show lookIn name (dictOf es ne) = some none by rw [lookIn_dict, hl])]
  exact wpAny_pure (wpAny_bind (wpAny_rule (wpAny_pure h)))
theorem acc_methF {name : Str} {f : Addr} {pl : Sem Bool} {Q : Value × List Value → Shared → Prop} (F : Fr h₀ L s.heap m) (X₀ : K.In h₀) (N : News h₀ L s.heap news) (hx : (x, accObj dx vs n) ∈ news) (hdx : (dx, dictOf es ne) ∈ news)
    (hg : accGet K = true) (hf : findIn K (.ref 272) name = some (some (.ref f))) (ht : isFn K (.ref f) = true) (hl : getL name es = some none) (h : Q (.ref f, [.ref x]) s) : wpAny (model prog w) A (getMethod (.ref x) name pl) Q E s :=
  acc_meth F X₀ N hx hdx hg hf (fun _ X => looks_typeIn X (beq_iff_eq.mp ht)) (.inl rfl) hl h
theorem acc_methB {name : Str} {i : String} {pl : Sem Bool} {Q : Value × List Value → Shared → Prop} (F : Fr h₀ L s.heap m) (X₀ : K.In h₀) (N : News h₀ L s.heap news) (hx : (x, accObj dx vs n) ∈ news) (hdx : (dx, dictOf es ne) ∈ news)
    (hg : accGet K = true) (hf : findIn K (.ref 272) name = some (some (.builtin i))) (ht : typeOf (.builtin i) = pure (.type "method_descriptor")) (hl : getL name es = some none) (h : Q (.builtin i, [.ref x]) s) : wpAny (model prog w) A (getMethod (.ref x) name pl) Q E s :=
  acc_meth F X₀ N hx hdx hg hf (fun _ _ => Looks.of_pure ht) (.inr rfl) hl h
theorem acc_get {name : Str} {expr : Bool} {v : Value} {Q : Value → Shared → Prop} (F : Fr h₀ L s.heap m) (X₀ : K.In h₀) (N : News h₀ L s.heap news) (hx : (x, accObj dx vs n) ∈ news) (hdx : (dx, dictOf es ne) ∈ news)
    (hg : accGet K = true) (hm : subIn K (.ref 272) (.type "list") = some true) (hh : hasDictIn K 272 = true) (ha : findIn K (.ref 272) name = some none) (hl : getL name es = some (some v)) (hv : handedIn v = true) (h : Q v { s with toks := s.toks + 1 }) :
    wpAny (model prog w) A (getAttr (.ref x) name expr) Q E s := by
  have X := X₀.keeps F.keep
  have I := acc_inst N hx hdx
  have hxo := (N _ hx).1
  obtain ⟨g1, g2⟩ := Bool.and_eq_true_iff.mp hg
  have hga := beq_iff_eq.mp g1
  have hk := beq_iff_eq.mp g2
  have ff := findObj_own (od := dictOf es ne) hh ha (by rfl) (by rw [lookIn_dict]; exact hl)
  obtain ⟨sh, sg, sd, st, so⟩ := s
  have L0 := I.type (M := model prog w)
  unfold getAttr getAttrBy
  refine wpAny_bind (wpAny_mkText (wpAny_holding (wpAny_bind (L0.at (wpAny_bind ((looks_findIn X hga).at ?_))))))
  dsimp only
  rw [if_neg (by simp)]
  unfold getAttrByItsOwn hookBefore callGetattribute
  refine wpAny_bind (wpAny_ite ?_)
  rw [if_pos (by rfl)]
  refine (looks_findIn X hk).at ?_
  refine wpAny_bind (wpAny_attempt (wpAny_holding ?_))
  rw [show (expr && onTheHeap (Value.builtin "list.__getattribute__")) = false from Bool.and_false _, if_neg (by decide)]
  unfold boundAndCalled
  rw [PySem.F.slot_list_getattribute.bind]
  refine wpAny_bind (wpAny_pure ?_)
  show wpAny _ _ (call (.builtin "list.__getattribute__") [.ref x, .str name st]) _ _ _
  refine call_slot0 (by decide +kernel) PySem.F.entry_list_ga (owner := "list") (n := "__getattribute__") (by decide +kernel) (by decide +kernel) (acc_isList X hm hxo) (PySem.F.args_list_getattribute_2 _ _) ?_
  have L1 := looks_find (M := model prog w) X I ff
  unfold Builtin.«object.__getattribute__»
  refine wpAny_bind (wpAny_pure (wpAny_bind (wpAny_pure (wpAny_bind (L0.at (wpAny_bind (L1.at ?_)))))))
  refine wpAny_pure ⟨_, rfl, ?_⟩
  show wpAny _ _ (handedOut v) _ _ _
  rw [handedOut_of hv]; exact wpAny_pure h
theorem acc_setall {l2 : Addr} {us : List Value} {n2 : Nat} {g : Obj → List (Addr × Obj)} {Q : Unit → Shared → Prop} (F : Fr h₀ L s.heap m) (X₀ : K.In h₀) (N : News h₀ L s.heap news) (U : UpdF x (accObj dx vs n) news g) (hdx : (dx, dictOf es ne) ∈ news) (hl2 : (l2, listOf us.toArray n2) ∈ news) (hm : subIn K (.ref 272) (.type "list") = some true)
    (hq : noSeq K 272 = true) (hs : findIn K (.ref 272) "__setitem__" = some (some (.builtin "list.__setitem__"))) (hlen : vs.length ≤ 1000) (hlen2 : us.length ≤ 1000)
    (h : ∀ h' n', Fr h₀ L h' m → News h₀ L h' (g (accObj dx us n')) → Q () { s with heap := h' }) :
    wpAny (model prog w) A (setItem (.ref x) (.ref s.heap.objs.size) (.ref l2)) Q E { s with heap := s.heap.push { cls := .type "slice", data := .fields #[.none, .none, .none] } } :=
  acc_setslice 0 F X₀ N U hdx hl2 hm hq hs .none (.inl ⟨rfl, rfl⟩) hlen hlen2 (by simpa using h)
theorem acc_delfrom {l2 : Addr} {i : Int} {u : Tok} {n2 : Nat} {g : Obj → List (Addr × Obj)} {Q : Unit → Shared → Prop} (F : Fr h₀ L s.heap m) (X₀ : K.In h₀) (N : News h₀ L s.heap news) (U : UpdF x (accObj dx vs n) news g) (hdx : (dx, dictOf es ne) ∈ news) (hl2 : (l2, listOf [].toArray n2) ∈ news) (hm : subIn K (.ref 272) (.type "list") = some true)
    (hq : noSeq K 272 = true) (hs : findIn K (.ref 272) "__setitem__" = some (some (.builtin "list.__setitem__"))) (hlen : vs.length ≤ 1000) (h0 : 0 ≤ i) (h1 : i ≤ vs.length)
    (h : ∀ h' n', Fr h₀ L h' m → News h₀ L h' (g (accObj dx (vs.take i.toNat) n')) → Q () { s with heap := h' }) :
    wpAny (model prog w) A (setItem (.ref x) (.ref s.heap.objs.size) (.ref l2)) Q E { s with heap := s.heap.push { cls := .type "slice", data := .fields #[.int i u, .none, .none] } } := by
  have e : i = ((i.toNat : Nat) : Int) := by omega
  refine acc_setslice i.toNat F X₀ N U hdx hl2 hm hq hs (.int i u) (.inr ⟨congrArg some e, by omega⟩) hlen (by simp) (by simpa using h)
end
end
section
open PySem PySem.W PyProof.Rows PySem.Flt PySem.Calls
set_option maxHeartbeats 1000000
theorem sum_const_le {l : List Nat} {k : Nat} (h : ∀ x ∈ l, x ≤ k) : l.sum ≤ l.length * k := by
  induction l with
  | nil => simp
  | cons a r ih =>
    have h1 := ih fun x hx => h x (List.mem_cons_of_mem _ hx)
    have h2 := h a (.head _)
    rw [List.sum_cons, List.length_cons, Nat.add_mul, Nat.one_mul]
    omega
theorem chunk_len {d : Str} (h : d.length = 1) : (Txt.join (Str.ofString "") [Str.ofString " ", d]).length = 2 := by
  unfold Txt.join
  rw [size_glued]
  have e0 : (Str.ofString " ").length = 1 := by decide
  have e1 : (Str.ofString "").length = 0 := by decide
  simp only [List.map_cons, List.map_nil, List.sum_cons, List.sum_nil, List.length_cons, List.length_nil, e0, e1, h]
  rfl
section
variable {prog : Program} {w : World} {A : Around} {E : Value → Shared → Prop} {s : Shared} {h₀ : Heap} {L KK a : Addr} {n : Nat} {m : Str → Option Value} {Fv : Nat → Value → Prop} {news : List (Addr × Obj)}
theorem join_gen {sep : Str} {t : Tok} {Q : Value → Shared → Prop} (Fh : Fr h₀ L s.heap m) (N : News h₀ L s.heap news) (X : Gen prog w A KK a n Fv s) (hLK : L ≤ KK) (hNK : ∀ p ∈ news, p.1 ≤ KK) (tx : Nat → Str) (htx : ∀ j v, Fv j v → ∃ u, v = .str (tx j) u)
    (hlen : ∀ j, j < n → (tx j).length ≤ 1000) (hsep : sep.length ≤ 10) (hn : n ≤ 1000)
    (hQ : ∀ h' g' tk' t', (AllBare s.gens → AllBare g') → Fr h₀ L h' m → News h₀ L h' news → Q (.str (Txt.join sep ((List.range n).map tx)) t') { s with heap := h', gens := g', toks := tk' }) :
    wpAny (model prog w) A (call (.builtin "str.join") [.str sep t, .ref a]) Q E s := by
  obtain ⟨fp, wr, g, St, W, hst, hT, ha, hfp, hwr⟩ := X
  have W := W.in4_2
  have hok : JoinOk sep ((List.range n).map tx) = true := by
    refine joinOk_of ?_
    have h1 := sum_const_le (l := ((List.range n).map tx).map (·.length)) (k := 1000) (by
      intro x hx
      obtain ⟨y, hy, rfl⟩ := List.mem_map.mp hx
      obtain ⟨j, hj, rfl⟩ := List.mem_map.mp hy
      exact hlen j (List.mem_range.mp hj))
    simp only [List.length_map, List.length_range] at h1 ⊢
    have h2 : n * 1000 ≤ 1000 * 1000 := Nat.mul_le_mul_right _ hn
    have h3 : n * sep.length ≤ 1000 * 10 := Nat.mul_le_mul hn hsep
    omega
  refine SC.joinGen W hT hst hfp ha (fun j v hv => let ⟨u, e⟩ := htx j v hv; ⟨_, u, e⟩) (fun s' lt hm hacc => ?_) (by rw [sizeLine_eq]; omega)
  have hsz : lt.length = n := by simpa [strValues] using hacc.1
  have hl : lt.map (·.1) = (List.range n).map tx := by
    refine List.ext_getElem (by simp [hsz]) fun j h1 h2 => ?_
    have hj : j < lt.length := by simpa using h1
    obtain ⟨u, hv⟩ := htx j _ (hacc.2 j (.str lt[j].1 lt[j].2) (by simp [strValues, List.getElem?_eq_getElem hj]))
    injection hv with e1 _
    simp [e1]
  rw [hl]
  refine ⟨hok, fun t' k => ?_⟩
  obtain ⟨sh, sg, sd, st, so⟩ := s'
  obtain ⟨m1, m2, m3, m4, _⟩ := hm
  dsimp only at m1 m3 m4
  subst m3 m4
  exact hQ sh sg k t' (fun x => x.moved m2) ⟨Fh.ns.at' fun o e => m1 _ o (fun hm => Nat.lt_irrefl _ (Nat.lt_of_lt_of_le (hwr _ hm) hLK)) e, fun b o e => m1 b o (fun hm => Nat.lt_irrefl _ (Nat.lt_trans (Nat.lt_of_le_of_lt hLK (hwr b hm)) (Nat.lt_of_lt_of_le (Heap.lt_size e) Fh.above))) (Fh.keep b o e), Fh.above⟩
    (fun p hp => ⟨m1 _ _ (fun hm => Nat.lt_irrefl _ (Nat.lt_of_lt_of_le (hwr _ hm) (hNK p hp))) (N p hp).1, (N p hp).2⟩)
end
end
section
open PySem PySem.W PyProof.Rows PySem.Flt PySem.Calls Builtin
set_option maxHeartbeats 1000000
noncomputable def IntTruth (Q : Bool → Shared → Prop) (v : Value) (s' : Shared) : Prop := match v with
  | .int n _ => Q (n != 0) s'
  | _ => False
section
variable {prog : Program} {w : World} {A : Around} {E : Value → Shared → Prop} {s : Shared} {K : Frag} {x C L f : Addr} {h₀ : Heap} {m : Str → Option Value} {ox : Obj} {od : Option Obj}
theorem truthy_len {Q : Bool → Shared → Prop} (F : Fr h₀ L s.heap m) (X₀ : K.In h₀) (I : InstAt s.heap x ox C od) (hb : findIn K (.ref C) "__bool__" = some none) (hs : findIn K (.ref C) "__len__" = some (some (.ref f))) (hf : isFn K (.ref f) = true)
    (h : wpAny (model prog w) A.in1 (call (.ref f) [.ref x]) (W.LenBack (IntTruth Q)) E s) : wpAny (model prog w) A (truthy (.ref x)) Q E s := by
  revert prog w A E s K x C L f h₀ m ox od Q
  refine (?zh : ∀ prog w A E s K x C L f h₀ m ox od Q, (?zP : _ → _ → _ → _ → _ → _ → _ → _ → _ → _ → _ → _ → _ → _ → _ → Prop) prog w A E s K x C L f h₀ m ox od Q)
  refine fun prog w A E s K x C L f h₀ m ox od Q => allE (P := un2 fun prog => un2 fun w => un2 fun A => un2 fun E => un2 fun s => un2 fun K => un2 fun x => un2 fun C => un2 fun L => un2 fun f => un2 fun h₀ => un2 fun m => un2 fun ox => un2 fun od Q => ?zP prog w A E s K x C L f h₀ m ox od Q) ?zn ?zk (prog, w, A, E, s, K, x, C, L, f, h₀, m, ox, od, Q)
  case zn => walk_at "ne"
  clear prog w A E s K x C L f h₀ m ox od Q
  refine (?zj : AtE _ ?zE)
  refine (?zF : ∀ prog w A E s K x C L f h₀ m ox od Q, ?zP prog w A E s K x C L f h₀ m ox od Q) ?zE.1 ?zE.2.1 ?zE.2.2.1 ?zE.2.2.2.1 ?zE.2.2.2.2.1 ?zE.2.2.2.2.2.1 ?zE.2.2.2.2.2.2.1 ?zE.2.2.2.2.2.2.2.1 ?zE.2.2.2.2.2.2.2.2.1 ?zE.2.2.2.2.2.2.2.2.2.1 ?zE.2.2.2.2.2.2.2.2.2.2.1 ?zE.2.2.2.2.2.2.2.2.2.2.2.1 ?zE.2.2.2.2.2.2.2.2.2.2.2.2.1 ?zE.2.2.2.2.2.2.2.2.2.2.2.2.2.1 ?zE.2.2.2.2.2.2.2.2.2.2.2.2.2.2
  intros prog w A E s K x C L f h₀ m ox od Q
  intro F X₀ I hb hs hf h
  have X := X₀.keeps F.keep
  unfold truthy
  refine wpAny_bind (m := callSpecial? (.ref x) (Str.ofString "__bool__")) (wpAny_bind (wpAny_bind (I.type.here ((looks_findIn X hb).here (wpAny_pure ?_)))))
  refine wpAny_bind (wpAny_bind (I.type.here ((looks_findIn X hs).here ?_)))
  rw [if_neg (by simp)]
  refine wpAny_bind (wpAny_runValue (codeAny_builtin entry_len ?_))
  unfold Builtin.«len»
  refine wpAny_bind (m := oneArg "len" _) (wpAny_pure ?_)
  refine wpAny_bind (m := callSpecial? (.ref x) (Str.ofString "__len__")) (special_fn X I hs (beq_iff_eq.mp hf) (wpAny_mono h (fun r s' hr => ?_) fun _ _ y => y))
  cases r <;> first | exact hr.elim | skip
  rename_i n u
  obtain ⟨⟨h0, h1⟩, hq⟩ := hr
  refine wpAny_bind (wpAny_holding (wpAny_pure ?_))
  refine wpAny_bind (wpAny_letGo ?_)
  show wpAny _ _ (if n < 0 then _ else _) _ _ _
  rw [if_neg (by omega)]
  show wpAny _ _ (if n ≥ 2 ^ 63 then _ else _) _ _ _
  rw [if_neg (by omega)]
  exact wpAny_bind (wpAny_mkInt (wpAny_pure (wpAny_pure hq)))
end
end
section
open PySem PySem.W PyProof.Rows PySem.Flt PySem.Calls Builtin.ObjectAttr Builtin
set_option maxHeartbeats 1000000
section
variable {prog : Program} {w : World} {A : Around} {E : Value → Shared → Prop} {s : Shared} {K : Frag} {x dx q f g : Addr} {vs : List Value} {n : Nat} {es : List DictEntry} {ne : Nat} {h₀ : Heap} {L : Addr} {m : Str → Option Value} {news : List (Addr × Obj)} {env : Env} {e : PySem.Expr} {pos p : Pos}
theorem acc_getM {name : Str} {expr : Bool} {Q : Value → Shared → Prop} (F : Fr h₀ L s.heap m) (X₀ : K.In h₀) (N : News h₀ L s.heap news) (hx : (x, accObj dx vs n) ∈ news) (hdx : (dx, dictOf es ne) ∈ news)
    (hg : accGet K = true) (hm : subIn K (.ref 272) (.type "list") = some true) (hh : hasDictIn K 272 = true) (ha : findIn K (.ref 272) name = some (some (.ref f))) (hf : isFn K (.ref f) = true)
    (hgf : specialIn K (.ref f) "__get__" = some (some (.builtin "function.__get__"))) (ht : takesIn K (.ref f) = some false) (hc : copiedNames.contains name = false) (hl : getL name es = some none)
    (h : ∀ q h', Fr h₀ L h' m → News h₀ L h' ((q, methodObj (.ref f) (.ref x)) :: news) → (∀ p ∈ news, p.1 < q) → Q (.ref q) { s with heap := h', toks := s.toks + 1 }) :
    wpAny (model prog w) A (getAttr (.ref x) name expr) Q E s := by
  have X := X₀.keeps F.keep
  have I := acc_inst N hx hdx
  have hxo := (N _ hx).1
  obtain ⟨g1, g2⟩ := Bool.and_eq_true_iff.mp hg
  have hga := beq_iff_eq.mp g1
  have hk := beq_iff_eq.mp g2
  have ff := findObj_fn (od := dictOf es ne) hh ha hgf ht hc (by show lookIn name (dictOf es ne) = _; rw [lookIn_dict, hl])
  have hfin := h s.heap.objs.size _ (F.push _) (N.push F _) fun p hp => Heap.lt_size (N p hp).1
  obtain ⟨sh, sg, sd, st, so⟩ := s
  have L0 := I.type (M := model prog w)
  unfold getAttr getAttrBy
  refine wpAny_bind (wpAny_mkText (wpAny_holding (wpAny_bind (L0.at (wpAny_bind ((looks_findIn X hga).at ?_))))))
  dsimp only
  rw [if_neg (by simp)]
  unfold getAttrByItsOwn hookBefore callGetattribute
  refine wpAny_bind (wpAny_ite ?_)
  rw [if_pos (by rfl)]
  refine (looks_findIn X hk).at ?_
  refine wpAny_bind (wpAny_attempt (wpAny_holding ?_))
  rw [show (expr && onTheHeap (Value.builtin "list.__getattribute__")) = false from Bool.and_false _, if_neg (by decide)]
  unfold boundAndCalled
  rw [PySem.F.slot_list_getattribute.bind]
  refine wpAny_bind (wpAny_pure ?_)
  show wpAny _ _ (call (.builtin "list.__getattribute__") [.ref x, .str name st]) _ _ _
  refine call_slot0 (by decide +kernel) PySem.F.entry_list_ga (owner := "list") (n := "__getattribute__") (by decide +kernel) (by decide +kernel) (acc_isList X hm hxo) (PySem.F.args_list_getattribute_2 _ _) ?_
  have L1 := looks_find (M := model prog w) X I ff
  unfold Builtin.«object.__getattribute__»
  refine wpAny_bind (wpAny_pure (wpAny_bind (wpAny_pure (wpAny_bind (L0.at (wpAny_bind (L1.at ?_)))))))
  dsimp only
  refine wpAny_bind (wpAny_holding ?_)
  refine wpAny_call (fn_get (s := _) X (beq_iff_eq.mp hf) ?_)
  refine wpAny_pure ⟨_, rfl, ?_⟩
  exact handed_on rfl hfin
theorem callWith_MS {self : Value} {first : List Value} {Q : Value → Shared → Prop} (_X : K.In h₀) (_N : News h₀ L s.heap news) (_q : (q, methodObj (.ref g) self) ∈ news) (hf : fnIn K g = true)
    (h : wpAny (model prog w) A (eval e env) (fun v s₁ => StarOf (model prog w) A E v (fun vs s₂ => MethP K q g self s₂.heap ∧ wpAny (model prog w) A (call (.ref q) (first ++ vs)) Q E s₂) s₁) E s)
    (he : starEach [.Starred e p] env = [(true, eval e env)] := by rfl) :
    wpAny (model prog w) A (callWith pos (.ref q) first (backTo pos (starEach [.Starred e p] env)) []) Q E s := by
  rw [he]
  exact ks_call rfl (keeps_M hf) (ks_lone h)
theorem methodCall_S {M : Model} {o : PySem.Expr} {name : Str} {apos : Pos} {args : List PySem.Expr} {Q : Value → Shared → Prop}
    (h : wpAny M A (eval o env) (fun ov s₁ => wpAny M A (getAttr ov name true) (fun f s₂ => wpAny M A (callWith pos f [] (backTo pos (starEach args env)) []) Q E s₂) E s₁) E s)
    (he : eval (.Call (.Attribute o name apos) args [] pos) env = (do
      let ov ← eval o env
      standAt apos.atName
      let (f, first) ← holding [ov] (do pure (← getAttr ov name true, ([] : List Value)))
      callWith pos f first (backTo pos (starEach args env)) []) := by rfl) :
    wpAny M A (eval (.Call (.Attribute o name apos) args [] pos) env) Q E s := by
  rw [he]
  refine wpAny_bind (wpAny_mono h (fun ov s₁ h₁ => wpAny_bind (wpAny_standAt (wpAny_bind (wpAny_holding (wpAny_bind (wpAny_mono h₁ (fun fx s₂ h₂ => wpAny_pure ?_) fun _ _ x => x)))))) fun _ _ x => x)
  exact h₂
end
end
section
noncomputable def fz (z x : Int) : Int := if x < 0 then (z - 1 - x) / z else if 0 < x then (x - 1) / z else 0
theorem fz_nonneg {z : Int} (hz : 1 ≤ z) (x : Int) : 0 ≤ fz z x := by
  unfold fz
  split
  · exact Int.ediv_nonneg (by omega) (by omega)
  · split
    · exact Int.ediv_nonneg (by omega) (by omega)
    · omega
theorem fz_neg {z x : Int} (hz : 1 ≤ z) (hx : x < 0) : fz z (-x) = fz z x - 1 := by
  unfold fz
  rw [if_neg (by omega), if_pos (by omega), if_pos hx]
  have e : z - 1 - x = (-x - 1) + z * 1 := by omega
  rw [e, Int.add_mul_ediv_left _ _ (by omega)]
  omega
theorem fz_low {z x : Int} (hz : 1 ≤ z) (h0 : 0 ≤ x) (h1 : x ≤ z) : fz z x = 0 := by
  unfold fz
  rw [if_neg (by omega)]
  split
  · exact Int.ediv_eq_zero_of_lt (by omega) (by omega)
  · rfl
theorem fz_refl {z : Int} (hz : 1 ≤ z) (y : Int) : fz z (z - y) = fz z y := by
  by_cases h1 : y < 0
  · unfold fz
    rw [if_neg (by omega), if_pos (by omega), if_pos h1]
    congr 1; omega
  · by_cases h2 : z < y
    · unfold fz
      rw [if_pos (by omega), if_neg (by omega), if_pos (by omega)]
      congr 1; omega
    · rw [fz_low hz (by omega) (by omega), fz_low hz (by omega) (by omega)]
theorem fz_sub {z s : Int} (hz : 1 ≤ z) (h : z < s) : fz z (s - z) = fz z s - 1 := by
  unfold fz
  rw [if_neg (by omega), if_pos (by omega), if_neg (by omega), if_pos (by omega)]
  have e : s - 1 = (s - z - 1) + z * 1 := by omega
  rw [e, Int.add_mul_ediv_left _ _ (by omega)]
  omega
noncomputable def Iz (z a b c : Int) : Int := fz z a + fz z b + fz z c + fz z (a + b) + fz z (b + c) + fz z (a + b + c)
theorem Iz_nonneg {z : Int} (hz : 1 ≤ z) (a b c : Int) : 0 ≤ Iz z a b c := by
  unfold Iz
  have h1 := fz_nonneg hz a
  have h2 := fz_nonneg hz b
  have h3 := fz_nonneg hz c
  have h4 := fz_nonneg hz (a + b)
  have h5 := fz_nonneg hz (b + c)
  have h6 := fz_nonneg hz (a + b + c)
  omega
theorem Iz_0 {z a b c : Int} (hz : 1 ≤ z) (h : a < 0) : Iz z (-a) (b + a) c = Iz z a b c - 1 := by
  unfold Iz
  rw [fz_neg hz h, show -a + (b + a) = b by omega, show b + a + c = a + b + c by omega, show b + a = a + b by omega]
  omega
theorem Iz_1 {z a b c : Int} (hz : 1 ≤ z) (h : b < 0) : Iz z (a + b) (-b) (c + b) = Iz z a b c - 1 := by
  unfold Iz
  rw [fz_neg hz h, show a + b + -b = a by omega, show -b + (c + b) = c by omega, show a + (c + b) = a + b + c by omega, show c + b = b + c by omega]
  omega
theorem Iz_2 {z a b c : Int} (hz : 1 ≤ z) (h : c < 0) : Iz z a (b + c) (-c) = Iz z a b c - 1 := by
  unfold Iz
  rw [fz_neg hz h, show a + (b + c) = a + b + c by omega, show b + c + -c = b by omega, show a + b + c + -c = a + b by omega]
  omega
theorem Iz_3 {z a b c d : Int} (hz : 1 ≤ z) (hs : a + b + c + d = z) (h : d < 0) : Iz z (a + d) b (c + d) = Iz z a b c - 1 := by
  unfold Iz
  rw [show a + d = z - (b + c) by omega, fz_refl hz, show c + d = z - (a + b) by omega, fz_refl hz, show z - (b + c) + b = z - c by omega, fz_refl hz,
    show b + (z - (a + b)) = z - a by omega, fz_refl hz, show z - c + (z - (a + b)) = z - ((a + b + c) - z) by omega, fz_refl hz, fz_sub hz (by omega)]
  omega
theorem Iz_zero {z a b c d : Int} (hz : 1 ≤ z) (hs : a + b + c + d = z) (ha : 0 ≤ a) (hb : 0 ≤ b) (hc : 0 ≤ c) (hd : 0 ≤ d) : Iz z a b c = 0 := by
  unfold Iz
  rw [fz_low hz ha (by omega), fz_low hz hb (by omega), fz_low hz hc (by omega), fz_low hz (by omega) (by omega), fz_low hz (by omega) (by omega), fz_low hz (by omega) (by omega)]
  rfl
/-- the residues (sorted later) and the sum of the floors, of four marks -/
noncomputable def SameM (z : Int) (m n : List Int) : Prop := (m.map (· % z)).Perm (n.map (· % z)) ∧ (m.map (· / z)).sum = (n.map (· / z)).sum
theorem SameM.refl (z : Int) (m : List Int) : SameM z m m := ⟨.refl _, rfl⟩
theorem SameM.trans {z : Int} {a b c : List Int} (h : SameM z a b) (k : SameM z b c) : SameM z a c := ⟨h.1.trans k.1, h.2.trans k.2⟩
theorem perm_sum {a b : List Int} (h : a.Perm b) : a.sum = b.sum := by
  induction h with
  | nil => rfl
  | cons x _ ih => simp only [List.sum_cons, ih]
  | swap x y l => simp only [List.sum_cons]; omega
  | trans _ _ h1 h2 => exact h1.trans h2
theorem SameM.of_perm {z : Int} {a b : List Int} (h : a.Perm b) : SameM z a b := ⟨h.map _, perm_sum (h.map _)⟩
theorem SameM.ends {z a b c d : Int} (hz : 1 ≤ z) : SameM z [a, b, c, d] [d - z, b, c, a + z] := by
  constructor
  · simp only [List.map_cons, List.map_nil, Int.sub_emod_right, Int.add_emod_right]
    refine .trans (.swap _ _ _) ?_
    refine .trans (.cons _ (.swap _ _ _)) ?_
    refine .trans (.cons _ (.cons _ (.swap _ _ _))) ?_
    refine .trans ?_ (.swap _ _ _)
    refine .cons _ ?_
    refine .trans ?_ (.swap _ _ _)
    exact .refl _
  · have e1 : (d - z) / z = d / z - 1 := by
      have : d - z = d + z * (-1) := by omega
      rw [this, Int.add_mul_ediv_left _ _ (by omega)]; omega
    have e2 : (a + z) / z = a / z + 1 := by
      have : a + z = a + z * 1 := by omega
      rw [this, Int.add_mul_ediv_left _ _ (by omega)]
    simp only [List.map_cons, List.map_nil, List.sum_cons, List.sum_nil, e1, e2]
    omega
noncomputable def PlayInv (z a b c n r0 r1 r2 r3 : Int) : Prop :=
  0 ≤ n ∧ r0 + r1 + r2 + r3 = z ∧ n + Iz z r0 r1 r2 = Iz z a b c ∧ ∃ e, SameM z [0, a, a + b, a + b + c] [e, e + r0, e + r0 + r1, e + r0 + r1 + r2]
theorem PlayInv.start {z a b c : Int} : PlayInv z a b c 0 a b c (z - [a, b, c].sum) := by
  refine ⟨by omega, by simp only [List.sum_cons, List.sum_nil]; omega, by omega, 0, ?_⟩
  simp only [Int.zero_add]
  exact .refl _ _
theorem PlayInv.s0 {z a b c n r0 r1 r2 r3 : Int} (hz : 1 ≤ z) (h : PlayInv z a b c n r0 r1 r2 r3) (k : r0 < 0) : PlayInv z a b c (n + 1) (-r0) (r1 + r0) r2 (r3 + r0) := by
  obtain ⟨h1, h2, h3, e, h4⟩ := h
  refine ⟨by omega, by omega, by rw [Iz_0 hz k]; omega, e + r0, h4.trans ?_⟩
  rw [show e + r0 + -r0 = e by omega, show e + (r1 + r0) = e + r0 + r1 by omega]
  exact .of_perm (.swap _ _ _)
theorem PlayInv.s1 {z a b c n r0 r1 r2 r3 : Int} (hz : 1 ≤ z) (h : PlayInv z a b c n r0 r1 r2 r3) (k : r1 < 0) : PlayInv z a b c (n + 1) (r0 + r1) (-r1) (r2 + r1) r3 := by
  obtain ⟨h1, h2, h3, e, h4⟩ := h
  refine ⟨by omega, by omega, by rw [Iz_1 hz k]; omega, e, h4.trans ?_⟩
  rw [show e + (r0 + r1) + -r1 = e + r0 by omega, show e + r0 + (r2 + r1) = e + r0 + r1 + r2 by omega, show e + (r0 + r1) = e + r0 + r1 by omega]
  exact .of_perm (.cons _ (.swap _ _ _))
theorem PlayInv.s2 {z a b c n r0 r1 r2 r3 : Int} (hz : 1 ≤ z) (h : PlayInv z a b c n r0 r1 r2 r3) (k : r2 < 0) : PlayInv z a b c (n + 1) r0 (r1 + r2) (-r2) (r3 + r2) := by
  obtain ⟨h1, h2, h3, e, h4⟩ := h
  refine ⟨by omega, by omega, by rw [Iz_2 hz k]; omega, e, h4.trans ?_⟩
  rw [show e + r0 + (r1 + r2) + -r2 = e + r0 + r1 by omega, show e + r0 + (r1 + r2) = e + r0 + r1 + r2 by omega]
  exact .of_perm (.cons _ (.cons _ (.swap _ _ _)))
theorem PlayInv.s3 {z a b c n r0 r1 r2 r3 : Int} (hz : 1 ≤ z) (h : PlayInv z a b c n r0 r1 r2 r3) (k : r3 < 0) : PlayInv z a b c (n + 1) (r0 + r3) r1 (r2 + r3) (-r3) := by
  obtain ⟨h1, h2, h3, e, h4⟩ := h
  refine ⟨by omega, by omega, by rw [Iz_3 hz h2 k]; omega, e - r3, h4.trans ?_⟩
  rw [show e - r3 + (r0 + r3) = e + r0 by omega, show e + r0 + r1 + (r2 + r3) = e + z by omega, show e - r3 = e + r0 + r1 + r2 - z by omega]
  exact .ends hz
noncomputable def playMu (z r0 r1 r2 : Int) : Nat := (Iz z r0 r1 r2).toNat
theorem PlayInv.mu {z a b c n r0 r1 r2 r3 q0 q1 q2 q3 : Int} (hz : 1 ≤ z) (h : PlayInv z a b c n r0 r1 r2 r3) (k : PlayInv z a b c (n + 1) q0 q1 q2 q3) : playMu z q0 q1 q2 < playMu z r0 r1 r2 := by
  have h1 := Iz_nonneg hz q0 q1 q2
  have h2 := h.2.2.1
  have h3 := k.2.2.1
  unfold playMu
  omega
/-- what is known at the end of a game -/
noncomputable def PlayEnd (z a b c n r0 r1 r2 r3 : Int) : Prop :=
  n = Iz z a b c ∧ 0 ≤ r0 ∧ 0 ≤ r1 ∧ 0 ≤ r2 ∧ 0 ≤ r3 ∧ r0 + r1 + r2 + r3 = z ∧ ∃ e, SameM z [0, a, a + b, a + b + c] [e, e + r0, e + r0 + r1, e + r0 + r1 + r2]
theorem PlayInv.fin {z a b c n r0 r1 r2 r3 : Int} (hz : 1 ≤ z) (h : PlayInv z a b c n r0 r1 r2 r3) (k0 : 0 ≤ r0) (k1 : 0 ≤ r1) (k2 : 0 ≤ r2) (k3 : 0 ≤ r3) : PlayEnd z a b c n r0 r1 r2 r3 := by
  obtain ⟨h1, h2, h3, h4⟩ := h
  rw [Iz_zero hz h2 k0 k1 k2 k3] at h3
  exact ⟨by omega, k0, k1, k2, k3, h2, h4⟩
end
section
theorem perm_sorted {a b : List Int} (h : a.Perm b) (ha : a.Pairwise (· ≤ ·)) (hb : b.Pairwise (· ≤ ·)) : a = b :=
  h.eq_of_pairwise (fun x y _ _ h1 h2 => Int.le_antisymm h1 h2) ha hb
noncomputable def gapsF (z : Int) (ws : List Int) : List Int := [ws.getD 1 0 - ws.getD 0 0, ws.getD 2 0 - ws.getD 1 0, ws.getD 3 0 - ws.getD 2 0, ws.getD 0 0 + z - ws.getD 3 0]
theorem dm_lo {z q p : Int} (hz : 1 ≤ z) (h0 : 0 ≤ p) (h1 : p < z) : (z * q + p) % z = p ∧ (z * q + p) / z = q := by
  rw [Int.add_comm]
  rw [Int.add_mul_emod_self_left, Int.emod_eq_of_lt h0 h1, Int.add_mul_ediv_left _ _ (by omega), Int.ediv_eq_zero_of_lt h0 h1]
  exact ⟨rfl, by omega⟩
theorem dm_hi {z q p : Int} (hz : 1 ≤ z) (h0 : z ≤ p) (h1 : p < 2 * z) : (z * q + p) % z = p - z ∧ (z * q + p) / z = q + 1 := by
  have h := dm_lo (z := z) (q := q + 1) (p := p - z) hz (by omega) (by omega)
  rwa [show z * (q + 1) + (p - z) = z * q + p by rw [Int.mul_add]; omega] at h
theorem told_ring {z r0 r1 r2 r3 e : Int} {ms ws : List Int} (hz : 1 ≤ z) (h0 : 0 ≤ r0) (h1 : 0 ≤ r1) (h2 : 0 ≤ r2) (h3 : 0 ≤ r3) (hs : r0 + r1 + r2 + r3 = z)
    (H : SameM z ms [e, e + r0, e + r0 + r1, e + r0 + r1 + r2]) (hp : ws.Perm (ms.map (· % z))) (ho : ws.Pairwise (· ≤ ·)) :
    (gapsF z ws).drop ((ms.map (· / z)).sum % 4).toNat ++ (gapsF z ws).take ((ms.map (· / z)).sum % 4).toNat = [r0, r1, r2, r3] := by
  obtain ⟨q, p, rfl, hp0, hpz⟩ : ∃ q p, e = z * q + p ∧ 0 ≤ p ∧ p < z := ⟨e / z, e % z, by have := Int.emod_add_mul_ediv e z; omega, Int.emod_nonneg _ (by omega), Int.emod_lt_of_pos _ (by omega)⟩
  obtain ⟨H1, H2⟩ := H
  rw [H2]
  have hp := hp.trans H1
  simp only [List.map_cons, List.map_nil, List.sum_cons, List.sum_nil, Int.add_assoc (z * q)] at hp H2 ⊢
  have d0 := dm_lo (q := q) hz hp0 hpz
  by_cases c3 : p + r0 + r1 + r2 < z
  · have d1 := dm_lo (q := q) (p := p + r0) hz (by omega) (by omega)
    have d2 := dm_lo (q := q) (p := p + r0 + r1) hz (by omega) (by omega)
    have d3 := dm_lo (q := q) (p := p + r0 + r1 + r2) hz (by omega) (by omega)
    rw [d0.1, d1.1, d2.1, d3.1] at hp
    rw [d0.2, d1.2, d2.2, d3.2]
    have e := perm_sorted hp ho (by simp; omega)
    subst e
    rw [show (q + (q + (q + (q + 0)))) % 4 = 0 by omega]
    simp [gapsF]; omega
  · have d3 := dm_hi (q := q) (p := p + r0 + r1 + r2) hz (by omega) (by omega)
    by_cases c2 : p + r0 + r1 < z
    · have d1 := dm_lo (q := q) (p := p + r0) hz (by omega) (by omega)
      have d2 := dm_lo (q := q) (p := p + r0 + r1) hz (by omega) (by omega)
      rw [d0.1, d1.1, d2.1, d3.1] at hp
      rw [d0.2, d1.2, d2.2, d3.2]
      have e := perm_sorted (hp.trans (l₃ := [p + r0 + r1 + r2 - z, p, p + r0, p + r0 + r1]) ((List.perm_append_comm (l₁ := [p, p + r0, p + r0 + r1]) (l₂ := [p + r0 + r1 + r2 - z])))) ho (by simp; omega)
      subst e
      rw [show (q + (q + (q + (q + 1 + 0)))) % 4 = 1 by omega]
      simp [gapsF]; omega
    · have d2 := dm_hi (q := q) (p := p + r0 + r1) hz (by omega) (by omega)
      by_cases c1 : p + r0 < z
      · have d1 := dm_lo (q := q) (p := p + r0) hz (by omega) (by omega)
        rw [d0.1, d1.1, d2.1, d3.1] at hp
        rw [d0.2, d1.2, d2.2, d3.2]
        have e := perm_sorted (hp.trans (l₃ := [p + r0 + r1 - z, p + r0 + r1 + r2 - z, p, p + r0]) ((List.perm_append_comm (l₁ := [p, p + r0]) (l₂ := [p + r0 + r1 - z, p + r0 + r1 + r2 - z])))) ho (by simp; omega)
        subst e
        rw [show (q + (q + (q + 1 + (q + 1 + 0)))) % 4 = 2 by omega]
        simp [gapsF]; omega
      · have d1 := dm_hi (q := q) (p := p + r0) hz (by omega) (by omega)
        rw [d0.1, d1.1, d2.1, d3.1] at hp
        rw [d0.2, d1.2, d2.2, d3.2]
        have e := perm_sorted (hp.trans (l₃ := [p + r0 - z, p + r0 + r1 - z, p + r0 + r1 + r2 - z, p]) ((List.perm_append_comm (l₁ := [p]) (l₂ := [p + r0 - z, p + r0 + r1 - z, p + r0 + r1 + r2 - z])))) ho (by simp; omega)
        subst e
        rw [show (q + (q + 1 + (q + 1 + (q + 1 + 0)))) % 4 = 3 by omega]
        simp [gapsF]; omega
end
section
open PySem PySem.W PyProof.Rows PySem.Flt PySem.Spec PyProof.Rows.LCg
set_option maxHeartbeats 1000000
/-- the law has come back with True: what was there stands, but for the tables -/
noncomputable def EndsTrue (tabs : List (Addr × Addr)) (s₁ : Shared) (r : Result) (s' : Shared) : Prop :=
  r = .ok (.ret (.bool true)) ∧ (∀ b o, (ghostOf s₁.heap tabs).get? b = some o → s'.heap.get? b = some o) ∧ s'.os = s₁.os ∧ AllBare s'.gens ∧ GrownAll tabs s'.heap
theorem post_true {M : Model} {A : Around} {cd : Code} {s s₁ : Shared} {cw : ClaimW} {cl : Str → Option Addr} {mean : ExcName → Option Value} {args : List WData} {tabs : List (Addr × Addr)} (hT : TabsAt tabs s₁.heap) (hr : ∀ x, cw.raises args x = false) (hp : cw.post args (.bool true) args = true)
    (h : codeAny M A cd (EndsTrue tabs s₁) s) : codeAny M A cd (GoodWG cw cl mean args s₁) s := by
  refine codeAny_mono h ?_
  rintro r s' ⟨rfl, hkeep, hos, hb, hgr⟩
  refine ⟨.inl ⟨_, _, [], rfl, hr, ReadsW.bool true, hp, fun _ => ⟨List.nodup_nil, fun _ hm => nomatch hm⟩⟩, ⟨fun b o e => ?_, fun b o e => ?_⟩, hos, hb⟩
  · by_cases hm : b ∈ tabs.map (·.2)
    · obtain ⟨q, hq, rfl⟩ := List.mem_map.mp hm
      obtain ⟨ps, hps⟩ := hgr.get q hq
      have hq1 := (hT q hq).1
      have hq2 := (hT q hq).2
      have ht := (hq1.tab hq2).isCodeTable
      rw [e] at hq2
      obtain rfl := Option.some.inj hq2
      exact .inr (.inl ⟨ht, rfl, #[], ps, rfl, by simpa using hps⟩)
    · exact .inl (hkeep b o (ghost_ne e hm))
  · by_cases hm : b ∈ tabs.map (·.2)
    · obtain ⟨q, hq, rfl⟩ := List.mem_map.mp hm
      obtain ⟨ps, hps⟩ := hgr.get q hq
      exact ⟨_, hps⟩
    · exact ⟨o, hkeep b o (ghost_ne e hm)⟩
theorem end_gen4 {h₀ h' : Heap} {L I C D : Addr} {m : Str → Option Value} {s₁ : Shared} {oI oC oD : Obj} {S : List (Addr × Obj) → Prop} {rest : Value → List (Addr × Obj) → Prop} {y : Value} {tk : Nat} {q1 q2 q3 q4 : Addr × Obj} {nx : List (Addr × Obj)} (F : Fr h₀ L h' m) (N : News h₀ L h' (q1 :: q2 :: q3 :: q4 :: (I, oI) :: (C, oC) :: (D, oD) :: nx))
    (off : Off3 I C D (q1 :: q2 :: q3 :: q4 :: nx)) (hS : S (q1 :: q2 :: q3 :: q4 :: nx)) (r : rest y (q1 :: q2 :: q3 :: q4 :: nx)) :
    CompEnd h₀ L m s₁ I oI C oC D oD S rest y { s₁ with heap := h', toks := tk } := by
  refine CompEnd.intro F N (q1 :: q2 :: q3 :: q4 :: nx) (fun p hp => ?_) off hS r
  rcases List.mem_cons.mp hp with rfl | hp
  · exact .tail _ (.tail _ (.tail _ (.tail _ (.head _))))
  rcases List.mem_cons.mp hp with rfl | hp
  · exact .tail _ (.tail _ (.tail _ (.tail _ (.tail _ (.head _)))))
  rcases List.mem_cons.mp hp with rfl | hp
  · exact .tail _ (.tail _ (.tail _ (.tail _ (.tail _ (.tail _ (.head _))))))
  rcases List.mem_cons.mp hp with rfl | hp
  · exact .head _
  rcases List.mem_cons.mp hp with rfl | hp
  · exact .tail _ (.head _)
  rcases List.mem_cons.mp hp with rfl | hp
  · exact .tail _ (.tail _ (.head _))
  rcases List.mem_cons.mp hp with rfl | hp
  · exact .tail _ (.tail _ (.tail _ (.head _)))
  · exact .tail _ (.tail _ (.tail _ (.tail _ (.tail _ (.tail _ (.tail _ hp))))))
section
variable {prog : Program} {w : World} {A : Around} {E : Value → Shared → Prop} {s : Shared} {Q : Value → Shared → Prop} {h₀ : Heap} {L T : Addr} {news : List (Addr × Obj)} {value slice : PySem.Expr} {v0 v1 v2 : Value} {n0 : Nat} {u : Tok}
theorem row_item1 (N : News h₀ L s.heap news) (hm : (T, ({ cls := .type "tuple", data := .seq #[v0, v1, v2] n0 } : Obj)) ∈ news) (h : Q v1 s) (hs : subscripted slice false (.ref T) (.int 1 u) = operate [.ref T, .int 1 u] (getItem (.ref T) (.int 1 u)) := by with_unfolding_all rfl) :
    wpAny (model prog w) A (subscriptTail value slice (.ref T) (.int 1 u)) Q E s := by
  have ht : IsTup s.heap T #[v0, v1, v2] := ⟨_, (N _ hm).1, rfl, _, rfl⟩
  exact item_tupleT ht (by omega) (by omega) rfl rfl h hs
theorem row_item2 (N : News h₀ L s.heap news) (hm : (T, ({ cls := .type "tuple", data := .seq #[v0, v1, v2] n0 } : Obj)) ∈ news) (h : Q v2 s) (hs : subscripted slice false (.ref T) (.int 2 u) = operate [.ref T, .int 2 u] (getItem (.ref T) (.int 2 u)) := by with_unfolding_all rfl) :
    wpAny (model prog w) A (subscriptTail value slice (.ref T) (.int 2 u)) Q E s := by
  have ht : IsTup s.heap T #[v0, v1, v2] := ⟨_, (N _ hm).1, rfl, _, rfl⟩
  exact item_tupleT ht (by omega) (by omega) rfl rfl h hs
theorem tup2_item0 (N : News h₀ L s.heap news) (hm : (T, tupO [v0, v1]) ∈ news) (h : Q v0 s) (hs : subscripted slice false (.ref T) (.int 0 u) = operate [.ref T, .int 0 u] (getItem (.ref T) (.int 0 u)) := by with_unfolding_all rfl) :
    wpAny (model prog w) A (subscriptTail value slice (.ref T) (.int 0 u)) Q E s := by
  have ht : IsTup s.heap T #[v0, v1] := ⟨_, (N _ hm).1, rfl, _, rfl⟩
  exact item_tupleT ht (by omega) (by omega) rfl rfl h hs
theorem lst2_item0 (N : News h₀ L s.heap news) (hm : (T, lst [v0, v1]) ∈ news) (h : Q v0 s) (hs : subscripted slice false (.ref T) (.int 0 u) = operate [.ref T, .int 0 u] (getItem (.ref T) (.int 0 u)) := by with_unfolding_all rfl) (hg : ∀ r, letTemporaryGo value (.ref T) r = pure () := by intro _; with_unfolding_all rfl) :
    wpAny (model prog w) A (subscriptTail value slice (.ref T) (.int 0 u)) Q E s :=
  item_listL (l := [v0, v1]) (News.isList N hm) (by omega) (by omega) rfl h hs hg
theorem lst2_item1 (N : News h₀ L s.heap news) (hm : (T, lst [v0, v1]) ∈ news) (h : Q v1 s) (hs : subscripted slice false (.ref T) (.int 1 u) = operate [.ref T, .int 1 u] (getItem (.ref T) (.int 1 u)) := by with_unfolding_all rfl) (hg : ∀ r, letTemporaryGo value (.ref T) r = pure () := by intro _; with_unfolding_all rfl) :
    wpAny (model prog w) A (subscriptTail value slice (.ref T) (.int 1 u)) Q E s :=
  item_listL (l := [v0, v1]) (News.isList N hm) (by omega) (by omega) rfl h hs hg
end
end
end
section
local macro_rules | `(tactic| k_inst) => `(tactic| (refine' acc_inst ?N ?h1 ?h2; (case N => k_asm); (case h1 => k_mem); (case h2 => k_mem)))
section
theorem fresh_D1 : True := by w_top off; exact True.intro
set_option maxHeartbeats 8000000
theorem nsub {h₀ h : Heap} {L : Addr} {nw nw' : List (Addr × Obj)} (N : News h₀ L h nw') (hs : ∀ p ∈ nw, p ∈ nw') : News h₀ L h nw := fun p hp => N p (hs p hp)
theorem UpdF.mem_new {d : Addr} {o o' : Obj} {l : List (Addr × Obj)} {g : Obj → List (Addr × Obj)} (U : UpdF d o l g) : (d, o') ∈ g o' := by
  obtain ⟨pre, post, e1, e2, a, b⟩ := U.split
  rw [e2]; simp
theorem UpdF.mem_old {d q : Addr} {o o' oq : Obj} {l : List (Addr × Obj)} {g : Obj → List (Addr × Obj)} (U : UpdF d o l g) (hq : (q, oq) ∈ l) (hn : q ≠ d) : (q, oq) ∈ g o' := by
  obtain ⟨pre, post, e1, e2, a, b⟩ := U.split
  rw [e1] at hq
  rw [e2]
  rcases List.mem_append.mp hq with h | h
  · exact List.mem_append_left _ h
  · rcases List.mem_cons.mp h with h | h
    · exact absurd (congrArg Prod.fst h) hn
    · exact List.mem_append_right _ (List.mem_cons_of_mem _ h)
theorem UpdF.toUpd {d : Addr} {o o' : Obj} {l : List (Addr × Obj)} {g : Obj → List (Addr × Obj)} (U : UpdF d o l g) : Upd d o o' l (g o') := by
  induction U with
  | head h => exact .head h
  | tail h _ ih => exact .tail h ih
theorem ne_mem {D x : Addr} {o : Obj} {l : List (Addr × Obj)} (h : ∀ p ∈ l, p.1 < D) (hm : (x, o) ∈ l) : D ≠ x := fun e => by have := h _ hm; rw [e] at this; exact Nat.lt_irrefl _ this
theorem ne_memA {D x : Addr} {o : Obj} {l : List (Addr × Obj)} (h : AllLt D l) (hm : (x, o) ∈ l) : D ≠ x := ne_mem (allLt_mem h) hm
theorem ne_objs {h₀ h : Heap} {L x y : Addr} {ox oy : Obj} {l : List (Addr × Obj)} (N : News h₀ L h l) (hx : (x, ox) ∈ l) (hy : (y, oy) ∈ l) (hne : ox.cls ≠ oy.cls) : x ≠ y := fun e => by
  have h1 := (N _ hx).1
  have h2 := (N _ hy).1
  dsimp only at h1 h2
  rw [e, h2] at h1
  cases h1
  exact hne rfl
local macro_rules | `(tactic| k_updF) => `(tactic| (apply_assumption; done))
local macro_rules | `(tactic| k_updF) => `(tactic| assumption)
local macro_rules | `(tactic| k_ne) => `(tactic| first | exact ne_mem (by assumption) (by assumption) | exact ne_memA (by assumption) (by assumption) | exact ne_memA (And.right (by assumption)) (by assumption) | exact ne_memA (And.right (And.right (by assumption))) (by assumption) | exact ne_memA (And.right (And.right (And.right (by assumption)))) (by assumption))
local macro_rules | `(tactic| k_upd) => `(tactic| exact UpdF.toUpd (by first | assumption | (apply_assumption; done)))
local macro_rules | `(tactic| k_mem) => `(tactic| exact UpdF.mem_new (by assumption))
local macro_rules | `(tactic| k_mem) => `(tactic| exact UpdF.mem' (by first | assumption | (apply_assumption; done)))
section
variable {w : World} {pv : Program} {LSv : List Str} {mean : ExcName → Option Value} {mg mb : Str → Option Value}
    {dp un : Nat} {gd : Option (List Code)} {cn : Str} {cs : Scope} {a : Addr} {ccd : Value} {cl : List (Str × Addr)} {outer : List Env} {A₀ : Around} {base h₀ : Heap} {L : Addr} {m : Str → Option Value} {news : List (Addr × Obj)} {s : Shared}
    {Q E : Value → Shared → Prop}
theorem rows_D1_0 : True := by
  k_with_none
  k_with "getMethod ref" => (k_here; k_dflt (refine' sup_gm_len ?k1 ?k2 ?k3 ?k4 ?k5 ?k6 ?k7 ?k8 ?k9 ?_; (case k1 => k_asm); (case k2 => k_asm); (case k3 => k_asm); (case k4 => with_reducible_and_instances k_mem); (case k5 => k_mem); (case k6 => k_mem); (case k7 => k_is); (case k8 => ks_is); (case k9 => k_is); k_whole); intro qQq7 hQq7 FQq7 NQq7 l1Qq7; (try k_lt l1Qq7))
  k_with "callWith ref" => (k_here; k_dflt (refine' callWith_B0 ?t ?k1 ?k2 ?_; (case k1 => k_asm); (case k2 => k_mem); (case t => first | exact Or.inl rfl | exact Or.inr rfl); k_whole))
  k_with "call ref" => (k_here; (with_reducible show wpAny _ _ (call (Value.ref _) []) _ _ _); k_dflt (refine' sup_len_call ?k1 ?k2 ?k3 ?_; (case k1 => k_asm); (case k2 => k_mem); (case k3 => k_mem); k_whole); intro tQq7 tkQq7)
  k_with "getMethod ref" => (k_here; k_dflt (refine' acc_methB ?k1 ?k2 ?k3 ?k4 ?k5 ?k6 ?k7 ?k8 ?k9 ?_; (case k1 => k_asm); (case k2 => k_asm); (case k3 => k_asm); (case k4 => with_reducible_and_instances k_mem); (case k5 => k_mem); (case k6 => kernel_rfl); (case k7 => k_is); (case k8 => (show builtinType _ = _; rw [builtinType_eq_fast]; kernel_rfl)); (case k9 => k_get); k_whole))
  k_with "call builtin:list.append" => (k_here; (with_reducible show wpAny _ _ (call (Value.builtin _) [Value.ref _, _]) _ _ _); k_dflt (refine' acc_append ?k1 ?k2 ?k3 ?k4 ?k5 ?k6 ?_; (case k1 => k_asm); (case k2 => k_asm); (case k3 => k_asm); (case k4 => k_updF); (case k5 => k_is); (case k6 => omega); k_whole); intro hQq7 nQq7 FQq7 NQq7; (try dsimp only at NQq7); (try k_sweep))
  exact True.intro
theorem pc_spec {x dx : Addr} {vs : List Value} {n : Nat} {hh c0 : Int} {ks tc : Tok} (B : Below A₀ base outer h₀) (F : Fr h₀ L s.heap m) (X : (hd.heap_39 w.params).In h₀) (N : News h₀ L s.heap news) (T : Top pv LSv mean mg mb h₀) (hk : cs.kind = .function)
    (hd1 : dp + 1 < recursionLimit) (hu : un + 100 < cLine) (hx : (x, accObj dx vs n) ∈ news) (hdx : (dx, dictOf [⟨hh, .str (Str.ofString "_initial_size") ks, .int c0 tc⟩] 1) ∈ news)
    (hret : ∀ h' tk' t, Fr h₀ L h' m → News h₀ L h' news → Q (.int (vs.length : Int) t) { s with heap := h', toks := tk' }) :
    wpAny (model PySem.Challenge.rw_rl0132_01.prog w) (ktrTop dp un gd cn cs L a ccd cl outer) (call (.ref 269) [.ref x]) Q E s := by
  revert X; k_fill; intro X
  refine wpAny_call ?_
  k_dflt (refine' ks_code_super ?k1 ?k2 ?k3 ?k4 ?k5 ?kA ?kF ?kK ?k6 ?k7 ?k8 ?k9 ?kB ?_ ?c1 ?c2 ?c3 ?c4; (case kA => exact rfl); (case kF => exact rfl); (case kK => assumption); (case k1 => k_asm); (case k2 => k_asm); (case k3 => k_asm); (case k4 => k_asm); (case k5 => k_asm); (case k6 => k_is); (case k7 => k_is); (case k8 => ktr_room); (case k9 => first | exact BindsTo.of_eq rfl | exact binds_K (by k_in) rfl (by k_is) rfl rfl rfl); (case kB => exact locs rfl); (case c1 => decide); (case c2 => exact rfl); (case c3 => exact rfl); (case c4 => exact rfl); k_whole; intro g' L' h' FG' F' N' B' X' T' l1; (try k_lt l1); (try dsimp only); (try k_fold))
  k_steps
  (rename News h₀ L _ _ => kN9); (rename Fr h₀ L _ _ => kF9)
  exact hret _ _ _ kF9 (nsub kN9 fun p hp => .tail _ (.tail _ hp))
theorem rows_D1_1 : True := by
  exact True.intro
theorem push_spec {x dx : Addr} {vs : List Value} {n : Nat} {hh c0 : Int} {ks tc : Tok} {f e : Str} {tf te : Tok} {gg : Obj → List (Addr × Obj)} (B : Below A₀ base outer h₀) (F : Fr h₀ L s.heap m) (X : (hd.heap_39 w.params).In h₀) (N : News h₀ L s.heap news) (T : Top pv LSv mean mg mb h₀) (hk : cs.kind = .function)
    (hd1 : dp + 1 < recursionLimit) (hu : un + 100 < cLine) (hx : (x, accObj dx vs n) ∈ news) (hdx : (dx, dictOf [⟨hh, .str (Str.ofString "_initial_size") ks, .int c0 tc⟩] 1) ∈ news) (U : UpdF x (accObj dx vs n) news gg) (hlen : vs.length ≤ 1000)
    (hret : ∀ h' tk' n' t, Fr h₀ L h' m → News h₀ L h' ((t, tupO [.str f tf, .str e te]) :: gg (accObj dx (vs ++ [.ref t]) n')) → (∀ p ∈ news, p.1 < t) → Q .none { s with heap := h', toks := tk' }) :
    wpAny (model PySem.Challenge.rw_rl0132_01.prog w) (ktrTop dp un gd cn cs L a ccd cl outer) (call (.ref 216) [.ref x, .str f tf, .str e te]) Q E s := by
  revert X; k_fill; intro X
  refine wpAny_call ?_
  k_dflt ktr_enter
  k_steps
  (rename News h₀ L _ _ => kN9); (rename Fr h₀ L _ _ => kF9)
  exact hret _ _ _ _ kF9 kN9 (by assumption)
end
end
section
local macro_rules | `(tactic| k_updF) => `(tactic| (apply_assumption; done))
section
local macro_rules | `(tactic| k_updF) => `(tactic| assumption)
section
local macro_rules | `(tactic| k_ne) => `(tactic| first | exact ne_mem (by assumption) (by assumption) | exact ne_memA (by assumption) (by assumption) | exact ne_memA (And.right (by assumption)) (by assumption) | exact ne_memA (And.right (And.right (by assumption))) (by assumption) | exact ne_memA (And.right (And.right (And.right (by assumption)))) (by assumption))
section
local macro_rules | `(tactic| k_upd) => `(tactic| exact UpdF.toUpd (by first | assumption | (apply_assumption; done)))
section
local macro_rules | `(tactic| k_mem) => `(tactic| exact UpdF.mem_new (by assumption))
section
local macro_rules | `(tactic| k_mem) => `(tactic| exact UpdF.mem' (by first | assumption | (apply_assumption; done)))
section
theorem fresh_D5 : True := by w_top off; exact True.intro
set_option maxHeartbeats 8000000
inductive PhaseS5 : Prop where
  | mk : PhaseS5
section
variable {w : World} {pv : Program} {LSv : List Str} {mean : ExcName → Option Value} {mg mb : Str → Option Value}
    {dp un : Nat} {gd : Option (List Code)} {cn : Str} {cs : Scope} {a : Addr} {ccd : Value} {cl : List (Str × Addr)} {outer : List Env} {A₀ : Around} {base h₀ : Heap} {L : Addr} {m : Str → Option Value} {news : List (Addr × Obj)} {s : Shared}
    {Q E : Value → Shared → Prop}
theorem rows_D5_0 : True := by
  k_with_none
  k_with "getMethod ref" => (k_here; k_dflt (refine' sup_gm_init ?k1 ?k2 ?k3 ?k4 ?k5 ?k6 ?k7 ?k8 ?k9 ?_; (case k1 => k_asm); (case k2 => k_asm); (case k3 => k_asm); (case k4 => with_reducible_and_instances k_mem); (case k5 => k_mem); (case k6 => k_mem); (case k7 => k_is); (case k8 => ks_is); (case k9 => k_is); k_whole); intro qQq7 hQq7 FQq7 NQq7 l1Qq7; (try k_lt l1Qq7))
  k_with "callWith ref" => (k_here; k_dflt (refine' callWith_B0 ?t ?k1 ?k2 ?_; (case k1 => k_asm); (case k2 => k_mem); (case t => first | exact Or.inl rfl | exact Or.inr rfl); k_whole))
  k_with "call ref" => (k_here; (with_reducible show wpAny _ _ (call (Value.ref _) []) _ _ _); k_dflt (refine' sup_init_call ?k1 ?k2 ?k3 ?k4 ?k5 ?_; (case k1 => k_asm); (case k2 => k_asm); (case k4 => k_mem); (case k3 => k_updF); (case k5 => first | rfl | assumption); k_whole); intro hQq7 nQq7 FQq7 NQq7; (try dsimp only at NQq7); (try k_sweep))
  k_with "setAttr ref" => (k_here; k_dflt (refine' acc_set ?k1 ?k2 ?k3 ?k4 ?k5 ?k6 ?k7 ?k8 ?k9 ?k10 ?k11 ?k12 ?_; (case k1 => k_asm); (case k2 => k_asm); (case k3 => k_asm); (case k4 => with_reducible_and_instances k_mem); (case k5 => k_mem); (case k6 => k_is); (case k7 => kernel_rfl); (case k8 => k_is); (case k9 => k_get); (case k10 => k_put); (case k11 => k_upd); (case k12 => exact Nat.le_of_ble_eq_true rfl); k_whole); intro hQq7 FQq7 NQq7; (try k_sweep))
  k_with "wpAt" => ((fail_if_success (have : PhaseS5 := by assumption)); refine hold_out ?_)
  exact True.intro
theorem accn_spec {c : Int} {tc : Tok} (B : Below A₀ base outer h₀) (F : Fr h₀ L s.heap m) (X : (hd.heap_39 w.params).In h₀) (N : News h₀ L s.heap news) (T : Top pv LSv mean mg mb h₀) (hk : cs.kind = .function)
    (hd1 : dp + 3 < recursionLimit) (hu : un + 300 < cLine) 
    (hret : ∀ x dx h' tk' n' hh ks, Fr h₀ L h' m → News h₀ L h' ((x, accObj dx [] n') :: (dx, dictOf [⟨hh, .str (Str.ofString "_initial_size") ks, .int c tc⟩] 1) :: news) → (∀ p ∈ news, p.1 < dx) → @LT.lt Nat _ dx x → Q (.ref x) { s with heap := h', toks := tk' }) :
    wpAny (model PySem.Challenge.rw_rl0132_01.prog w) (ktrTop dp un gd cn cs L a ccd cl outer) (call (.ref 272) [.int c tc]) Q E s := by
  revert w pv LSv mean mg mb dp un gd cn cs a ccd cl outer A₀ base h₀ L m news s Q E c tc
  refine (?zh : ∀ w pv LSv mean mg mb dp un gd cn cs a ccd cl outer A₀ base h₀ L m news s Q E c tc, (?zP : _ → _ → _ → _ → _ → _ → _ → _ → _ → _ → _ → _ → _ → _ → _ → _ → _ → _ → _ → _ → _ → _ → _ → _ → _ → _ → Prop) w pv LSv mean mg mb dp un gd cn cs a ccd cl outer A₀ base h₀ L m news s Q E c tc)
  refine fun w pv LSv mean mg mb dp un gd cn cs a ccd cl outer A₀ base h₀ L m news s Q E c tc => allE (P := un2 fun w => un2 fun pv => un2 fun LSv => un2 fun mean => un2 fun mg => un2 fun mb => un2 fun dp => un2 fun un => un2 fun gd => un2 fun cn => un2 fun cs => un2 fun a => un2 fun ccd => un2 fun cl => un2 fun outer => un2 fun A₀ => un2 fun base => un2 fun h₀ => un2 fun L => un2 fun m => un2 fun news => un2 fun s => un2 fun Q => un2 fun E => un2 fun c tc => ?zP w pv LSv mean mg mb dp un gd cn cs a ccd cl outer A₀ base h₀ L m news s Q E c tc) ?zn ?zk (w, pv, LSv, mean, mg, mb, dp, un, gd, cn, cs, a, ccd, cl, outer, A₀, base, h₀, L, m, news, s, Q, E, c, tc)
  case zn => walk_at "ne"
  clear w pv LSv mean mg mb dp un gd cn cs a ccd cl outer A₀ base h₀ L m news s Q E c tc
  refine (?zj : AtE _ ?zE)
  refine (?zF : ∀ w pv LSv mean mg mb dp un gd cn cs a ccd cl outer A₀ base h₀ L m news s Q E c tc, ?zP w pv LSv mean mg mb dp un gd cn cs a ccd cl outer A₀ base h₀ L m news s Q E c tc) ?zE.1 ?zE.2.1 ?zE.2.2.1 ?zE.2.2.2.1 ?zE.2.2.2.2.1 ?zE.2.2.2.2.2.1 ?zE.2.2.2.2.2.2.1 ?zE.2.2.2.2.2.2.2.1 ?zE.2.2.2.2.2.2.2.2.1 ?zE.2.2.2.2.2.2.2.2.2.1 ?zE.2.2.2.2.2.2.2.2.2.2.1 ?zE.2.2.2.2.2.2.2.2.2.2.2.1 ?zE.2.2.2.2.2.2.2.2.2.2.2.2.1 ?zE.2.2.2.2.2.2.2.2.2.2.2.2.2.1 ?zE.2.2.2.2.2.2.2.2.2.2.2.2.2.2.1 ?zE.2.2.2.2.2.2.2.2.2.2.2.2.2.2.2.1 ?zE.2.2.2.2.2.2.2.2.2.2.2.2.2.2.2.2.1 ?zE.2.2.2.2.2.2.2.2.2.2.2.2.2.2.2.2.2.1 ?zE.2.2.2.2.2.2.2.2.2.2.2.2.2.2.2.2.2.2.1 ?zE.2.2.2.2.2.2.2.2.2.2.2.2.2.2.2.2.2.2.2.1 ?zE.2.2.2.2.2.2.2.2.2.2.2.2.2.2.2.2.2.2.2.2.1 ?zE.2.2.2.2.2.2.2.2.2.2.2.2.2.2.2.2.2.2.2.2.2.1 ?zE.2.2.2.2.2.2.2.2.2.2.2.2.2.2.2.2.2.2.2.2.2.2.1 ?zE.2.2.2.2.2.2.2.2.2.2.2.2.2.2.2.2.2.2.2.2.2.2.2.1 ?zE.2.2.2.2.2.2.2.2.2.2.2.2.2.2.2.2.2.2.2.2.2.2.2.2.1 ?zE.2.2.2.2.2.2.2.2.2.2.2.2.2.2.2.2.2.2.2.2.2.2.2.2.2
  intros w pv LSv mean mg mb dp un gd cn cs a ccd cl outer A₀ base h₀ L m news s Q E c tc
  intro B F X N T hk hd1 hu hret
  revert X; k_fill; intro X
  k_dflt (refine' call_acc ?k1 ?k2 ?k3 ?k4 ?k5 ?k6 ?_; (case k1 => k_asm); (case k2 => k_asm); (case k3 => k_asm); (case k4 => kernel_rfl); (case k5 => k_is); (case k6 => k_is); k_whole; walk_at "e3"; intro x' d' h' F' N' l1 l2; (have l3 : ∀ p ∈ news, p.1 < x' := fun p hp => Nat.lt_trans (l1 p hp) l2); (try k_lt2 l2); (try k_sweep); (refine' ks_code_super ?k1 ?k2 ?k3 ?k4 ?k5 ?kA ?kF ?kK ?k6 ?k7 ?k8 ?k9 ?kB ?_ ?c1 ?c2 ?c3 ?c4; (case kA => exact rfl); (case kF => exact rfl); (case kK => assumption); (case k1 => k_asm); (case k2 => k_asm); (case k3 => k_asm); (case k4 => k_asm); (case k5 => k_asm); (case k6 => k_is); (case k7 => k_is); (case k8 => ktr_room); (case k9 => first | exact BindsTo.of_eq rfl | exact binds_K (by k_in) rfl (by k_is) rfl rfl rfl); (case kB => exact locs rfl); (case c1 => decide); (case c2 => exact rfl); (case c3 => exact rfl); (case c4 => exact rfl); k_whole; walk_at "e3"; intro g' L' h' FG' F' N' B' X' T' l1; (try k_lt l1); (try dsimp only); (try k_fold)))
  refine ks_wpAt_execs_cons ?_
  refine wpAt_of_wpAny ?_
  k_steps
  refine hold_in ?_
  dsimp only
  have ph := PhaseS5.mk
  k_steps
  (rename News h₀ L _ _ => kN9); (rename Fr h₀ L _ _ => kF9)
  exact hret _ _ _ _ _ _ _ kF9 (nsub kN9 (by intro p hp; first | exact hp | exact .tail _ hp | exact .tail _ (.tail _ hp))) (by assumption) (by assumption)
end
end
section
theorem fresh_D9 : True := by w_top off; exact True.intro
set_option maxHeartbeats 8000000
theorem under_units {A : Around} {args : Args} : (A.under (.builtin "type.__call__" args)).units ≤ A.units + 5 := by
  have h : (A.under (.builtin "type.__call__" args)).units = A.units + 1 := rfl
  rw [h]
  exact Nat.add_le_add_left (by decide) _
section
variable {w : World} {pv : Program} {LSv : List Str} {mean : ExcName → Option Value} {mg mb : Str → Option Value}
    {dp un : Nat} {gd : Option (List Code)} {cn : Str} {cs : Scope} {a : Addr} {ccd : Value} {cl : List (Str × Addr)} {outer : List Env} {A₀ : Around} {base h₀ : Heap} {L : Addr} {m : Str → Option Value} {news : List (Addr × Obj)} {s : Shared}
    {Q E : Value → Shared → Prop}
theorem rows_D9_0 : True := by
  k_with_none
  k_with "call ref" => (k_here; (with_reducible show wpAny _ _ (call (Value.ref 272) _) _ _ _); k_dflt (refine' accn_spec ?k1 ?k2 ?k3 ?k4 ?k5 ?k6 ?k7 ?k8 ?_; (case k1 => k_asm); (case k2 => k_asm); (case k3 => k_asm); (case k4 => k_asm); (case k5 => k_asm); (case k6 => first | rfl | assumption); (case k7 => ktr_room); (case k8 => first | ktr_units | (refine Nat.lt_of_le_of_lt (Nat.add_le_add_right (Nat.add_le_add_right under_units _) _) ?_; ktr_units)); k_whole); intro x2Qq7 d2Qq7 hQq7 tkQq7 n2Qq7 hhQq7 ksQq7 FQq7 NQq7 l1Qq7 l2Qq7; (try k_lt l1Qq7); (try k_lt2 l2Qq7); (try k_sweep))
  exact True.intro
theorem fmtn_spec {c mx : Int} {tc tm s1 s2 : Tok} (B : Below A₀ base outer h₀) (F : Fr h₀ L s.heap m) (X : (hd.heap_39 w.params).In h₀) (N : News h₀ L s.heap news) (T : Top pv LSv mean mg mb h₀) (hk : cs.kind = .function)
    (hd1 : dp + 5 < recursionLimit) (hu : un + 500 < cLine) 
    (hret : ∀ x dx l M dm e1 e2 e3 e4 e5 e6 k1 k2 k3 k4 k5 k6 q1 q2 q3 q4 n hh ks h' tk', Fr h₀ L h' m → News h₀ L h' ((x, accObj dx [] n) :: (dx, dictOf [⟨hh, .str (Str.ofString "_initial_size") ks, .int c tc⟩] 1) :: (l, listOf #[] 0) :: (M, instObj 188 dm) :: (dm, dictOf [⟨e1, .str (Str.ofString "_maxlen") k1, .int mx q1⟩, ⟨e2, .str (Str.ofString "_continuation_ws") k2, .str (Str.ofString " ") q2⟩, ⟨e3, .str (Str.ofString "_continuation_ws_len") k3, .int 1 q3⟩, ⟨e4, .str (Str.ofString "_splitchars") k4, .str (Str.ofString " ") q4⟩, ⟨e5, .str (Str.ofString "_lines") k5, .ref l⟩, ⟨e6, .str (Str.ofString "_current_line") k6, .ref x⟩] 6) :: news) → (∀ p ∈ news, p.1 < dm) → @LT.lt Nat _ dm M → @LT.lt Nat _ M l → @LT.lt Nat _ l dx → @LT.lt Nat _ dx x → Q (.ref M) { s with heap := h', toks := tk' }) :
    wpAny (model PySem.Challenge.rw_rl0132_01.prog w) (ktrTop dp un gd cn cs L a ccd cl outer) (call (.ref 188) [.int c tc, .int mx tm, .str (Str.ofString " ") s1, .str (Str.ofString " ") s2]) Q E s := by
  revert w pv LSv mean mg mb dp un gd cn cs a ccd cl outer A₀ base h₀ L m news s Q E c mx tc tm s1 s2
  refine (?zh : ∀ w pv LSv mean mg mb dp un gd cn cs a ccd cl outer A₀ base h₀ L m news s Q E c mx tc tm s1 s2, (?zP : _ → _ → _ → _ → _ → _ → _ → _ → _ → _ → _ → _ → _ → _ → _ → _ → _ → _ → _ → _ → _ → _ → _ → _ → _ → _ → _ → _ → _ → _ → Prop) w pv LSv mean mg mb dp un gd cn cs a ccd cl outer A₀ base h₀ L m news s Q E c mx tc tm s1 s2)
  refine fun w pv LSv mean mg mb dp un gd cn cs a ccd cl outer A₀ base h₀ L m news s Q E c mx tc tm s1 s2 => allE (P := un2 fun w => un2 fun pv => un2 fun LSv => un2 fun mean => un2 fun mg => un2 fun mb => un2 fun dp => un2 fun un => un2 fun gd => un2 fun cn => un2 fun cs => un2 fun a => un2 fun ccd => un2 fun cl => un2 fun outer => un2 fun A₀ => un2 fun base => un2 fun h₀ => un2 fun L => un2 fun m => un2 fun news => un2 fun s => un2 fun Q => un2 fun E => un2 fun c => un2 fun mx => un2 fun tc => un2 fun tm => un2 fun s1 s2 => ?zP w pv LSv mean mg mb dp un gd cn cs a ccd cl outer A₀ base h₀ L m news s Q E c mx tc tm s1 s2) ?zn ?zk (w, pv, LSv, mean, mg, mb, dp, un, gd, cn, cs, a, ccd, cl, outer, A₀, base, h₀, L, m, news, s, Q, E, c, mx, tc, tm, s1, s2)
  case zn => walk_at "ne"
  clear w pv LSv mean mg mb dp un gd cn cs a ccd cl outer A₀ base h₀ L m news s Q E c mx tc tm s1 s2
  refine (?zj : AtE _ ?zE)
  refine (?zF : ∀ w pv LSv mean mg mb dp un gd cn cs a ccd cl outer A₀ base h₀ L m news s Q E c mx tc tm s1 s2, ?zP w pv LSv mean mg mb dp un gd cn cs a ccd cl outer A₀ base h₀ L m news s Q E c mx tc tm s1 s2) ?zE.1 ?zE.2.1 ?zE.2.2.1 ?zE.2.2.2.1 ?zE.2.2.2.2.1 ?zE.2.2.2.2.2.1 ?zE.2.2.2.2.2.2.1 ?zE.2.2.2.2.2.2.2.1 ?zE.2.2.2.2.2.2.2.2.1 ?zE.2.2.2.2.2.2.2.2.2.1 ?zE.2.2.2.2.2.2.2.2.2.2.1 ?zE.2.2.2.2.2.2.2.2.2.2.2.1 ?zE.2.2.2.2.2.2.2.2.2.2.2.2.1 ?zE.2.2.2.2.2.2.2.2.2.2.2.2.2.1 ?zE.2.2.2.2.2.2.2.2.2.2.2.2.2.2.1 ?zE.2.2.2.2.2.2.2.2.2.2.2.2.2.2.2.1 ?zE.2.2.2.2.2.2.2.2.2.2.2.2.2.2.2.2.1 ?zE.2.2.2.2.2.2.2.2.2.2.2.2.2.2.2.2.2.1 ?zE.2.2.2.2.2.2.2.2.2.2.2.2.2.2.2.2.2.2.1 ?zE.2.2.2.2.2.2.2.2.2.2.2.2.2.2.2.2.2.2.2.1 ?zE.2.2.2.2.2.2.2.2.2.2.2.2.2.2.2.2.2.2.2.2.1 ?zE.2.2.2.2.2.2.2.2.2.2.2.2.2.2.2.2.2.2.2.2.2.1 ?zE.2.2.2.2.2.2.2.2.2.2.2.2.2.2.2.2.2.2.2.2.2.2.1 ?zE.2.2.2.2.2.2.2.2.2.2.2.2.2.2.2.2.2.2.2.2.2.2.2.1 ?zE.2.2.2.2.2.2.2.2.2.2.2.2.2.2.2.2.2.2.2.2.2.2.2.2.1 ?zE.2.2.2.2.2.2.2.2.2.2.2.2.2.2.2.2.2.2.2.2.2.2.2.2.2.1 ?zE.2.2.2.2.2.2.2.2.2.2.2.2.2.2.2.2.2.2.2.2.2.2.2.2.2.2.1 ?zE.2.2.2.2.2.2.2.2.2.2.2.2.2.2.2.2.2.2.2.2.2.2.2.2.2.2.2.1 ?zE.2.2.2.2.2.2.2.2.2.2.2.2.2.2.2.2.2.2.2.2.2.2.2.2.2.2.2.2.1 ?zE.2.2.2.2.2.2.2.2.2.2.2.2.2.2.2.2.2.2.2.2.2.2.2.2.2.2.2.2.2
  intros w pv LSv mean mg mb dp un gd cn cs a ccd cl outer A₀ base h₀ L m news s Q E c mx tc tm s1 s2
  intro B F X N T hk hd1 hu hret
  revert X; k_fill; intro X
  k_dflt (refine' call_cls ?k1 ?k2 ?k3 ?k4 ?k5 ?k6 ?_; (case k1 => k_asm); (case k2 => k_asm); (case k3 => k_asm); (case k4 => k_is); (case k5 => k_is); (case k6 => k_is); k_whole; walk_at "e3"; intro x' d' h' F' N' l1 l2; (have l3 : ∀ p ∈ news, p.1 < x' := fun p hp => Nat.lt_trans (l1 p hp) l2); (try k_lt2 l2); (try k_sweep); walk_at "en")
  k_steps
  (rename News h₀ L _ _ => kN9); (rename Fr h₀ L _ _ => kF9)
  exact hret _ _ _ _ _ _ _ _ _ _ _ _ _ _ _ _ _ _ _ _ _ _ _ _ _ _ kF9 kN9 (by assumption) (by omega) (by omega) (by omega) (by omega)
  run_tac fin
end
end
section
theorem fresh_D2 : True := by w_top off; exact True.intro
set_option maxHeartbeats 8000000
inductive PhaseS : Prop where
  | mk : PhaseS
section
variable {w : World} {pv : Program} {LSv : List Str} {mean : ExcName → Option Value} {mg mb : Str → Option Value}
    {dp un : Nat} {gd : Option (List Code)} {cn : Str} {cs : Scope} {a : Addr} {ccd : Value} {cl : List (Str × Addr)} {outer : List Env} {A₀ : Around} {base h₀ : Heap} {L : Addr} {m : Str → Option Value} {news : List (Addr × Obj)} {s : Shared}
    {Q E : Value → Shared → Prop}
theorem rows_D2_0 : True := by
  k_with_none
  k_with "getMethod ref" => (k_here; k_dflt (refine' sup_gm_pop ?k1 ?k2 ?k3 ?k4 ?k5 ?k6 ?k7 ?k8 ?k9 ?_; (case k1 => k_asm); (case k2 => k_asm); (case k3 => k_asm); (case k4 => with_reducible_and_instances k_mem); (case k5 => k_mem); (case k6 => k_mem); (case k7 => k_is); (case k8 => ks_is); (case k9 => k_is); k_whole); intro qQq7 hQq7 FQq7 NQq7 l1Qq7; (try k_lt l1Qq7))
  k_with "callWith ref" => (k_here; k_dflt (refine' callWith_B0 ?t ?k1 ?k2 ?_; (case k1 => k_asm); (case k2 => k_mem); (case t => first | exact Or.inl rfl | exact Or.inr rfl); k_whole))
  k_with "call ref" => (k_here; (with_reducible show wpAny _ _ (call (Value.ref _) []) _ _ _); k_dflt (refine' sup_pop_call ?k1 ?k2 ?k6 ?k7 ?k8 ?k3 ?k4 ?k5 ?k9 ?k10 ?_; (case k1 => k_asm); (case k2 => k_asm); (case k3 => k_asm); (case k5 => k_mem); (case k4 => k_updF); (case k6 => k_is); (case k7 => kernel_rfl); (case k8 => k_is); (case k9 => first | rfl | assumption); (case k10 => first | assumption | omega); k_whole); intro hQq7 nQq7 FQq7 NQq7; (try dsimp only at NQq7); (try k_sweep))
  k_with "getMethod ref" => (k_here; k_dflt (refine' acc_methF ?k1 ?k2 ?k3 ?k4 ?k5 ?k6 ?k7 ?k8 ?k9 ?_; (case k1 => k_asm); (case k2 => k_asm); (case k3 => k_asm); (case k4 => with_reducible_and_instances k_mem); (case k5 => k_mem); (case k6 => kernel_rfl); (case k7 => k_is); (case k8 => k_is); (case k9 => k_get); k_whole))
  k_with "call ref" => (k_here; (with_reducible show wpAny _ _ (call (Value.ref 269) _) _ _ _); k_dflt (refine' pc_spec ?k1 ?k2 ?k3 ?k4 ?k5 ?k6 ?k7 ?k8 ?p1 ?p2 ?_; (case k1 => k_asm); (case k2 => k_asm); (case k3 => k_asm); (case k4 => k_asm); (case k5 => k_asm); (case k6 => first | rfl | assumption); (case k7 => ktr_room); (case k8 => ktr_units); (case p1 => k_mem); (case p2 => k_mem); k_whole); intro hQq7 tkQq7 tQq7 FQq7 NQq7; (try k_sweep))
  k_with "wpAt" => ((fail_if_success (have : PhaseS := by assumption)); refine hold_out ?_)
  exact True.intro
theorem pop_spec {x dx : Addr} {vs : List Value} {n : Nat} {hh c0 : Int} {ks tc : Tok} {gg : Obj → List (Addr × Obj)} {us : List Value} {v : Value} (B : Below A₀ base outer h₀) (F : Fr h₀ L s.heap m) (X : (hd.heap_39 w.params).In h₀) (N : News h₀ L s.heap news) (T : Top pv LSv mean mg mb h₀) (hk : cs.kind = .function)
    (hd1 : dp + 2 < recursionLimit) (hu : un + 200 < cLine) (hx : (x, accObj dx vs n) ∈ news) (hdx : (dx, dictOf [⟨hh, .str (Str.ofString "_initial_size") ks, .int c0 tc⟩] 1) ∈ news) (U : UpdF x (accObj dx vs n) news gg) (hv : vs = us ++ [v]) (hlen : vs.length ≤ 1000)
    (hret : ∀ h' tk' n', Fr h₀ L h' m → News h₀ L h' (gg (accObj dx us n')) → Q v { s with heap := h', toks := tk' }) :
    wpAny (model PySem.Challenge.rw_rl0132_01.prog w) (ktrTop dp un gd cn cs L a ccd cl outer) (call (.ref 232) [.ref x]) Q E s := by
  revert w pv LSv mean mg mb dp un gd cn cs a ccd cl outer A₀ base h₀ L m news s Q E x dx vs n hh c0 ks tc gg us v
  refine (?zh : ∀ w pv LSv mean mg mb dp un gd cn cs a ccd cl outer A₀ base h₀ L m news s Q E x dx vs n hh c0 ks tc gg us v, (?zP : _ → _ → _ → _ → _ → _ → _ → _ → _ → _ → _ → _ → _ → _ → _ → _ → _ → _ → _ → _ → _ → _ → _ → _ → _ → _ → _ → _ → _ → _ → _ → _ → _ → _ → _ → Prop) w pv LSv mean mg mb dp un gd cn cs a ccd cl outer A₀ base h₀ L m news s Q E x dx vs n hh c0 ks tc gg us v)
  refine fun w pv LSv mean mg mb dp un gd cn cs a ccd cl outer A₀ base h₀ L m news s Q E x dx vs n hh c0 ks tc gg us v => allE (P := un2 fun w => un2 fun pv => un2 fun LSv => un2 fun mean => un2 fun mg => un2 fun mb => un2 fun dp => un2 fun un => un2 fun gd => un2 fun cn => un2 fun cs => un2 fun a => un2 fun ccd => un2 fun cl => un2 fun outer => un2 fun A₀ => un2 fun base => un2 fun h₀ => un2 fun L => un2 fun m => un2 fun news => un2 fun s => un2 fun Q => un2 fun E => un2 fun x => un2 fun dx => un2 fun vs => un2 fun n => un2 fun hh => un2 fun c0 => un2 fun ks => un2 fun tc => un2 fun gg => un2 fun us v => ?zP w pv LSv mean mg mb dp un gd cn cs a ccd cl outer A₀ base h₀ L m news s Q E x dx vs n hh c0 ks tc gg us v) ?zn ?zk (w, pv, LSv, mean, mg, mb, dp, un, gd, cn, cs, a, ccd, cl, outer, A₀, base, h₀, L, m, news, s, Q, E, x, dx, vs, n, hh, c0, ks, tc, gg, us, v)
  case zn => walk_at "ne"
  clear w pv LSv mean mg mb dp un gd cn cs a ccd cl outer A₀ base h₀ L m news s Q E x dx vs n hh c0 ks tc gg us v
  refine (?zj : AtE _ ?zE)
  refine (?zF : ∀ w pv LSv mean mg mb dp un gd cn cs a ccd cl outer A₀ base h₀ L m news s Q E x dx vs n hh c0 ks tc gg us v, ?zP w pv LSv mean mg mb dp un gd cn cs a ccd cl outer A₀ base h₀ L m news s Q E x dx vs n hh c0 ks tc gg us v) ?zE.1 ?zE.2.1 ?zE.2.2.1 ?zE.2.2.2.1 ?zE.2.2.2.2.1 ?zE.2.2.2.2.2.1 ?zE.2.2.2.2.2.2.1 ?zE.2.2.2.2.2.2.2.1 ?zE.2.2.2.2.2.2.2.2.1 ?zE.2.2.2.2.2.2.2.2.2.1 ?zE.2.2.2.2.2.2.2.2.2.2.1 ?zE.2.2.2.2.2.2.2.2.2.2.2.1 ?zE.2.2.2.2.2.2.2.2.2.2.2.2.1 ?zE.2.2.2.2.2.2.2.2.2.2.2.2.2.1 ?zE.2.2.2.2.2.2.2.2.2.2.2.2.2.2.1 ?zE.2.2.2.2.2.2.2.2.2.2.2.2.2.2.2.1 ?zE.2.2.2.2.2.2.2.2.2.2.2.2.2.2.2.2.1 ?zE.2.2.2.2.2.2.2.2.2.2.2.2.2.2.2.2.2.1 ?zE.2.2.2.2.2.2.2.2.2.2.2.2.2.2.2.2.2.2.1 ?zE.2.2.2.2.2.2.2.2.2.2.2.2.2.2.2.2.2.2.2.1 ?zE.2.2.2.2.2.2.2.2.2.2.2.2.2.2.2.2.2.2.2.2.1 ?zE.2.2.2.2.2.2.2.2.2.2.2.2.2.2.2.2.2.2.2.2.2.1 ?zE.2.2.2.2.2.2.2.2.2.2.2.2.2.2.2.2.2.2.2.2.2.2.1 ?zE.2.2.2.2.2.2.2.2.2.2.2.2.2.2.2.2.2.2.2.2.2.2.2.1 ?zE.2.2.2.2.2.2.2.2.2.2.2.2.2.2.2.2.2.2.2.2.2.2.2.2.1 ?zE.2.2.2.2.2.2.2.2.2.2.2.2.2.2.2.2.2.2.2.2.2.2.2.2.2.1 ?zE.2.2.2.2.2.2.2.2.2.2.2.2.2.2.2.2.2.2.2.2.2.2.2.2.2.2.1 ?zE.2.2.2.2.2.2.2.2.2.2.2.2.2.2.2.2.2.2.2.2.2.2.2.2.2.2.2.1 ?zE.2.2.2.2.2.2.2.2.2.2.2.2.2.2.2.2.2.2.2.2.2.2.2.2.2.2.2.2.1 ?zE.2.2.2.2.2.2.2.2.2.2.2.2.2.2.2.2.2.2.2.2.2.2.2.2.2.2.2.2.2.1 ?zE.2.2.2.2.2.2.2.2.2.2.2.2.2.2.2.2.2.2.2.2.2.2.2.2.2.2.2.2.2.2.1 ?zE.2.2.2.2.2.2.2.2.2.2.2.2.2.2.2.2.2.2.2.2.2.2.2.2.2.2.2.2.2.2.2.1 ?zE.2.2.2.2.2.2.2.2.2.2.2.2.2.2.2.2.2.2.2.2.2.2.2.2.2.2.2.2.2.2.2.2.1 ?zE.2.2.2.2.2.2.2.2.2.2.2.2.2.2.2.2.2.2.2.2.2.2.2.2.2.2.2.2.2.2.2.2.2.1 ?zE.2.2.2.2.2.2.2.2.2.2.2.2.2.2.2.2.2.2.2.2.2.2.2.2.2.2.2.2.2.2.2.2.2.2
  intros w pv LSv mean mg mb dp un gd cn cs a ccd cl outer A₀ base h₀ L m news s Q E x dx vs n hh c0 ks tc gg us v
  intro B F X N T hk hd1 hu hx hdx U hv hlen hret
  revert X; k_fill; intro X
  refine wpAny_call ?_
  k_dflt (refine' ks_code_super ?k1 ?k2 ?k3 ?k4 ?k5 ?kA ?kF ?kK ?k6 ?k7 ?k8 ?k9 ?kB ?_ ?c1 ?c2 ?c3 ?c4; (case kA => exact rfl); (case kF => exact rfl); (case kK => assumption); (case k1 => k_asm); (case k2 => k_asm); (case k3 => k_asm); (case k4 => k_asm); (case k5 => k_asm); (case k6 => k_is); (case k7 => k_is); (case k8 => ktr_room); (case k9 => first | exact BindsTo.of_eq rfl | exact binds_K (by k_in) rfl (by k_is) rfl rfl rfl); (case kB => exact locs rfl); (case c1 => decide); (case c2 => exact rfl); (case c3 => exact rfl); (case c4 => exact rfl); k_whole; walk_at "e3"; intro g' L' h' FG' F' N' B' X' T' l1; (try k_lt l1); (try dsimp only); (try k_fold))
  have hv1 : vs.length = us.length + 1 := by rw [hv]; simp
  refine ks_wpAt_execs_cons ?_
  refine wpAt_of_wpAny ?_
  k_steps
  · exact absurd (by assumption) (by omega)
  refine hold_in ?_
  dsimp only
  have ph := PhaseS.mk
  k_steps
  (rename News h₀ L _ _ => kN9); (rename Fr h₀ L _ _ => kF9)
  exact hret _ _ _ kF9 (nsub kN9 (by intro p hp; first | exact hp | exact .tail _ hp | exact .tail _ (.tail _ hp)))
end
end
section
theorem fresh_D3 : True := by w_top off; exact True.intro
set_option maxHeartbeats 8000000
section
variable {w : World} {pv : Program} {LSv : List Str} {mean : ExcName → Option Value} {mg mb : Str → Option Value}
    {dp un : Nat} {gd : Option (List Code)} {cn : Str} {cs : Scope} {a : Addr} {ccd : Value} {cl : List (Str × Addr)} {outer : List Env} {A₀ : Around} {base h₀ : Heap} {L : Addr} {m : Str → Option Value} {news : List (Addr × Obj)} {s : Shared}
    {Q E : Value → Shared → Prop}
theorem rows_D3_0 : True := by
  k_with_none
  k_with "setAttr ref" => (k_here; k_dflt (refine' acc_set ?k1 ?k2 ?k3 ?k4 ?k5 ?k6 ?k7 ?k8 ?k9 ?k10 ?k11 ?k12 ?_; (case k1 => k_asm); (case k2 => k_asm); (case k3 => k_asm); (case k4 => with_reducible_and_instances k_mem); (case k5 => k_mem); (case k6 => k_is); (case k7 => kernel_rfl); (case k8 => k_is); (case k9 => k_get); (case k10 => k_put); (case k11 => k_upd); (case k12 => exact Nat.le_of_ble_eq_true rfl); k_whole); intro hQq7 FQq7 NQq7; (try k_sweep))
  k_with "setItem ref ref" => (k_here; (with_reducible show wpAny _ _ (setItem (Value.ref _) (Value.ref _) (Value.ref _)) _ _ _); k_dflt (refine' acc_setall ?k1 ?k2 ?k3 ?k4 ?k5 ?k6 ?k7 ?k8 ?k9 ?k12 ?k13 ?_; (case k1 => k_asm); (case k2 => k_asm); (case k3 => k_asm); (case k6 => k_mem); (case k4 => k_updF); (case k5 => k_mem); (case k7 => k_is); (case k8 => k_is); (case k9 => k_is); (case k12 => omega); (case k13 => omega); k_whole); intro hQq7 nQq7 FQq7 NQq7; (try dsimp only at NQq7); (try k_sweep))
  exact True.intro
theorem reset_spec {x dx : Addr} {vs : List Value} {n : Nat} {hh c0 : Int} {ks tc : Tok} {gg : Obj → List (Addr × Obj)} {g2 : Obj → Obj → List (Addr × Obj)} {us : List Value} {l2 : Addr} {n2 : Nat} (B : Below A₀ base outer h₀) (F : Fr h₀ L s.heap m) (X : (hd.heap_39 w.params).In h₀) (N : News h₀ L s.heap news) (T : Top pv LSv mean mg mb h₀) (hk : cs.kind = .function)
    (hd1 : dp + 1 < recursionLimit) (hu : un + 100 < cLine) (hx : (x, accObj dx vs n) ∈ news) (hdx : (dx, dictOf [⟨hh, .str (Str.ofString "_initial_size") ks, .int c0 tc⟩] 1) ∈ news) (U : UpdF x (accObj dx vs n) news gg) (U2 : ∀ o : Obj, UpdF dx (dictOf [⟨hh, .str (Str.ofString "_initial_size") ks, .int c0 tc⟩] 1) (gg o) (g2 o)) (hl2 : (l2, listOf us.toArray n2) ∈ news) (hlen : vs.length ≤ 1000) (hlen2 : us.length ≤ 1000)
    (hret : ∀ h' tk' n' tz, Fr h₀ L h' m → News h₀ L h' (g2 (accObj dx us n') (dictOf [⟨hh, .str (Str.ofString "_initial_size") ks, .int 0 tz⟩] 1)) → Q .none { s with heap := h', toks := tk' }) :
    wpAny (model PySem.Challenge.rw_rl0132_01.prog w) (ktrTop dp un gd cn cs L a ccd cl outer) (call (.ref 254) [.ref x, .ref l2]) Q E s := by
  revert X; k_fill; intro X
  refine wpAny_call ?_
  k_dflt (refine' code_def ?k1 ?k2 ?k3 ?k4 ?k5 ?kA ?kF ?kK ?k6 ?k7 ?k8 ?k9 ?kB ?_ ?c2 ?c3 ?c4 ?c5; (case kA => exact rfl); (case kF => exact rfl); (case kK => assumption); (case k1 => k_asm); (case k2 => k_asm); (case k3 => k_asm); (case k4 => k_asm); (case k5 => k_asm); (case k6 => k_is); (case k7 => k_is); (case k8 => ktr_room); (case k9 => first | exact BindsTo.of_eq rfl | exact binds_K (by k_in) rfl (by k_is) rfl rfl rfl); (case c5 => decide); (case kB => exact locs rfl); (case c2 => exact rfl); (case c3 => exact rfl); (case c4 => exact rfl); k_whole; intro g' L' h' FG' F' N' B' X' T'; (try dsimp only); (try k_fold))
  k_steps
  (rename News h₀ L _ _ => kN9); (rename Fr h₀ L _ _ => kF9)
  exact hret _ _ _ _ kF9 (nsub kN9 (by intro p hp; first | exact hp | exact .tail _ hp | exact .tail _ (.tail _ hp)))
end
end
section
theorem fresh_D4 : True := by w_top off; exact True.intro
set_option maxHeartbeats 8000000
section
variable {w : World} {pv : Program} {LSv : List Str} {mean : ExcName → Option Value} {mg mb : Str → Option Value}
    {dp un : Nat} {gd : Option (List Code)} {cn : Str} {cs : Scope} {a : Addr} {ccd : Value} {cl : List (Str × Addr)} {outer : List Env} {A₀ : Around} {base h₀ : Heap} {L : Addr} {m : Str → Option Value} {news : List (Addr × Obj)} {s : Shared}
    {Q E : Value → Shared → Prop}
theorem rows_D4_0 : True := by
  k_with_none
  k_with "subscriptTail Name Slice ref ref" => (k_here; (with_reducible show wpAny _ _ (subscriptTail _ _ (Value.ref _) (Value.ref _)) _ _ _); k_dflt (refine' acc_slice ?k1 ?k2 ?k3 ?k4 ?k5 ?k6 ?k7 ?k8 ?k9 ?k10 ?_ ?k12; (case k1 => k_asm); (case k2 => k_asm); (case k3 => k_asm); (case k4 => with_reducible_and_instances k_mem); (case k5 => k_mem); (case k6 => k_is); (case k7 => k_is); (case k8 => k_is); (case k9 => omega); (case k10 => omega); (case k12 => exact ⟨_, by with_unfolding_all rfl⟩); k_whole); intro DQq7 hQq7 FQq7 NQq7 l1Qq7; (try k_lt l1Qq7); (try k_sweep))
  k_with "setItem ref ref" => (k_here; (with_reducible show wpAny _ _ (setItem (Value.ref _) (Value.ref _) (Value.ref _)) _ _ _); k_dflt (refine' acc_delfrom ?k1 ?k2 ?k3 ?k4 ?k5 ?k6 ?k7 ?k8 ?k9 ?k12 ?k13 ?k14 ?_; (case k1 => k_asm); (case k2 => k_asm); (case k3 => k_asm); (case k6 => k_mem); (case k4 => k_updF); (case k5 => k_mem); (case k7 => k_is); (case k8 => k_is); (case k9 => k_is); (case k12 => omega); (case k13 => omega); (case k14 => omega); k_whole); intro hQq7 nQq7 FQq7 NQq7; (try dsimp only at NQq7); (try k_sweep))
  exact True.intro
theorem popfrom_spec {x dx : Addr} {vs : List Value} {n : Nat} {hh c0 : Int} {ks tc : Tok} {gg : Obj → List (Addr × Obj)} {i : Int} {ti : Tok} (B : Below A₀ base outer h₀) (F : Fr h₀ L s.heap m) (X : (hd.heap_39 w.params).In h₀) (N : News h₀ L s.heap news) (T : Top pv LSv mean mg mb h₀) (hk : cs.kind = .function)
    (hd1 : dp + 1 < recursionLimit) (hu : un + 100 < cLine) (hx : (x, accObj dx vs n) ∈ news) (hdx : (dx, dictOf [⟨hh, .str (Str.ofString "_initial_size") ks, .int c0 tc⟩] 1) ∈ news) (U : UpdF x (accObj dx vs n) news gg) (h0 : 0 ≤ i) (h1 : i ≤ vs.length) (hlen : vs.length ≤ 1000)
    (hret : ∀ D h' tk' n', Fr h₀ L h' m → News h₀ L h' ((D, listOf (vs.drop i.toNat).toArray 0) :: gg (accObj dx (vs.take i.toNat) n')) → (∀ p ∈ news, p.1 < D) → Q (.ref D) { s with heap := h', toks := tk' }) :
    wpAny (model PySem.Challenge.rw_rl0132_01.prog w) (ktrTop dp un gd cn cs L a ccd cl outer) (call (.ref 224) [.ref x, .int i ti]) Q E s := by
  revert w pv LSv mean mg mb dp un gd cn cs a ccd cl outer A₀ base h₀ L m news s Q E x dx vs n hh c0 ks tc gg i ti
  refine (?zh : ∀ w pv LSv mean mg mb dp un gd cn cs a ccd cl outer A₀ base h₀ L m news s Q E x dx vs n hh c0 ks tc gg i ti, (?zP : _ → _ → _ → _ → _ → _ → _ → _ → _ → _ → _ → _ → _ → _ → _ → _ → _ → _ → _ → _ → _ → _ → _ → _ → _ → _ → _ → _ → _ → _ → _ → _ → _ → _ → _ → Prop) w pv LSv mean mg mb dp un gd cn cs a ccd cl outer A₀ base h₀ L m news s Q E x dx vs n hh c0 ks tc gg i ti)
  refine fun w pv LSv mean mg mb dp un gd cn cs a ccd cl outer A₀ base h₀ L m news s Q E x dx vs n hh c0 ks tc gg i ti => allE (P := un2 fun w => un2 fun pv => un2 fun LSv => un2 fun mean => un2 fun mg => un2 fun mb => un2 fun dp => un2 fun un => un2 fun gd => un2 fun cn => un2 fun cs => un2 fun a => un2 fun ccd => un2 fun cl => un2 fun outer => un2 fun A₀ => un2 fun base => un2 fun h₀ => un2 fun L => un2 fun m => un2 fun news => un2 fun s => un2 fun Q => un2 fun E => un2 fun x => un2 fun dx => un2 fun vs => un2 fun n => un2 fun hh => un2 fun c0 => un2 fun ks => un2 fun tc => un2 fun gg => un2 fun i ti => ?zP w pv LSv mean mg mb dp un gd cn cs a ccd cl outer A₀ base h₀ L m news s Q E x dx vs n hh c0 ks tc gg i ti) ?zn ?zk (w, pv, LSv, mean, mg, mb, dp, un, gd, cn, cs, a, ccd, cl, outer, A₀, base, h₀, L, m, news, s, Q, E, x, dx, vs, n, hh, c0, ks, tc, gg, i, ti)
  case zn => walk_at "ne"
  clear w pv LSv mean mg mb dp un gd cn cs a ccd cl outer A₀ base h₀ L m news s Q E x dx vs n hh c0 ks tc gg i ti
  refine (?zj : AtE _ ?zE)
  refine (?zF : ∀ w pv LSv mean mg mb dp un gd cn cs a ccd cl outer A₀ base h₀ L m news s Q E x dx vs n hh c0 ks tc gg i ti, ?zP w pv LSv mean mg mb dp un gd cn cs a ccd cl outer A₀ base h₀ L m news s Q E x dx vs n hh c0 ks tc gg i ti) ?zE.1 ?zE.2.1 ?zE.2.2.1 ?zE.2.2.2.1 ?zE.2.2.2.2.1 ?zE.2.2.2.2.2.1 ?zE.2.2.2.2.2.2.1 ?zE.2.2.2.2.2.2.2.1 ?zE.2.2.2.2.2.2.2.2.1 ?zE.2.2.2.2.2.2.2.2.2.1 ?zE.2.2.2.2.2.2.2.2.2.2.1 ?zE.2.2.2.2.2.2.2.2.2.2.2.1 ?zE.2.2.2.2.2.2.2.2.2.2.2.2.1 ?zE.2.2.2.2.2.2.2.2.2.2.2.2.2.1 ?zE.2.2.2.2.2.2.2.2.2.2.2.2.2.2.1 ?zE.2.2.2.2.2.2.2.2.2.2.2.2.2.2.2.1 ?zE.2.2.2.2.2.2.2.2.2.2.2.2.2.2.2.2.1 ?zE.2.2.2.2.2.2.2.2.2.2.2.2.2.2.2.2.2.1 ?zE.2.2.2.2.2.2.2.2.2.2.2.2.2.2.2.2.2.2.1 ?zE.2.2.2.2.2.2.2.2.2.2.2.2.2.2.2.2.2.2.2.1 ?zE.2.2.2.2.2.2.2.2.2.2.2.2.2.2.2.2.2.2.2.2.1 ?zE.2.2.2.2.2.2.2.2.2.2.2.2.2.2.2.2.2.2.2.2.2.1 ?zE.2.2.2.2.2.2.2.2.2.2.2.2.2.2.2.2.2.2.2.2.2.2.1 ?zE.2.2.2.2.2.2.2.2.2.2.2.2.2.2.2.2.2.2.2.2.2.2.2.1 ?zE.2.2.2.2.2.2.2.2.2.2.2.2.2.2.2.2.2.2.2.2.2.2.2.2.1 ?zE.2.2.2.2.2.2.2.2.2.2.2.2.2.2.2.2.2.2.2.2.2.2.2.2.2.1 ?zE.2.2.2.2.2.2.2.2.2.2.2.2.2.2.2.2.2.2.2.2.2.2.2.2.2.2.1 ?zE.2.2.2.2.2.2.2.2.2.2.2.2.2.2.2.2.2.2.2.2.2.2.2.2.2.2.2.1 ?zE.2.2.2.2.2.2.2.2.2.2.2.2.2.2.2.2.2.2.2.2.2.2.2.2.2.2.2.2.1 ?zE.2.2.2.2.2.2.2.2.2.2.2.2.2.2.2.2.2.2.2.2.2.2.2.2.2.2.2.2.2.1 ?zE.2.2.2.2.2.2.2.2.2.2.2.2.2.2.2.2.2.2.2.2.2.2.2.2.2.2.2.2.2.2.1 ?zE.2.2.2.2.2.2.2.2.2.2.2.2.2.2.2.2.2.2.2.2.2.2.2.2.2.2.2.2.2.2.2.1 ?zE.2.2.2.2.2.2.2.2.2.2.2.2.2.2.2.2.2.2.2.2.2.2.2.2.2.2.2.2.2.2.2.2.1 ?zE.2.2.2.2.2.2.2.2.2.2.2.2.2.2.2.2.2.2.2.2.2.2.2.2.2.2.2.2.2.2.2.2.2.1 ?zE.2.2.2.2.2.2.2.2.2.2.2.2.2.2.2.2.2.2.2.2.2.2.2.2.2.2.2.2.2.2.2.2.2.2
  intros w pv LSv mean mg mb dp un gd cn cs a ccd cl outer A₀ base h₀ L m news s Q E x dx vs n hh c0 ks tc gg i ti
  intro B F X N T hk hd1 hu hx hdx U h0 h1 hlen hret
  revert X; k_fill; intro X
  refine wpAny_call ?_
  k_dflt (refine' code_def ?k1 ?k2 ?k3 ?k4 ?k5 ?kA ?kF ?kK ?k6 ?k7 ?k8 ?k9 ?kB ?_ ?c2 ?c3 ?c4 ?c5; (case kA => exact rfl); (case kF => exact rfl); (case kK => assumption); (case k1 => k_asm); (case k2 => k_asm); (case k3 => k_asm); (case k4 => k_asm); (case k5 => k_asm); (case k6 => k_is); (case k7 => k_is); (case k8 => ktr_room); (case k9 => first | exact BindsTo.of_eq rfl | exact binds_K (by k_in) rfl (by k_is) rfl rfl rfl); (case c5 => decide); (case kB => exact locs rfl); (case c2 => exact rfl); (case c3 => exact rfl); (case c4 => exact rfl); k_whole; walk_at "e3"; intro g' L' h' FG' F' N' B' X' T'; (try dsimp only); (try k_fold))
  k_steps
  (rename News h₀ L _ _ => kN9); (rename Fr h₀ L _ _ => kF9)
  exact hret _ _ _ _ kF9 (nsub kN9 (by intro p hp; first | exact hp | exact .tail _ hp | exact .tail _ (.tail _ hp))) (by first | assumption | exact allLt_mem (by assumption))
end
end
section
theorem fresh_D6 : True := by w_top off; exact True.intro
set_option maxHeartbeats 8000000
theorem UpdF.lt {d D : Addr} {o o' : Obj} {l : List (Addr × Obj)} {g : Obj → List (Addr × Obj)} (U : UpdF d o l g) (h : ∀ p ∈ l, p.1 < D) : ∀ p ∈ g o', p.1 < D := by
  obtain ⟨pre, post, e1, e2, a, b⟩ := U.split
  rw [e1] at h
  rw [e2]
  intro p hp
  rcases List.mem_append.mp hp with hp | hp
  · exact h p (List.mem_append_left _ hp)
  · rcases List.mem_cons.mp hp with rfl | hp
    · exact h (d, o) (by simp)
    · exact h p (List.mem_append_right _ (List.mem_cons_of_mem _ hp))
theorem Gen.toks' {prog : Program} {w : World} {A : Around} {K a : Addr} {n : Nat} {F : Nat → Value → Prop} {s : Shared} {tk : Nat} (X : Gen prog w A K a n F s) (h : s.toks ≤ tk) : Gen prog w A K a n F { s with toks := tk } :=
  by
  obtain ⟨fp, wr, g, St, W, h1, r⟩ := X
  exact ⟨fp, wr, g, St, W, W.frame 0 s s.heap tk h1 h (fun _ _ _ e => e), r⟩
section
variable {w : World} {pv : Program} {LSv : List Str} {mean : ExcName → Option Value} {mg mb : Str → Option Value}
    {dp un : Nat} {gd : Option (List Code)} {cn : Str} {cs : Scope} {a : Addr} {ccd : Value} {cl : List (Str × Addr)} {outer : List Env} {A₀ : Around} {base h₀ : Heap} {L : Addr} {m : Str → Option Value} {news : List (Addr × Obj)} {s : Shared}
    {Q E : Value → Shared → Prop}
theorem rows_D6_0 : True := by
  k_with_none
  k_with "getAttr ref" => (k_here; k_dflt (refine' acc_get ?k1 ?k2 ?k3 ?k4 ?k5 ?k6 ?k7 ?k8 ?k9 ?k10 ?k11 ?_; (case k1 => k_asm); (case k2 => k_asm); (case k3 => k_asm); (case k4 => with_reducible_and_instances k_mem); (case k5 => k_mem); (case k6 => kernel_rfl); (case k7 => k_is); (case k8 => k_is); (case k9 => k_is); (case k10 => k_get); (case k11 => k_handed); k_whole))
  exact True.intro
theorem alen_spec {x dx : Addr} {vs : List Value} {n : Nat} {hh c0 : Int} {ks tc : Tok} {Ts : Nat → Addr} {ta tb : Nat → Tok} {dd : Nat → Str} {ps : Array Value} {gt : Obj → List (Addr × Obj)} (B : Below A₀ base outer h₀) (F : Fr h₀ L s.heap m) (X : (hd.heap_39 w.params).In h₀) (N : News h₀ L s.heap news) (T : Top pv LSv mean mg mb h₀) (hk : cs.kind = .function)
    (hd1 : dp + 2 < recursionLimit) (hu : un + 200 < cLine) (hx : (x, accObj dx vs n) ∈ news) (hdx : (dx, dictOf [⟨hh, .str (Str.ofString "_initial_size") ks, .int c0 tc⟩] 1) ∈ news) (hT : ∀ j, j < vs.length → vs[j]? = some (.ref (Ts j)) ∧ (Ts j, tupO [.str (Str.ofString " ") (ta j), .str (dd j) (tb j)]) ∈ news) (hdd : ∀ j, j < vs.length → (dd j).length = 1) (UT : UpdF 234 (tabObj ps) news gt) (ht : TriplesOk ps.toList) (hlen : vs.length ≤ 1000) (hc0 : 0 ≤ c0) (hc1 : c0 ≤ 1000)
    (hret : ∀ h' g' tk' t ps', (AllBare s.gens → AllBare g') → Fr h₀ L h' m → News h₀ L h' (gt (tabObj ps')) → TriplesOk ps'.toList → Q (.int (c0 + 2 * (vs.length : Int)) t) { s with heap := h', gens := g', toks := tk' }) :
    wpAny (model PySem.Challenge.rw_rl0132_01.prog w) (ktrTop dp un gd cn cs L a ccd cl outer) (call (.ref 239) [.ref x]) Q E s := by
  revert w pv LSv mean mg mb dp un gd cn cs a ccd cl outer A₀ base h₀ L m news s Q E x dx vs n hh c0 ks tc Ts ta tb dd ps gt
  refine (?zh : ∀ w pv LSv mean mg mb dp un gd cn cs a ccd cl outer A₀ base h₀ L m news s Q E x dx vs n hh c0 ks tc Ts ta tb dd ps gt, (?zP : _ → _ → _ → _ → _ → _ → _ → _ → _ → _ → _ → _ → _ → _ → _ → _ → _ → _ → _ → _ → _ → _ → _ → _ → _ → _ → _ → _ → _ → _ → _ → _ → _ → _ → _ → _ → _ → _ → Prop) w pv LSv mean mg mb dp un gd cn cs a ccd cl outer A₀ base h₀ L m news s Q E x dx vs n hh c0 ks tc Ts ta tb dd ps gt)
  refine fun w pv LSv mean mg mb dp un gd cn cs a ccd cl outer A₀ base h₀ L m news s Q E x dx vs n hh c0 ks tc Ts ta tb dd ps gt => allE (P := un2 fun w => un2 fun pv => un2 fun LSv => un2 fun mean => un2 fun mg => un2 fun mb => un2 fun dp => un2 fun un => un2 fun gd => un2 fun cn => un2 fun cs => un2 fun a => un2 fun ccd => un2 fun cl => un2 fun outer => un2 fun A₀ => un2 fun base => un2 fun h₀ => un2 fun L => un2 fun m => un2 fun news => un2 fun s => un2 fun Q => un2 fun E => un2 fun x => un2 fun dx => un2 fun vs => un2 fun n => un2 fun hh => un2 fun c0 => un2 fun ks => un2 fun tc => un2 fun Ts => un2 fun ta => un2 fun tb => un2 fun dd => un2 fun ps gt => ?zP w pv LSv mean mg mb dp un gd cn cs a ccd cl outer A₀ base h₀ L m news s Q E x dx vs n hh c0 ks tc Ts ta tb dd ps gt) ?zn ?zk (w, pv, LSv, mean, mg, mb, dp, un, gd, cn, cs, a, ccd, cl, outer, A₀, base, h₀, L, m, news, s, Q, E, x, dx, vs, n, hh, c0, ks, tc, Ts, ta, tb, dd, ps, gt)
  case zn => walk_at "ne"
  clear w pv LSv mean mg mb dp un gd cn cs a ccd cl outer A₀ base h₀ L m news s Q E x dx vs n hh c0 ks tc Ts ta tb dd ps gt
  refine (?zj : AtE _ ?zE)
  refine (?zF : ∀ w pv LSv mean mg mb dp un gd cn cs a ccd cl outer A₀ base h₀ L m news s Q E x dx vs n hh c0 ks tc Ts ta tb dd ps gt, ?zP w pv LSv mean mg mb dp un gd cn cs a ccd cl outer A₀ base h₀ L m news s Q E x dx vs n hh c0 ks tc Ts ta tb dd ps gt) ?zE.1 ?zE.2.1 ?zE.2.2.1 ?zE.2.2.2.1 ?zE.2.2.2.2.1 ?zE.2.2.2.2.2.1 ?zE.2.2.2.2.2.2.1 ?zE.2.2.2.2.2.2.2.1 ?zE.2.2.2.2.2.2.2.2.1 ?zE.2.2.2.2.2.2.2.2.2.1 ?zE.2.2.2.2.2.2.2.2.2.2.1 ?zE.2.2.2.2.2.2.2.2.2.2.2.1 ?zE.2.2.2.2.2.2.2.2.2.2.2.2.1 ?zE.2.2.2.2.2.2.2.2.2.2.2.2.2.1 ?zE.2.2.2.2.2.2.2.2.2.2.2.2.2.2.1 ?zE.2.2.2.2.2.2.2.2.2.2.2.2.2.2.2.1 ?zE.2.2.2.2.2.2.2.2.2.2.2.2.2.2.2.2.1 ?zE.2.2.2.2.2.2.2.2.2.2.2.2.2.2.2.2.2.1 ?zE.2.2.2.2.2.2.2.2.2.2.2.2.2.2.2.2.2.2.1 ?zE.2.2.2.2.2.2.2.2.2.2.2.2.2.2.2.2.2.2.2.1 ?zE.2.2.2.2.2.2.2.2.2.2.2.2.2.2.2.2.2.2.2.2.1 ?zE.2.2.2.2.2.2.2.2.2.2.2.2.2.2.2.2.2.2.2.2.2.1 ?zE.2.2.2.2.2.2.2.2.2.2.2.2.2.2.2.2.2.2.2.2.2.2.1 ?zE.2.2.2.2.2.2.2.2.2.2.2.2.2.2.2.2.2.2.2.2.2.2.2.1 ?zE.2.2.2.2.2.2.2.2.2.2.2.2.2.2.2.2.2.2.2.2.2.2.2.2.1 ?zE.2.2.2.2.2.2.2.2.2.2.2.2.2.2.2.2.2.2.2.2.2.2.2.2.2.1 ?zE.2.2.2.2.2.2.2.2.2.2.2.2.2.2.2.2.2.2.2.2.2.2.2.2.2.2.1 ?zE.2.2.2.2.2.2.2.2.2.2.2.2.2.2.2.2.2.2.2.2.2.2.2.2.2.2.2.1 ?zE.2.2.2.2.2.2.2.2.2.2.2.2.2.2.2.2.2.2.2.2.2.2.2.2.2.2.2.2.1 ?zE.2.2.2.2.2.2.2.2.2.2.2.2.2.2.2.2.2.2.2.2.2.2.2.2.2.2.2.2.2.1 ?zE.2.2.2.2.2.2.2.2.2.2.2.2.2.2.2.2.2.2.2.2.2.2.2.2.2.2.2.2.2.2.1 ?zE.2.2.2.2.2.2.2.2.2.2.2.2.2.2.2.2.2.2.2.2.2.2.2.2.2.2.2.2.2.2.2.1 ?zE.2.2.2.2.2.2.2.2.2.2.2.2.2.2.2.2.2.2.2.2.2.2.2.2.2.2.2.2.2.2.2.2.1 ?zE.2.2.2.2.2.2.2.2.2.2.2.2.2.2.2.2.2.2.2.2.2.2.2.2.2.2.2.2.2.2.2.2.2.1 ?zE.2.2.2.2.2.2.2.2.2.2.2.2.2.2.2.2.2.2.2.2.2.2.2.2.2.2.2.2.2.2.2.2.2.2.1 ?zE.2.2.2.2.2.2.2.2.2.2.2.2.2.2.2.2.2.2.2.2.2.2.2.2.2.2.2.2.2.2.2.2.2.2.2.1 ?zE.2.2.2.2.2.2.2.2.2.2.2.2.2.2.2.2.2.2.2.2.2.2.2.2.2.2.2.2.2.2.2.2.2.2.2.2.1 ?zE.2.2.2.2.2.2.2.2.2.2.2.2.2.2.2.2.2.2.2.2.2.2.2.2.2.2.2.2.2.2.2.2.2.2.2.2.2
  intros w pv LSv mean mg mb dp un gd cn cs a ccd cl outer A₀ base h₀ L m news s Q E x dx vs n hh c0 ks tc Ts ta tb dd ps gt
  intro B F X N T hk hd1 hu hx hdx hT hdd UT ht hlen hc0 hc1 hret
  revert X; k_fill; intro X
  refine wpAny_call ?_
  k_dflt walk_at "en"
  k_steps
  (rename Fr _ _ _ _ => lF'); (rename News _ _ _ _ => lN'); (rename Frag.In _ _ => lX'); (rename Top _ _ _ _ _ _ => lT')
  have hroom9 : dp + 1 < recursionLimit := by omega
  k_dflt (refine genexp_acc (c := 238) (P := 234) Ts (fun j => .str (Str.ofString " ") (ta j)) (fun j => .str (dd j) (tb j)) (fun j y => ∃ t, y = .int 2 t) rfl lF' lX' lN' lT' rfl rfl (codeHd_of_K lX' (by kernel_rfl)) UT ht hx hdx (by k_is) (by k_is) hT ?helt ?hself rfl rfl (by decide) rfl rfl rfl (by decide) rfl ?room (fun _ => rfl) ?_)
  case helt =>
    intro A' E' j s₂ m₂ C code hA hj hns h1 h2 hG hB
    refine wpAny_mono (elt_len hns h1 h2 (by decide) (by rw [hdd j hj]; decide) rfl hG (mg_none_of lX' lT'.g (by k_is)) hB ((lT'.builtins _ (by decide +kernel)).trans (by boot_by_name)) rfl rfl rfl rfl) (fun y s₃ h => ?_) fun _ _ z => z
    obtain ⟨⟨t, rfl⟩, hk⟩ := h
    refine ⟨⟨t, ?_⟩, hk⟩
    rw [hdd j hj]
    rfl
  case hself =>
    intro Q' h
    exact wpAny_Name (wpAny_loadName_local rfl rfl lF'.ns rfl h)
  case room => ktr_room
  intro gen s5 ps' hgk5 F' N' ht' hdr hos hsz hG
  have hlt9 : ∀ p ∈ gt (tabObj ps'), p.1 < _ := UpdF.lt UT (fun p hp => Heap.lt_size (lN' p hp).1)
  have hL9 := lF'.ns.lt
  have hx9 : (x, accObj dx vs n) ∈ gt (tabObj ps') := UpdF.mem_old UT hx (ne_objs lN' hx (UpdF.mem' UT) (by intro e; cases e))
  have hdx9 : (dx, dictOf [⟨hh, .str (Str.ofString "_initial_size") ks, .int c0 tc⟩] 1) ∈ gt (tabObj ps') := UpdF.mem_old UT hdx (ne_objs lN' hdx (UpdF.mem' UT) (by intro e; cases e))
  clear lN' lF'
  obtain ⟨h5, g5, d5, t5, o5⟩ := s5
  dsimp only at hdr hos
  subst hdr hos
  k_steps
  k_dflt (refine sum_start (k := 2) F' N' (Gen.toks' hG (Nat.le_succ _)) (Nat.le_sub_one_of_lt hL9) (fun p hp => Nat.le_sub_one_of_lt (hlt9 p hp)) (fun j v h => h) ⟨hc0, by omega⟩ (by omega) hlen ?_)
  clear F' N' hG
  intro h' g' tk' t' hgk6 F' N'
  k_steps
  (rename News h₀ L _ _ => kN9); (rename Fr h₀ L _ _ => kF9)
  exact hret _ _ _ _ _ (by first | exact fun z9 => z9 | (intro z9; (repeat (first | exact z9 | apply_assumption)); done)) kF9 kN9 ht'
end
end
section
theorem fresh_D7 : True := by w_top off; exact True.intro
set_option maxHeartbeats 8000000
noncomputable def lineS (ds : List Str) : Str := Txt.join (Str.ofString "") (ds.map fun d => Txt.join (Str.ofString "") [Str.ofString " ", d])
theorem map_dd (dd : Nat → Str) : ∀ n, (List.range n).map (fun j => Txt.join (Str.ofString "") [Str.ofString " ", dd j]) = ((List.range n).map dd).map fun d => Txt.join (Str.ofString "") [Str.ofString " ", d] := fun n => by rw [List.map_map]; rfl
section
variable {w : World} {pv : Program} {LSv : List Str} {mean : ExcName → Option Value} {mg mb : Str → Option Value}
    {dp un : Nat} {gd : Option (List Code)} {cn : Str} {cs : Scope} {a : Addr} {ccd : Value} {cl : List (Str × Addr)} {outer : List Env} {A₀ : Around} {base h₀ : Heap} {L : Addr} {m : Str → Option Value} {news : List (Addr × Obj)} {s : Shared}
    {Q E : Value → Shared → Prop}
theorem rows_D7_0 : True := by
  k_with_none
  exact True.intro
theorem astr_spec {x dx : Addr} {vs : List Value} {n : Nat} {hh c0 : Int} {ks tc : Tok} {Ts : Nat → Addr} {ta tb : Nat → Tok} {dd : Nat → Str} {ps : Array Value} {gt : Obj → List (Addr × Obj)} (B : Below A₀ base outer h₀) (F : Fr h₀ L s.heap m) (X : (hd.heap_39 w.params).In h₀) (N : News h₀ L s.heap news) (T : Top pv LSv mean mg mb h₀) (hk : cs.kind = .function)
    (hd1 : dp + 2 < recursionLimit) (hu : un + 200 < cLine) (hx : (x, accObj dx vs n) ∈ news) (hdx : (dx, dictOf [⟨hh, .str (Str.ofString "_initial_size") ks, .int c0 tc⟩] 1) ∈ news) (hT : ∀ j, j < vs.length → vs[j]? = some (.ref (Ts j)) ∧ (Ts j, tupO [.str (Str.ofString " ") (ta j), .str (dd j) (tb j)]) ∈ news) (hdd : ∀ j, j < vs.length → (dd j).length = 1) (UT : UpdF 241 (tabObj ps) news gt) (ht : TriplesOk ps.toList) (hlen : vs.length ≤ 1000)
    (hret : ∀ h' g' tk' t ps', (AllBare s.gens → AllBare g') → Fr h₀ L h' m → News h₀ L h' (gt (tabObj ps')) → TriplesOk ps'.toList → Q (.str (lineS ((List.range vs.length).map dd)) t) { s with heap := h', gens := g', toks := tk' }) :
    wpAny (model PySem.Challenge.rw_rl0132_01.prog w) (ktrTop dp un gd cn cs L a ccd cl outer) (call (.ref 246) [.ref x]) Q E s := by
  revert w pv LSv mean mg mb dp un gd cn cs a ccd cl outer A₀ base h₀ L m news s Q E x dx vs n hh c0 ks tc Ts ta tb dd ps gt
  refine (?zh : ∀ w pv LSv mean mg mb dp un gd cn cs a ccd cl outer A₀ base h₀ L m news s Q E x dx vs n hh c0 ks tc Ts ta tb dd ps gt, (?zP : _ → _ → _ → _ → _ → _ → _ → _ → _ → _ → _ → _ → _ → _ → _ → _ → _ → _ → _ → _ → _ → _ → _ → _ → _ → _ → _ → _ → _ → _ → _ → _ → _ → _ → _ → _ → _ → _ → Prop) w pv LSv mean mg mb dp un gd cn cs a ccd cl outer A₀ base h₀ L m news s Q E x dx vs n hh c0 ks tc Ts ta tb dd ps gt)
  refine fun w pv LSv mean mg mb dp un gd cn cs a ccd cl outer A₀ base h₀ L m news s Q E x dx vs n hh c0 ks tc Ts ta tb dd ps gt => allE (P := un2 fun w => un2 fun pv => un2 fun LSv => un2 fun mean => un2 fun mg => un2 fun mb => un2 fun dp => un2 fun un => un2 fun gd => un2 fun cn => un2 fun cs => un2 fun a => un2 fun ccd => un2 fun cl => un2 fun outer => un2 fun A₀ => un2 fun base => un2 fun h₀ => un2 fun L => un2 fun m => un2 fun news => un2 fun s => un2 fun Q => un2 fun E => un2 fun x => un2 fun dx => un2 fun vs => un2 fun n => un2 fun hh => un2 fun c0 => un2 fun ks => un2 fun tc => un2 fun Ts => un2 fun ta => un2 fun tb => un2 fun dd => un2 fun ps gt => ?zP w pv LSv mean mg mb dp un gd cn cs a ccd cl outer A₀ base h₀ L m news s Q E x dx vs n hh c0 ks tc Ts ta tb dd ps gt) ?zn ?zk (w, pv, LSv, mean, mg, mb, dp, un, gd, cn, cs, a, ccd, cl, outer, A₀, base, h₀, L, m, news, s, Q, E, x, dx, vs, n, hh, c0, ks, tc, Ts, ta, tb, dd, ps, gt)
  case zn => walk_at "ne"
  clear w pv LSv mean mg mb dp un gd cn cs a ccd cl outer A₀ base h₀ L m news s Q E x dx vs n hh c0 ks tc Ts ta tb dd ps gt
  refine (?zj : AtE _ ?zE)
  refine (?zF : ∀ w pv LSv mean mg mb dp un gd cn cs a ccd cl outer A₀ base h₀ L m news s Q E x dx vs n hh c0 ks tc Ts ta tb dd ps gt, ?zP w pv LSv mean mg mb dp un gd cn cs a ccd cl outer A₀ base h₀ L m news s Q E x dx vs n hh c0 ks tc Ts ta tb dd ps gt) ?zE.1 ?zE.2.1 ?zE.2.2.1 ?zE.2.2.2.1 ?zE.2.2.2.2.1 ?zE.2.2.2.2.2.1 ?zE.2.2.2.2.2.2.1 ?zE.2.2.2.2.2.2.2.1 ?zE.2.2.2.2.2.2.2.2.1 ?zE.2.2.2.2.2.2.2.2.2.1 ?zE.2.2.2.2.2.2.2.2.2.2.1 ?zE.2.2.2.2.2.2.2.2.2.2.2.1 ?zE.2.2.2.2.2.2.2.2.2.2.2.2.1 ?zE.2.2.2.2.2.2.2.2.2.2.2.2.2.1 ?zE.2.2.2.2.2.2.2.2.2.2.2.2.2.2.1 ?zE.2.2.2.2.2.2.2.2.2.2.2.2.2.2.2.1 ?zE.2.2.2.2.2.2.2.2.2.2.2.2.2.2.2.2.1 ?zE.2.2.2.2.2.2.2.2.2.2.2.2.2.2.2.2.2.1 ?zE.2.2.2.2.2.2.2.2.2.2.2.2.2.2.2.2.2.2.1 ?zE.2.2.2.2.2.2.2.2.2.2.2.2.2.2.2.2.2.2.2.1 ?zE.2.2.2.2.2.2.2.2.2.2.2.2.2.2.2.2.2.2.2.2.1 ?zE.2.2.2.2.2.2.2.2.2.2.2.2.2.2.2.2.2.2.2.2.2.1 ?zE.2.2.2.2.2.2.2.2.2.2.2.2.2.2.2.2.2.2.2.2.2.2.1 ?zE.2.2.2.2.2.2.2.2.2.2.2.2.2.2.2.2.2.2.2.2.2.2.2.1 ?zE.2.2.2.2.2.2.2.2.2.2.2.2.2.2.2.2.2.2.2.2.2.2.2.2.1 ?zE.2.2.2.2.2.2.2.2.2.2.2.2.2.2.2.2.2.2.2.2.2.2.2.2.2.1 ?zE.2.2.2.2.2.2.2.2.2.2.2.2.2.2.2.2.2.2.2.2.2.2.2.2.2.2.1 ?zE.2.2.2.2.2.2.2.2.2.2.2.2.2.2.2.2.2.2.2.2.2.2.2.2.2.2.2.1 ?zE.2.2.2.2.2.2.2.2.2.2.2.2.2.2.2.2.2.2.2.2.2.2.2.2.2.2.2.2.1 ?zE.2.2.2.2.2.2.2.2.2.2.2.2.2.2.2.2.2.2.2.2.2.2.2.2.2.2.2.2.2.1 ?zE.2.2.2.2.2.2.2.2.2.2.2.2.2.2.2.2.2.2.2.2.2.2.2.2.2.2.2.2.2.2.1 ?zE.2.2.2.2.2.2.2.2.2.2.2.2.2.2.2.2.2.2.2.2.2.2.2.2.2.2.2.2.2.2.2.1 ?zE.2.2.2.2.2.2.2.2.2.2.2.2.2.2.2.2.2.2.2.2.2.2.2.2.2.2.2.2.2.2.2.2.1 ?zE.2.2.2.2.2.2.2.2.2.2.2.2.2.2.2.2.2.2.2.2.2.2.2.2.2.2.2.2.2.2.2.2.2.1 ?zE.2.2.2.2.2.2.2.2.2.2.2.2.2.2.2.2.2.2.2.2.2.2.2.2.2.2.2.2.2.2.2.2.2.2.1 ?zE.2.2.2.2.2.2.2.2.2.2.2.2.2.2.2.2.2.2.2.2.2.2.2.2.2.2.2.2.2.2.2.2.2.2.2.1 ?zE.2.2.2.2.2.2.2.2.2.2.2.2.2.2.2.2.2.2.2.2.2.2.2.2.2.2.2.2.2.2.2.2.2.2.2.2.1 ?zE.2.2.2.2.2.2.2.2.2.2.2.2.2.2.2.2.2.2.2.2.2.2.2.2.2.2.2.2.2.2.2.2.2.2.2.2.2
  intros w pv LSv mean mg mb dp un gd cn cs a ccd cl outer A₀ base h₀ L m news s Q E x dx vs n hh c0 ks tc Ts ta tb dd ps gt
  intro B F X N T hk hd1 hu hx hdx hT hdd UT ht hlen hret
  revert X; k_fill; intro X
  refine wpAny_call ?_
  k_dflt walk_at "en"
  k_steps
  (rename Fr _ _ _ _ => lF'); (rename News _ _ _ _ => lN'); (rename Frag.In _ _ => lX'); (rename Top _ _ _ _ _ _ => lT')
  have hroom9 : dp + 1 < recursionLimit := by omega
  k_dflt (refine genexp_acc (c := 245) (P := 241) Ts (fun j => .str (Str.ofString " ") (ta j)) (fun j => .str (dd j) (tb j)) (fun j y => ∃ t, y = .str (Txt.join (Str.ofString "") [Str.ofString " ", dd j]) t) rfl lF' lX' lN' lT' rfl rfl (codeHd_of_K lX' (by kernel_rfl)) UT ht hx hdx (by k_is) (by k_is) hT ?helt ?hself rfl rfl (by decide) rfl rfl rfl (by decide) rfl ?room (fun _ => rfl) ?_)
  case helt =>
    intro A' E' j s₂ m₂ C code hA hj hns h1 h2 hG hB
    refine wpAny_mono (elt_str hns h1 h2 (by decide) (by rw [hdd j hj]; decide) rfl hG (mg_of lX' lT'.g (by k_is)) rfl rfl rfl rfl rfl) (fun y s₃ h => h) fun _ _ z => z
  case hself =>
    intro Q' h
    exact wpAny_Name (wpAny_loadName_local rfl rfl lF'.ns rfl h)
  case room => ktr_room
  intro gen s5 ps' hgk5 F' N' ht' hdr hos hsz hG
  have hlt9 : ∀ p ∈ gt (tabObj ps'), p.1 < _ := UpdF.lt UT (fun p hp => Heap.lt_size (lN' p hp).1)
  have hL9 := lF'.ns.lt
  clear lN' lF'
  obtain ⟨h5, g5, d5, t5, o5⟩ := s5
  dsimp only at hdr hos
  subst hdr hos
  k_steps
  k_dflt (refine join_gen F' N' hG (Nat.le_sub_one_of_lt hL9) (fun p hp => Nat.le_sub_one_of_lt (hlt9 p hp)) (fun j => Txt.join (Str.ofString "") [Str.ofString " ", dd j]) (fun j v h => h) (fun j hj => by rw [chunk_len (hdd j hj)]; decide) (by decide) hlen ?_)
  clear F' N' hG
  intro h' g' tk' t' hgk6 F' N'
  rw [map_dd]
  k_steps
  (rename News h₀ L _ _ => kN9); (rename Fr h₀ L _ _ => kF9)
  exact hret _ _ _ _ _ (by first | exact fun z9 => z9 | (intro z9; (repeat (first | exact z9 | apply_assumption)); done)) kF9 kN9 ht'
end
end
section
theorem fresh_D1b : True := by w_top off; exact True.intro
set_option maxHeartbeats 8000000
section
variable {w : World} {pv : Program} {LSv : List Str} {mean : ExcName → Option Value} {mg mb : Str → Option Value}
    {dp un : Nat} {gd : Option (List Code)} {cn : Str} {cs : Scope} {a : Addr} {ccd : Value} {cl : List (Str × Addr)} {outer : List Env} {A₀ : Around} {base h₀ : Heap} {L : Addr} {m : Str → Option Value} {news : List (Addr × Obj)} {s : Shared}
    {Q E : Value → Shared → Prop}
theorem rows_D1b_0 : True := by
  k_with_none
  k_with "getMethod ref" => (k_here; k_dflt (refine' acc_methB ?k1 ?k2 ?k3 ?k4 ?k5 ?k6 ?k7 ?k8 ?k9 ?_; (case k1 => k_asm); (case k2 => k_asm); (case k3 => k_asm); (case k4 => with_reducible_and_instances k_mem); (case k5 => k_mem); (case k6 => kernel_rfl); (case k7 => k_is); (case k8 => (show builtinType _ = _; rw [builtinType_eq_fast]; kernel_rfl)); (case k9 => k_get); k_whole))
  k_with "call builtin:list.append" => (k_here; (with_reducible show wpAny _ _ (call (Value.builtin _) [Value.ref _, _]) _ _ _); k_dflt (refine' acc_append ?k1 ?k2 ?k3 ?k4 ?k5 ?k6 ?_; (case k1 => k_asm); (case k2 => k_asm); (case k3 => k_asm); (case k4 => k_updF); (case k5 => k_is); (case k6 => omega); k_whole); intro hQq7 nQq7 FQq7 NQq7; (try dsimp only at NQq7); (try k_sweep))
  exact True.intro
theorem pushM_spec {x dx : Addr} {vs : List Value} {n : Nat} {hh c0 : Int} {ks tc : Tok} {f e : Str} {tf te : Tok} {q : Addr} {gg : Obj → List (Addr × Obj)} (B : Below A₀ base outer h₀) (F : Fr h₀ L s.heap m) (X : (hd.heap_39 w.params).In h₀) (N : News h₀ L s.heap news) (T : Top pv LSv mean mg mb h₀) (hk : cs.kind = .function)
    (hd1 : dp + 1 < recursionLimit) (hu : un + 100 < cLine) (hx : (x, accObj dx vs n) ∈ news) (hdx : (dx, dictOf [⟨hh, .str (Str.ofString "_initial_size") ks, .int c0 tc⟩] 1) ∈ news) (hq : (q, methodObj (.ref 216) (.ref x)) ∈ news) (U : UpdF x (accObj dx vs n) news gg) (hlen : vs.length ≤ 1000)
    (hret : ∀ h' tk' n' t, Fr h₀ L h' m → News h₀ L h' ((t, tupO [.str f tf, .str e te]) :: gg (accObj dx (vs ++ [.ref t]) n')) → (∀ p ∈ news, p.1 < t) → Q .none { s with heap := h', toks := tk' }) :
    wpAny (model PySem.Challenge.rw_rl0132_01.prog w) (ktrTop dp un gd cn cs L a ccd cl outer) (call (.ref q) [.str f tf, .str e te]) Q E s := by
  revert X; k_fill; intro X
  k_dflt (refine' call_meth ?k1 ?k2 ?_; (case k1 => k_asm); (case k2 => exact hq); k_whole; ktr_enter)
  k_steps
  (rename News h₀ L _ _ => kN9); (rename Fr h₀ L _ _ => kF9)
  exact hret _ _ _ _ kF9 kN9 (by assumption)
end
end
section
theorem fresh_D3b : True := by w_top off; exact True.intro
set_option maxHeartbeats 8000000
section
variable {w : World} {pv : Program} {LSv : List Str} {mean : ExcName → Option Value} {mg mb : Str → Option Value}
    {dp un : Nat} {gd : Option (List Code)} {cn : Str} {cs : Scope} {a : Addr} {ccd : Value} {cl : List (Str × Addr)} {outer : List Env} {A₀ : Around} {base h₀ : Heap} {L : Addr} {m : Str → Option Value} {news : List (Addr × Obj)} {s : Shared}
    {Q E : Value → Shared → Prop}
theorem rows_D3b_0 : True := by
  k_with_none
  k_with "setAttr ref" => (k_here; k_dflt (refine' acc_set ?k1 ?k2 ?k3 ?k4 ?k5 ?k6 ?k7 ?k8 ?k9 ?k10 ?k11 ?k12 ?_; (case k1 => k_asm); (case k2 => k_asm); (case k3 => k_asm); (case k4 => with_reducible_and_instances k_mem); (case k5 => k_mem); (case k6 => k_is); (case k7 => kernel_rfl); (case k8 => k_is); (case k9 => k_get); (case k10 => k_put); (case k11 => k_upd); (case k12 => exact Nat.le_of_ble_eq_true rfl); k_whole); intro hQq7 FQq7 NQq7; (try k_sweep))
  k_with "setItem ref ref" => (k_here; (with_reducible show wpAny _ _ (setItem (Value.ref _) (Value.ref _) (Value.ref _)) _ _ _); k_dflt (refine' acc_setall ?k1 ?k2 ?k3 ?k4 ?k5 ?k6 ?k7 ?k8 ?k9 ?k12 ?k13 ?_; (case k1 => k_asm); (case k2 => k_asm); (case k3 => k_asm); (case k6 => k_mem); (case k4 => k_updF); (case k5 => k_mem); (case k7 => k_is); (case k8 => k_is); (case k9 => k_is); (case k12 => omega); (case k13 => first | omega | exact Nat.zero_le _); k_whole); intro hQq7 nQq7 FQq7 NQq7; (try dsimp only at NQq7); (try k_sweep))
  exact True.intro
theorem reset_spec0 {x dx : Addr} {vs : List Value} {n : Nat} {hh c0 : Int} {ks tc : Tok} {gg : Obj → List (Addr × Obj)} {g2 : Obj → Obj → List (Addr × Obj)} (B : Below A₀ base outer h₀) (F : Fr h₀ L s.heap m) (X : (hd.heap_39 w.params).In h₀) (N : News h₀ L s.heap news) (T : Top pv LSv mean mg mb h₀) (hk : cs.kind = .function)
    (hd1 : dp + 1 < recursionLimit) (hu : un + 100 < cLine) (hx : (x, accObj dx vs n) ∈ news) (hdx : (dx, dictOf [⟨hh, .str (Str.ofString "_initial_size") ks, .int c0 tc⟩] 1) ∈ news) (U : UpdF x (accObj dx vs n) news gg) (U2 : ∀ o : Obj, UpdF dx (dictOf [⟨hh, .str (Str.ofString "_initial_size") ks, .int c0 tc⟩] 1) (gg o) (g2 o)) (hlen : vs.length ≤ 1000)
    (hret : ∀ h' tk' n' tz, Fr h₀ L h' m → News h₀ L h' (g2 (accObj dx [] n') (dictOf [⟨hh, .str (Str.ofString "_initial_size") ks, .int 0 tz⟩] 1)) → Q .none { s with heap := h', toks := tk' }) :
    wpAny (model PySem.Challenge.rw_rl0132_01.prog w) (ktrTop dp un gd cn cs L a ccd cl outer) (call (.ref 254) [.ref x]) Q E s := by
  revert w pv LSv mean mg mb dp un gd cn cs a ccd cl outer A₀ base h₀ L m news s Q E x dx vs n hh c0 ks tc gg g2
  refine (?zh : ∀ w pv LSv mean mg mb dp un gd cn cs a ccd cl outer A₀ base h₀ L m news s Q E x dx vs n hh c0 ks tc gg g2, (?zP : _ → _ → _ → _ → _ → _ → _ → _ → _ → _ → _ → _ → _ → _ → _ → _ → _ → _ → _ → _ → _ → _ → _ → _ → _ → _ → _ → _ → _ → _ → _ → _ → _ → _ → Prop) w pv LSv mean mg mb dp un gd cn cs a ccd cl outer A₀ base h₀ L m news s Q E x dx vs n hh c0 ks tc gg g2)
  refine fun w pv LSv mean mg mb dp un gd cn cs a ccd cl outer A₀ base h₀ L m news s Q E x dx vs n hh c0 ks tc gg g2 => allE (P := un2 fun w => un2 fun pv => un2 fun LSv => un2 fun mean => un2 fun mg => un2 fun mb => un2 fun dp => un2 fun un => un2 fun gd => un2 fun cn => un2 fun cs => un2 fun a => un2 fun ccd => un2 fun cl => un2 fun outer => un2 fun A₀ => un2 fun base => un2 fun h₀ => un2 fun L => un2 fun m => un2 fun news => un2 fun s => un2 fun Q => un2 fun E => un2 fun x => un2 fun dx => un2 fun vs => un2 fun n => un2 fun hh => un2 fun c0 => un2 fun ks => un2 fun tc => un2 fun gg g2 => ?zP w pv LSv mean mg mb dp un gd cn cs a ccd cl outer A₀ base h₀ L m news s Q E x dx vs n hh c0 ks tc gg g2) ?zn ?zk (w, pv, LSv, mean, mg, mb, dp, un, gd, cn, cs, a, ccd, cl, outer, A₀, base, h₀, L, m, news, s, Q, E, x, dx, vs, n, hh, c0, ks, tc, gg, g2)
  case zn => walk_at "ne"
  clear w pv LSv mean mg mb dp un gd cn cs a ccd cl outer A₀ base h₀ L m news s Q E x dx vs n hh c0 ks tc gg g2
  refine (?zj : AtE _ ?zE)
  refine (?zF : ∀ w pv LSv mean mg mb dp un gd cn cs a ccd cl outer A₀ base h₀ L m news s Q E x dx vs n hh c0 ks tc gg g2, ?zP w pv LSv mean mg mb dp un gd cn cs a ccd cl outer A₀ base h₀ L m news s Q E x dx vs n hh c0 ks tc gg g2) ?zE.1 ?zE.2.1 ?zE.2.2.1 ?zE.2.2.2.1 ?zE.2.2.2.2.1 ?zE.2.2.2.2.2.1 ?zE.2.2.2.2.2.2.1 ?zE.2.2.2.2.2.2.2.1 ?zE.2.2.2.2.2.2.2.2.1 ?zE.2.2.2.2.2.2.2.2.2.1 ?zE.2.2.2.2.2.2.2.2.2.2.1 ?zE.2.2.2.2.2.2.2.2.2.2.2.1 ?zE.2.2.2.2.2.2.2.2.2.2.2.2.1 ?zE.2.2.2.2.2.2.2.2.2.2.2.2.2.1 ?zE.2.2.2.2.2.2.2.2.2.2.2.2.2.2.1 ?zE.2.2.2.2.2.2.2.2.2.2.2.2.2.2.2.1 ?zE.2.2.2.2.2.2.2.2.2.2.2.2.2.2.2.2.1 ?zE.2.2.2.2.2.2.2.2.2.2.2.2.2.2.2.2.2.1 ?zE.2.2.2.2.2.2.2.2.2.2.2.2.2.2.2.2.2.2.1 ?zE.2.2.2.2.2.2.2.2.2.2.2.2.2.2.2.2.2.2.2.1 ?zE.2.2.2.2.2.2.2.2.2.2.2.2.2.2.2.2.2.2.2.2.1 ?zE.2.2.2.2.2.2.2.2.2.2.2.2.2.2.2.2.2.2.2.2.2.1 ?zE.2.2.2.2.2.2.2.2.2.2.2.2.2.2.2.2.2.2.2.2.2.2.1 ?zE.2.2.2.2.2.2.2.2.2.2.2.2.2.2.2.2.2.2.2.2.2.2.2.1 ?zE.2.2.2.2.2.2.2.2.2.2.2.2.2.2.2.2.2.2.2.2.2.2.2.2.1 ?zE.2.2.2.2.2.2.2.2.2.2.2.2.2.2.2.2.2.2.2.2.2.2.2.2.2.1 ?zE.2.2.2.2.2.2.2.2.2.2.2.2.2.2.2.2.2.2.2.2.2.2.2.2.2.2.1 ?zE.2.2.2.2.2.2.2.2.2.2.2.2.2.2.2.2.2.2.2.2.2.2.2.2.2.2.2.1 ?zE.2.2.2.2.2.2.2.2.2.2.2.2.2.2.2.2.2.2.2.2.2.2.2.2.2.2.2.2.1 ?zE.2.2.2.2.2.2.2.2.2.2.2.2.2.2.2.2.2.2.2.2.2.2.2.2.2.2.2.2.2.1 ?zE.2.2.2.2.2.2.2.2.2.2.2.2.2.2.2.2.2.2.2.2.2.2.2.2.2.2.2.2.2.2.1 ?zE.2.2.2.2.2.2.2.2.2.2.2.2.2.2.2.2.2.2.2.2.2.2.2.2.2.2.2.2.2.2.2.1 ?zE.2.2.2.2.2.2.2.2.2.2.2.2.2.2.2.2.2.2.2.2.2.2.2.2.2.2.2.2.2.2.2.2.1 ?zE.2.2.2.2.2.2.2.2.2.2.2.2.2.2.2.2.2.2.2.2.2.2.2.2.2.2.2.2.2.2.2.2.2
  intros w pv LSv mean mg mb dp un gd cn cs a ccd cl outer A₀ base h₀ L m news s Q E x dx vs n hh c0 ks tc gg g2
  intro B F X N T hk hd1 hu hx hdx U U2 hlen hret
  revert X; k_fill; intro X
  refine wpAny_call ?_
  k_dflt (refine' code_def ?k1 ?k2 ?k3 ?k4 ?k5 ?kA ?kF ?kK ?k6 ?k7 ?k8 ?k9 ?kB ?_ ?c2 ?c3 ?c4 ?c5; (case kA => exact rfl); (case kF => exact rfl); (case kK => assumption); (case k1 => k_asm); (case k2 => k_asm); (case k3 => k_asm); (case k4 => k_asm); (case k5 => k_asm); (case k6 => k_is); (case k7 => k_is); (case k8 => ktr_room); (case k9 => first | exact BindsTo.of_eq rfl | exact binds_K (by k_in) rfl (by k_is) rfl rfl rfl); (case c5 => decide); (case kB => exact locs rfl); (case c2 => exact rfl); (case c3 => exact rfl); (case c4 => exact rfl); k_whole; walk_at "e3"; intro g' L' h' FG' F' N' B' X' T'; (try dsimp only); (try k_fold))
  k_steps
  (rename News h₀ L _ _ => kN9); (rename Fr h₀ L _ _ => kF9)
  exact hret _ _ _ _ kF9 (nsub kN9 (by intro p hp; first | exact hp | exact .tail _ hp | exact .tail _ (.tail _ hp)))
end
end
end
end
end
end
end
end
end
section
local macro_rules | `(tactic| omega) => `(tactic| (run_tac ar))
section
local macro_rules | `(tactic| k_ne) => `(tactic| (refine neN ?_; (try dsimp only); (run_tac ar)))
section
theorem fresh_C3 : True := by w_top off; exact True.intro
set_option maxHeartbeats 8000000
noncomputable abbrev LS : List Str := looseW hd.view_39 [Str.ofString "Whitespace", Str.ofString "ONE_THIRD", Str.ofString "ONE_SIXTH", Str.ofString "TWO_THIRD", Str.ofString "_Accumulator"]
noncomputable def ilF (ns : List Int) (ts : Int) : Int := (rangeKs ts ((ns.length : Int) - ts).toNat).foldl (fun a k => a + Int.fdiv k ts * ns.getD k.toNat 0) 0
noncomputable def levF (ns : List Int) (nt b ts : Int) : Int := b + ts * (ilF ns ts + nt)
noncomputable def lrF (ns : List Int) (b : Int) : Int := if b > (ns.length : Int) - 1 then b else (ns.length : Int) - 1
section
variable {w : World} {pv : Program} {LSv : List Str} {mean : ExcName → Option Value} {mg mb : Str → Option Value}
    {dp un : Nat} {gd : Option (List Code)} {cn : Str} {cs : Scope} {a : Addr} {ccd : Value} {cl : List (Str × Addr)} {outer : List Env} {A₀ : Around} {base h₀ : Heap} {L : Addr} {m : Str → Option Value} {news : List (Addr × Obj)} {s : Shared}
    {Q E : Value → Shared → Prop}
theorem rows_C3_0 : True := by
  k_with_none
  k_with "call builtin:len" => (k_here; (with_reducible show wpAny _ _ (call (Value.builtin "len") [Value.ref _]) _ _ _); k_dflt (refine' len_tupN ?k1 ?k2 ?k3 ?k4 ?_; (case k1 => k_asm); (case k2 => k_mem); (case k3 => assumption); (case k4 => omega); k_whole); intro tQq7 tkQq7)
  k_with "subscriptTail" => (k_here; (with_reducible show wpAny _ _ (subscriptTail _ _ (Value.ref _) (Value.int _ _)) _ _ _); k_dflt (refine' item_tupN ?k1 ?k2 ?k3 ?k4 ?k5 ?k6 ?k7 ?_; (case k1 => k_asm); (case k2 => k_mem); (case k3 => assumption); (case k4 => omega); (case k5 => omega); (case k6 => omega); (case k7 => assumption); k_whole); intro tQq7 hloQq7 hhiQq7)
  k_with "binaryOp Mult int int" => (k_here; (first | refine mulR (by omega) (by omega) ?_ | refine mulL (by omega) (by omega) ?_); intro tQq7 tkQq7)
  k_with "PostM" => (dsimp only [PostM])
  k_with "exec For Name Call cons nil" => refine hold_out ?_
  exact True.intro
theorem lrun_spec {x1 dx1 tn1 tc1 : Addr} {raw1 : Str} {n1 nt1 b1 : Int} {sim1 : Bool} {vs1 : List Value} {ns1 : List Int} {g11 g12 g13 g14 g15 : Int} {k11 k12 k13 k14 k15 q11 q12 q13 q15 : Tok} (B : Below A₀ base outer h₀) (F : Fr h₀ L s.heap m) (X : (hd.heap_39 w.params).In h₀) (N : News h₀ L s.heap news) (T : Top pv LSv mean mg mb h₀) (hk : cs.kind = .function)
    (hd1 : dp + 1 < recursionLimit) (hu : un + 100 < cLine) (hx1 : (x1, instObj 83 dx1) ∈ news) (hdx1 : (dx1, dictOf [⟨g11, .str (Str.ofString "raw") k11, .str raw1 q11⟩, ⟨g12, .str (Str.ofString "n") k12, .int n1 q12⟩, ⟨g13, .str (Str.ofString "nt") k13, .int nt1 q13⟩, ⟨g14, .str (Str.ofString "norm") k14, .ref tn1⟩, ⟨g15, .str (Str.ofString "is_simple") k15, .bool sim1⟩] 5) ∈ news)
    (htn1 : (tn1, tupO [.ref tc1, .int b1 q15]) ∈ news) (htc1 : (tc1, tupO vs1) ∈ news) (hi1 : IntsAre vs1 ns1) (hlen1 : ns1.length ≤ 10)
    (hret : ∀ r tk h' tk', r = lrF ns1 b1 → Fr h₀ L h' m → News h₀ L h' news → Q (.int r tk) { s with heap := h', toks := tk' }) :
    wpAny (model PySem.Challenge.rw_rl0132_01.prog w) (ktrTop dp un gd cn cs L a ccd cl outer) (call (.ref 45) [.ref x1]) Q E s := by
  revert w pv LSv mean mg mb dp un gd cn cs a ccd cl outer A₀ base h₀ L m news s Q E x1 dx1 tn1 tc1 raw1 n1 nt1 b1 sim1 vs1 ns1 g11 g12 g13 g14 g15 k11 k12 k13 k14 k15 q11 q12 q13 q15
  refine (?zh : ∀ w pv LSv mean mg mb dp un gd cn cs a ccd cl outer A₀ base h₀ L m news s Q E x1 dx1 tn1 tc1 raw1 n1 nt1 b1 sim1 vs1 ns1 g11 g12 g13 g14 g15 k11 k12 k13 k14 k15 q11 q12 q13 q15, (?zP : _ → _ → _ → _ → _ → _ → _ → _ → _ → _ → _ → _ → _ → _ → _ → _ → _ → _ → _ → _ → _ → _ → _ → _ → _ → _ → _ → _ → _ → _ → _ → _ → _ → _ → _ → _ → _ → _ → _ → _ → _ → _ → _ → _ → _ → _ → _ → _ → _ → Prop) w pv LSv mean mg mb dp un gd cn cs a ccd cl outer A₀ base h₀ L m news s Q E x1 dx1 tn1 tc1 raw1 n1 nt1 b1 sim1 vs1 ns1 g11 g12 g13 g14 g15 k11 k12 k13 k14 k15 q11 q12 q13 q15)
  refine fun w pv LSv mean mg mb dp un gd cn cs a ccd cl outer A₀ base h₀ L m news s Q E x1 dx1 tn1 tc1 raw1 n1 nt1 b1 sim1 vs1 ns1 g11 g12 g13 g14 g15 k11 k12 k13 k14 k15 q11 q12 q13 q15 => allE (P := un2 fun w => un2 fun pv => un2 fun LSv => un2 fun mean => un2 fun mg => un2 fun mb => un2 fun dp => un2 fun un => un2 fun gd => un2 fun cn => un2 fun cs => un2 fun a => un2 fun ccd => un2 fun cl => un2 fun outer => un2 fun A₀ => un2 fun base => un2 fun h₀ => un2 fun L => un2 fun m => un2 fun news => un2 fun s => un2 fun Q => un2 fun E => un2 fun x1 => un2 fun dx1 => un2 fun tn1 => un2 fun tc1 => un2 fun raw1 => un2 fun n1 => un2 fun nt1 => un2 fun b1 => un2 fun sim1 => un2 fun vs1 => un2 fun ns1 => un2 fun g11 => un2 fun g12 => un2 fun g13 => un2 fun g14 => un2 fun g15 => un2 fun k11 => un2 fun k12 => un2 fun k13 => un2 fun k14 => un2 fun k15 => un2 fun q11 => un2 fun q12 => un2 fun q13 q15 => ?zP w pv LSv mean mg mb dp un gd cn cs a ccd cl outer A₀ base h₀ L m news s Q E x1 dx1 tn1 tc1 raw1 n1 nt1 b1 sim1 vs1 ns1 g11 g12 g13 g14 g15 k11 k12 k13 k14 k15 q11 q12 q13 q15) ?zn ?zk (w, pv, LSv, mean, mg, mb, dp, un, gd, cn, cs, a, ccd, cl, outer, A₀, base, h₀, L, m, news, s, Q, E, x1, dx1, tn1, tc1, raw1, n1, nt1, b1, sim1, vs1, ns1, g11, g12, g13, g14, g15, k11, k12, k13, k14, k15, q11, q12, q13, q15)
  case zn => walk_at "ne"
  clear w pv LSv mean mg mb dp un gd cn cs a ccd cl outer A₀ base h₀ L m news s Q E x1 dx1 tn1 tc1 raw1 n1 nt1 b1 sim1 vs1 ns1 g11 g12 g13 g14 g15 k11 k12 k13 k14 k15 q11 q12 q13 q15
  refine (?zj : AtE _ ?zE)
  refine (?zF : ∀ w pv LSv mean mg mb dp un gd cn cs a ccd cl outer A₀ base h₀ L m news s Q E x1 dx1 tn1 tc1 raw1 n1 nt1 b1 sim1 vs1 ns1 g11 g12 g13 g14 g15 k11 k12 k13 k14 k15 q11 q12 q13 q15, ?zP w pv LSv mean mg mb dp un gd cn cs a ccd cl outer A₀ base h₀ L m news s Q E x1 dx1 tn1 tc1 raw1 n1 nt1 b1 sim1 vs1 ns1 g11 g12 g13 g14 g15 k11 k12 k13 k14 k15 q11 q12 q13 q15) ?zE.1 ?zE.2.1 ?zE.2.2.1 ?zE.2.2.2.1 ?zE.2.2.2.2.1 ?zE.2.2.2.2.2.1 ?zE.2.2.2.2.2.2.1 ?zE.2.2.2.2.2.2.2.1 ?zE.2.2.2.2.2.2.2.2.1 ?zE.2.2.2.2.2.2.2.2.2.1 ?zE.2.2.2.2.2.2.2.2.2.2.1 ?zE.2.2.2.2.2.2.2.2.2.2.2.1 ?zE.2.2.2.2.2.2.2.2.2.2.2.2.1 ?zE.2.2.2.2.2.2.2.2.2.2.2.2.2.1 ?zE.2.2.2.2.2.2.2.2.2.2.2.2.2.2.1 ?zE.2.2.2.2.2.2.2.2.2.2.2.2.2.2.2.1 ?zE.2.2.2.2.2.2.2.2.2.2.2.2.2.2.2.2.1 ?zE.2.2.2.2.2.2.2.2.2.2.2.2.2.2.2.2.2.1 ?zE.2.2.2.2.2.2.2.2.2.2.2.2.2.2.2.2.2.2.1 ?zE.2.2.2.2.2.2.2.2.2.2.2.2.2.2.2.2.2.2.2.1 ?zE.2.2.2.2.2.2.2.2.2.2.2.2.2.2.2.2.2.2.2.2.1 ?zE.2.2.2.2.2.2.2.2.2.2.2.2.2.2.2.2.2.2.2.2.2.1 ?zE.2.2.2.2.2.2.2.2.2.2.2.2.2.2.2.2.2.2.2.2.2.2.1 ?zE.2.2.2.2.2.2.2.2.2.2.2.2.2.2.2.2.2.2.2.2.2.2.2.1 ?zE.2.2.2.2.2.2.2.2.2.2.2.2.2.2.2.2.2.2.2.2.2.2.2.2.1 ?zE.2.2.2.2.2.2.2.2.2.2.2.2.2.2.2.2.2.2.2.2.2.2.2.2.2.1 ?zE.2.2.2.2.2.2.2.2.2.2.2.2.2.2.2.2.2.2.2.2.2.2.2.2.2.2.1 ?zE.2.2.2.2.2.2.2.2.2.2.2.2.2.2.2.2.2.2.2.2.2.2.2.2.2.2.2.1 ?zE.2.2.2.2.2.2.2.2.2.2.2.2.2.2.2.2.2.2.2.2.2.2.2.2.2.2.2.2.1 ?zE.2.2.2.2.2.2.2.2.2.2.2.2.2.2.2.2.2.2.2.2.2.2.2.2.2.2.2.2.2.1 ?zE.2.2.2.2.2.2.2.2.2.2.2.2.2.2.2.2.2.2.2.2.2.2.2.2.2.2.2.2.2.2.1 ?zE.2.2.2.2.2.2.2.2.2.2.2.2.2.2.2.2.2.2.2.2.2.2.2.2.2.2.2.2.2.2.2.1 ?zE.2.2.2.2.2.2.2.2.2.2.2.2.2.2.2.2.2.2.2.2.2.2.2.2.2.2.2.2.2.2.2.2.1 ?zE.2.2.2.2.2.2.2.2.2.2.2.2.2.2.2.2.2.2.2.2.2.2.2.2.2.2.2.2.2.2.2.2.2.1 ?zE.2.2.2.2.2.2.2.2.2.2.2.2.2.2.2.2.2.2.2.2.2.2.2.2.2.2.2.2.2.2.2.2.2.2.1 ?zE.2.2.2.2.2.2.2.2.2.2.2.2.2.2.2.2.2.2.2.2.2.2.2.2.2.2.2.2.2.2.2.2.2.2.2.1 ?zE.2.2.2.2.2.2.2.2.2.2.2.2.2.2.2.2.2.2.2.2.2.2.2.2.2.2.2.2.2.2.2.2.2.2.2.2.1 ?zE.2.2.2.2.2.2.2.2.2.2.2.2.2.2.2.2.2.2.2.2.2.2.2.2.2.2.2.2.2.2.2.2.2.2.2.2.2.1 ?zE.2.2.2.2.2.2.2.2.2.2.2.2.2.2.2.2.2.2.2.2.2.2.2.2.2.2.2.2.2.2.2.2.2.2.2.2.2.2.1 ?zE.2.2.2.2.2.2.2.2.2.2.2.2.2.2.2.2.2.2.2.2.2.2.2.2.2.2.2.2.2.2.2.2.2.2.2.2.2.2.2.1 ?zE.2.2.2.2.2.2.2.2.2.2.2.2.2.2.2.2.2.2.2.2.2.2.2.2.2.2.2.2.2.2.2.2.2.2.2.2.2.2.2.2.1 ?zE.2.2.2.2.2.2.2.2.2.2.2.2.2.2.2.2.2.2.2.2.2.2.2.2.2.2.2.2.2.2.2.2.2.2.2.2.2.2.2.2.2.1 ?zE.2.2.2.2.2.2.2.2.2.2.2.2.2.2.2.2.2.2.2.2.2.2.2.2.2.2.2.2.2.2.2.2.2.2.2.2.2.2.2.2.2.2.1 ?zE.2.2.2.2.2.2.2.2.2.2.2.2.2.2.2.2.2.2.2.2.2.2.2.2.2.2.2.2.2.2.2.2.2.2.2.2.2.2.2.2.2.2.2.1 ?zE.2.2.2.2.2.2.2.2.2.2.2.2.2.2.2.2.2.2.2.2.2.2.2.2.2.2.2.2.2.2.2.2.2.2.2.2.2.2.2.2.2.2.2.2.1 ?zE.2.2.2.2.2.2.2.2.2.2.2.2.2.2.2.2.2.2.2.2.2.2.2.2.2.2.2.2.2.2.2.2.2.2.2.2.2.2.2.2.2.2.2.2.2.1 ?zE.2.2.2.2.2.2.2.2.2.2.2.2.2.2.2.2.2.2.2.2.2.2.2.2.2.2.2.2.2.2.2.2.2.2.2.2.2.2.2.2.2.2.2.2.2.2.1 ?zE.2.2.2.2.2.2.2.2.2.2.2.2.2.2.2.2.2.2.2.2.2.2.2.2.2.2.2.2.2.2.2.2.2.2.2.2.2.2.2.2.2.2.2.2.2.2.2.1 ?zE.2.2.2.2.2.2.2.2.2.2.2.2.2.2.2.2.2.2.2.2.2.2.2.2.2.2.2.2.2.2.2.2.2.2.2.2.2.2.2.2.2.2.2.2.2.2.2.2
  intros w pv LSv mean mg mb dp un gd cn cs a ccd cl outer A₀ base h₀ L m news s Q E x1 dx1 tn1 tc1 raw1 n1 nt1 b1 sim1 vs1 ns1 g11 g12 g13 g14 g15 k11 k12 k13 k14 k15 q11 q12 q13 q15
  intro B F X N T hk hd1 hu hx1 hdx1 htn1 htc1 hi1 hlen1 hret
  revert X; k_fill; intro X
  refine wpAny_call ?_
  k_dflt walk_at "en"
  k_steps
  exact hret _ _ _ _ rfl (by assumption) (by assumption)
  run_tac fin
theorem ilev_spec {x1 dx1 tn1 tc1 : Addr} {raw1 : Str} {n1 nt1 b1 : Int} {sim1 : Bool} {vs1 : List Value} {ns1 : List Int} {g11 g12 g13 g14 g15 : Int} {k11 k12 k13 k14 k15 q11 q12 q13 q15 : Tok} {ts : Int} {tt : Tok} (B : Below A₀ base outer h₀) (F : Fr h₀ L s.heap m) (X : (hd.heap_39 w.params).In h₀) (N : News h₀ L s.heap news) (T : Top pv LSv mean mg mb h₀) (hk : cs.kind = .function)
    (hd1 : dp + 1 < recursionLimit) (hu : un + 100 < cLine) (hx1 : (x1, instObj 83 dx1) ∈ news) (hdx1 : (dx1, dictOf [⟨g11, .str (Str.ofString "raw") k11, .str raw1 q11⟩, ⟨g12, .str (Str.ofString "n") k12, .int n1 q12⟩, ⟨g13, .str (Str.ofString "nt") k13, .int nt1 q13⟩, ⟨g14, .str (Str.ofString "norm") k14, .ref tn1⟩, ⟨g15, .str (Str.ofString "is_simple") k15, .bool sim1⟩] 5) ∈ news)
    (htn1 : (tn1, tupO [.ref tc1, .int b1 q15]) ∈ news) (htc1 : (tc1, tupO vs1) ∈ news) (hi1 : IntsAre vs1 ns1) (hlen1 : ns1.length ≤ 10) (hts : 1 ≤ ts) (hts9 : ts ≤ 1000) (hbd : ∀ k, 0 ≤ ns1.getD k 0 ∧ ns1.getD k 0 ≤ 1000)
    (hret : ∀ r tk h' tk', r = levF ns1 nt1 b1 ts → Fr h₀ L h' m → News h₀ L h' news → Q (.int r tk) { s with heap := h', toks := tk' }) :
    wpAny (model PySem.Challenge.rw_rl0132_01.prog w) (ktrTop dp un gd cn cs L a ccd cl outer) (call (.ref 52) [.ref x1, .int ts tt]) Q E s := by
  revert w pv LSv mean mg mb dp un gd cn cs a ccd cl outer A₀ base h₀ L m news s Q E x1 dx1 tn1 tc1 raw1 n1 nt1 b1 sim1 vs1 ns1 g11 g12 g13 g14 g15 k11 k12 k13 k14 k15 q11 q12 q13 q15 ts tt
  refine (?zh : ∀ w pv LSv mean mg mb dp un gd cn cs a ccd cl outer A₀ base h₀ L m news s Q E x1 dx1 tn1 tc1 raw1 n1 nt1 b1 sim1 vs1 ns1 g11 g12 g13 g14 g15 k11 k12 k13 k14 k15 q11 q12 q13 q15 ts tt, (?zP : _ → _ → _ → _ → _ → _ → _ → _ → _ → _ → _ → _ → _ → _ → _ → _ → _ → _ → _ → _ → _ → _ → _ → _ → _ → _ → _ → _ → _ → _ → _ → _ → _ → _ → _ → _ → _ → _ → _ → _ → _ → _ → _ → _ → _ → _ → _ → _ → _ → _ → _ → Prop) w pv LSv mean mg mb dp un gd cn cs a ccd cl outer A₀ base h₀ L m news s Q E x1 dx1 tn1 tc1 raw1 n1 nt1 b1 sim1 vs1 ns1 g11 g12 g13 g14 g15 k11 k12 k13 k14 k15 q11 q12 q13 q15 ts tt)
  refine fun w pv LSv mean mg mb dp un gd cn cs a ccd cl outer A₀ base h₀ L m news s Q E x1 dx1 tn1 tc1 raw1 n1 nt1 b1 sim1 vs1 ns1 g11 g12 g13 g14 g15 k11 k12 k13 k14 k15 q11 q12 q13 q15 ts tt => allE (P := un2 fun w => un2 fun pv => un2 fun LSv => un2 fun mean => un2 fun mg => un2 fun mb => un2 fun dp => un2 fun un => un2 fun gd => un2 fun cn => un2 fun cs => un2 fun a => un2 fun ccd => un2 fun cl => un2 fun outer => un2 fun A₀ => un2 fun base => un2 fun h₀ => un2 fun L => un2 fun m => un2 fun news => un2 fun s => un2 fun Q => un2 fun E => un2 fun x1 => un2 fun dx1 => un2 fun tn1 => un2 fun tc1 => un2 fun raw1 => un2 fun n1 => un2 fun nt1 => un2 fun b1 => un2 fun sim1 => un2 fun vs1 => un2 fun ns1 => un2 fun g11 => un2 fun g12 => un2 fun g13 => un2 fun g14 => un2 fun g15 => un2 fun k11 => un2 fun k12 => un2 fun k13 => un2 fun k14 => un2 fun k15 => un2 fun q11 => un2 fun q12 => un2 fun q13 => un2 fun q15 => un2 fun ts tt => ?zP w pv LSv mean mg mb dp un gd cn cs a ccd cl outer A₀ base h₀ L m news s Q E x1 dx1 tn1 tc1 raw1 n1 nt1 b1 sim1 vs1 ns1 g11 g12 g13 g14 g15 k11 k12 k13 k14 k15 q11 q12 q13 q15 ts tt) ?zn ?zk (w, pv, LSv, mean, mg, mb, dp, un, gd, cn, cs, a, ccd, cl, outer, A₀, base, h₀, L, m, news, s, Q, E, x1, dx1, tn1, tc1, raw1, n1, nt1, b1, sim1, vs1, ns1, g11, g12, g13, g14, g15, k11, k12, k13, k14, k15, q11, q12, q13, q15, ts, tt)
  case zn => walk_at "ne"
  clear w pv LSv mean mg mb dp un gd cn cs a ccd cl outer A₀ base h₀ L m news s Q E x1 dx1 tn1 tc1 raw1 n1 nt1 b1 sim1 vs1 ns1 g11 g12 g13 g14 g15 k11 k12 k13 k14 k15 q11 q12 q13 q15 ts tt
  refine (?zj : AtE _ ?zE)
  refine (?zF : ∀ w pv LSv mean mg mb dp un gd cn cs a ccd cl outer A₀ base h₀ L m news s Q E x1 dx1 tn1 tc1 raw1 n1 nt1 b1 sim1 vs1 ns1 g11 g12 g13 g14 g15 k11 k12 k13 k14 k15 q11 q12 q13 q15 ts tt, ?zP w pv LSv mean mg mb dp un gd cn cs a ccd cl outer A₀ base h₀ L m news s Q E x1 dx1 tn1 tc1 raw1 n1 nt1 b1 sim1 vs1 ns1 g11 g12 g13 g14 g15 k11 k12 k13 k14 k15 q11 q12 q13 q15 ts tt) ?zE.1 ?zE.2.1 ?zE.2.2.1 ?zE.2.2.2.1 ?zE.2.2.2.2.1 ?zE.2.2.2.2.2.1 ?zE.2.2.2.2.2.2.1 ?zE.2.2.2.2.2.2.2.1 ?zE.2.2.2.2.2.2.2.2.1 ?zE.2.2.2.2.2.2.2.2.2.1 ?zE.2.2.2.2.2.2.2.2.2.2.1 ?zE.2.2.2.2.2.2.2.2.2.2.2.1 ?zE.2.2.2.2.2.2.2.2.2.2.2.2.1 ?zE.2.2.2.2.2.2.2.2.2.2.2.2.2.1 ?zE.2.2.2.2.2.2.2.2.2.2.2.2.2.2.1 ?zE.2.2.2.2.2.2.2.2.2.2.2.2.2.2.2.1 ?zE.2.2.2.2.2.2.2.2.2.2.2.2.2.2.2.2.1 ?zE.2.2.2.2.2.2.2.2.2.2.2.2.2.2.2.2.2.1 ?zE.2.2.2.2.2.2.2.2.2.2.2.2.2.2.2.2.2.2.1 ?zE.2.2.2.2.2.2.2.2.2.2.2.2.2.2.2.2.2.2.2.1 ?zE.2.2.2.2.2.2.2.2.2.2.2.2.2.2.2.2.2.2.2.2.1 ?zE.2.2.2.2.2.2.2.2.2.2.2.2.2.2.2.2.2.2.2.2.2.1 ?zE.2.2.2.2.2.2.2.2.2.2.2.2.2.2.2.2.2.2.2.2.2.2.1 ?zE.2.2.2.2.2.2.2.2.2.2.2.2.2.2.2.2.2.2.2.2.2.2.2.1 ?zE.2.2.2.2.2.2.2.2.2.2.2.2.2.2.2.2.2.2.2.2.2.2.2.2.1 ?zE.2.2.2.2.2.2.2.2.2.2.2.2.2.2.2.2.2.2.2.2.2.2.2.2.2.1 ?zE.2.2.2.2.2.2.2.2.2.2.2.2.2.2.2.2.2.2.2.2.2.2.2.2.2.2.1 ?zE.2.2.2.2.2.2.2.2.2.2.2.2.2.2.2.2.2.2.2.2.2.2.2.2.2.2.2.1 ?zE.2.2.2.2.2.2.2.2.2.2.2.2.2.2.2.2.2.2.2.2.2.2.2.2.2.2.2.2.1 ?zE.2.2.2.2.2.2.2.2.2.2.2.2.2.2.2.2.2.2.2.2.2.2.2.2.2.2.2.2.2.1 ?zE.2.2.2.2.2.2.2.2.2.2.2.2.2.2.2.2.2.2.2.2.2.2.2.2.2.2.2.2.2.2.1 ?zE.2.2.2.2.2.2.2.2.2.2.2.2.2.2.2.2.2.2.2.2.2.2.2.2.2.2.2.2.2.2.2.1 ?zE.2.2.2.2.2.2.2.2.2.2.2.2.2.2.2.2.2.2.2.2.2.2.2.2.2.2.2.2.2.2.2.2.1 ?zE.2.2.2.2.2.2.2.2.2.2.2.2.2.2.2.2.2.2.2.2.2.2.2.2.2.2.2.2.2.2.2.2.2.1 ?zE.2.2.2.2.2.2.2.2.2.2.2.2.2.2.2.2.2.2.2.2.2.2.2.2.2.2.2.2.2.2.2.2.2.2.1 ?zE.2.2.2.2.2.2.2.2.2.2.2.2.2.2.2.2.2.2.2.2.2.2.2.2.2.2.2.2.2.2.2.2.2.2.2.1 ?zE.2.2.2.2.2.2.2.2.2.2.2.2.2.2.2.2.2.2.2.2.2.2.2.2.2.2.2.2.2.2.2.2.2.2.2.2.1 ?zE.2.2.2.2.2.2.2.2.2.2.2.2.2.2.2.2.2.2.2.2.2.2.2.2.2.2.2.2.2.2.2.2.2.2.2.2.2.1 ?zE.2.2.2.2.2.2.2.2.2.2.2.2.2.2.2.2.2.2.2.2.2.2.2.2.2.2.2.2.2.2.2.2.2.2.2.2.2.2.1 ?zE.2.2.2.2.2.2.2.2.2.2.2.2.2.2.2.2.2.2.2.2.2.2.2.2.2.2.2.2.2.2.2.2.2.2.2.2.2.2.2.1 ?zE.2.2.2.2.2.2.2.2.2.2.2.2.2.2.2.2.2.2.2.2.2.2.2.2.2.2.2.2.2.2.2.2.2.2.2.2.2.2.2.2.1 ?zE.2.2.2.2.2.2.2.2.2.2.2.2.2.2.2.2.2.2.2.2.2.2.2.2.2.2.2.2.2.2.2.2.2.2.2.2.2.2.2.2.2.1 ?zE.2.2.2.2.2.2.2.2.2.2.2.2.2.2.2.2.2.2.2.2.2.2.2.2.2.2.2.2.2.2.2.2.2.2.2.2.2.2.2.2.2.2.1 ?zE.2.2.2.2.2.2.2.2.2.2.2.2.2.2.2.2.2.2.2.2.2.2.2.2.2.2.2.2.2.2.2.2.2.2.2.2.2.2.2.2.2.2.2.1 ?zE.2.2.2.2.2.2.2.2.2.2.2.2.2.2.2.2.2.2.2.2.2.2.2.2.2.2.2.2.2.2.2.2.2.2.2.2.2.2.2.2.2.2.2.2.1 ?zE.2.2.2.2.2.2.2.2.2.2.2.2.2.2.2.2.2.2.2.2.2.2.2.2.2.2.2.2.2.2.2.2.2.2.2.2.2.2.2.2.2.2.2.2.2.1 ?zE.2.2.2.2.2.2.2.2.2.2.2.2.2.2.2.2.2.2.2.2.2.2.2.2.2.2.2.2.2.2.2.2.2.2.2.2.2.2.2.2.2.2.2.2.2.2.1 ?zE.2.2.2.2.2.2.2.2.2.2.2.2.2.2.2.2.2.2.2.2.2.2.2.2.2.2.2.2.2.2.2.2.2.2.2.2.2.2.2.2.2.2.2.2.2.2.2.1 ?zE.2.2.2.2.2.2.2.2.2.2.2.2.2.2.2.2.2.2.2.2.2.2.2.2.2.2.2.2.2.2.2.2.2.2.2.2.2.2.2.2.2.2.2.2.2.2.2.2.1 ?zE.2.2.2.2.2.2.2.2.2.2.2.2.2.2.2.2.2.2.2.2.2.2.2.2.2.2.2.2.2.2.2.2.2.2.2.2.2.2.2.2.2.2.2.2.2.2.2.2.2.1 ?zE.2.2.2.2.2.2.2.2.2.2.2.2.2.2.2.2.2.2.2.2.2.2.2.2.2.2.2.2.2.2.2.2.2.2.2.2.2.2.2.2.2.2.2.2.2.2.2.2.2.2
  intros w pv LSv mean mg mb dp un gd cn cs a ccd cl outer A₀ base h₀ L m news s Q E x1 dx1 tn1 tc1 raw1 n1 nt1 b1 sim1 vs1 ns1 g11 g12 g13 g14 g15 k11 k12 k13 k14 k15 q11 q12 q13 q15 ts tt
  intro B F X N T hk hd1 hu hx1 hdx1 htn1 htc1 hi1 hlen1 hts hts9 hbd hret
  revert X; k_fill; intro X
  refine wpAny_call ?_
  k_dflt walk_at "en"
  k_steps
  refine hold_in ?_
  (rename Fr _ _ _ _ => lF'); (rename News _ _ _ _ => lN')
  k_dflt (refine For_rng lF' [] (fun i ps nx g => nx = news ∧ g = s.gens ∧ ∃ v t, ps = [(Str.ofString "il", .int v t)] ∧ v = (rangeKs ts i).foldl (fun a k => a + Int.fdiv k ts * ns1.getD k.toNat 0) 0) rfl rfl rfl ?_)
  k_steps
  (rename Fr _ _ _ _ => lF'); (rename News _ _ _ _ => lN'); (rename IsRange _ _ _ _ _ _ _ _ => rgX)
  k_dflt (refine' rng_intro1 (Str.ofString "il") ?hr ?hF ?hN ?hz ?hb ?hR ?turn ?done; (case hr => exact rgX); (case hF => exact lF'); (case hN => exact lN'); (case hz => exact rfl); (case hb => exact ⟨by omega, by omega, by omega, by omega⟩); (case hR => exact ⟨rfl, rfl, _, _, rfl, rfl⟩))
  case turn =>
    intro i t ps nx u h g tk I oI hi hlt hne hR F' N'
    (change (let G9 : Prop := _; G9)); intro G9
    obtain ⟨rfl, rfl, v, t, rfl, rfl⟩ := hR
    unfold G9; (try clear G9)
    k_steps
    (rename Fr _ _ _ _ => lF'); (rename News _ _ _ _ => lN')
    k_dflt (refine' end_intro1 (Str.ofString "il") ?e1 ?e2 ?e3 ?e4 ?e5 ?e6 ?e7 ?e8; (case e1 => exact lF'); (case e2 => exact lN'); (case e3 => k_mem); (case e4 => exact rfl); (case e5 => (intro z h1 h2 h3; simp [h1, h3, upd])); (case e6 => exact ⟨rfl, rfl, _, _, rfl, by simp [rangeKs, List.range_succ]⟩); (case e7 => (intro p hp; k_mem)); (case e8 => assumption))
  case done =>
    intro ps nx u h g tk hR F' N'
    (change (let G9 : Prop := _; G9)); intro G9
    obtain ⟨rfl, rfl, v, t, rfl, rfl⟩ := hR
    unfold G9; (try clear G9)
    k_steps
    exact hret _ _ _ _ rfl (by assumption) (by assumption)
  run_tac fin
end
end
section
theorem fresh_C4 : True := by w_top off; exact True.intro
set_option maxHeartbeats 8000000
noncomputable def rowD (r : Int × Int × Int) : Dat := .tuple [.int r.1, .int r.2.1, .int r.2.2]
noncomputable def wit (c : Int → Int → Bool) (f g : Int → Int) (k : Nat) : List (Int × Int × Int) := ((rangeKs 1 k).filter fun ts => c (f ts) (g ts)).map fun ts => (ts, f ts, g ts)
theorem rangeKs_succ (a : Int) (k : Nat) : rangeKs a (k + 1) = rangeKs a k ++ [a + (k : Int)] := by simp [rangeKs, List.range_succ]
theorem wit_yes {c : Int → Int → Bool} {f g : Int → Int} {k : Nat} (h : c (f (1 + (k : Int))) (g (1 + (k : Int))) = true) : wit c f g (k + 1) = wit c f g k ++ [(1 + (k : Int), f (1 + (k : Int)), g (1 + (k : Int)))] := by
  simp [wit, rangeKs_succ, List.filter_append, h]
theorem wit_no {c : Int → Int → Bool} {f g : Int → Int} {k : Nat} (h : c (f (1 + (k : Int))) (g (1 + (k : Int))) = false) : wit c f g (k + 1) = wit c f g k := by
  simp [wit, rangeKs_succ, List.filter_append, h]
noncomputable def lrM (x y : Int) : Int := if y > x then y else x
theorem lrF_bd {ns : List Int} {b : Int} (hn : ns.length ≤ 10) (hb : 0 ≤ b ∧ b ≤ 100) : 0 ≤ lrF ns b ∧ lrF ns b ≤ 100 := by
  unfold lrF; split <;> omega
inductive WitR (c : Int → Int → Bool) (f g : Int → Int) (news : List (Addr × Obj)) (gens : Array GenState) (i : Nat) (ps : List (Str × Value)) (nx : List (Addr × Obj)) (gg : Array GenState) : Prop where
  | mk (f0 : gg = gens) (la : _) (vs : _) (k : _) (tl : _) (f1 : ps = [(Str.ofString "a", .ref la)]) (f2 : nx = (la, listOf vs.toArray k) :: (tl ++ news)) (f3 : DatAll (tl ++ news) vs ((wit c f g i).map rowD)) (f4 : ∀ p ∈ tl ++ news, p.1 ≠ la) (f5 : ∀ q ∈ news, ∀ p ∈ tl, q.1 < p.1) (f6 : ∀ q ∈ news, q.1 < la) (f7 : vs.length ≤ i) : WitR c f g news gens i ps nx gg
section
variable {c : Int → Int → Bool} {f g : Int → Int} {news : List (Addr × Obj)} {gens : Array GenState} {h₀ h' : Heap} {L I la D : Addr} {oI : Obj} {m₀ m' : Str → Option Value} {x : Str} {i k : Nat} {vs : List Value} {tl : List (Addr × Obj)} {s₁ : Shared} {tk : Nat} {t1 t2 t3 : Tok}
theorem wit_end_yes (F : Fr h₀ L h' m') (N : News h₀ L h' ((D, ({ cls := .type "tuple", data := .seq #[.int (1 + (i : Int)) t1, .int (f (1 + (i : Int))) t2, .int (g (1 + (i : Int))) t3] } : Obj)) :: (I, oI) :: (la, listOf (vs ++ [Value.ref D]).toArray (k + 1)) :: (tl ++ news)))
    (h1 : m' (Str.ofString "a") = some (.ref la)) (ho : ∀ z, z ≠ x → ([] : List Str).contains z = false → z ≠ Str.ofString "a" → m' z = m₀ z) (hlt : @LT.lt Nat _ I D ∧ @LT.lt Nat _ la D ∧ AllLt D (tl ++ news)) (hIla : @Ne Nat la I)
    (hnI : ∀ p ∈ (la, listOf vs.toArray k) :: (tl ++ news), p.1 ≠ I) (hD : DatAll (tl ++ news) vs ((wit c f g i).map rowD)) (hne1 : ∀ p ∈ tl ++ news, p.1 ≠ la) (hlt1 : ∀ q ∈ news, ∀ p ∈ tl, q.1 < p.1) (hlt2 : ∀ q ∈ news, q.1 < la) (hvl : vs.length ≤ i)
    (hc : c (f (1 + (i : Int))) (g (1 + (i : Int))) = true) (hg : s₁.gens = gens) :
    EndM h₀ L (JR m₀ x [] (WitR c f g news gens (i + 1))) I oI s₁ { s₁ with heap := h', toks := tk } := by
  have hDn : ∀ p ∈ tl ++ news, p.1 < D := allLt_mem hlt.2.2
  refine end_intro1 (g' := s₁.gens) (nx := (la, listOf (vs ++ [Value.ref D]).toArray (k + 1)) :: (((D, ({ cls := .type "tuple", data := .seq #[.int (1 + (i : Int)) t1, .int (f (1 + (i : Int))) t2, .int (g (1 + (i : Int))) t3] } : Obj)) :: tl) ++ news)) (Str.ofString "a") F N (List.Mem.tail _ (List.Mem.head _)) h1 ho
    ⟨hg, la, vs ++ [Value.ref D], k + 1, (D, ({ cls := .type "tuple", data := .seq #[.int (1 + (i : Int)) t1, .int (f (1 + (i : Int))) t2, .int (g (1 + (i : Int))) t3] } : Obj)) :: tl, rfl, rfl, ?_, ?_, ?_, hlt2, by simp; omega⟩ ?_ ?_
  · rw [wit_yes hc, List.map_append]
    refine DatAll.append (hD.mono fun p hp => List.Mem.tail _ hp) (.one ?_)
    exact DatIn.tuple (vs := [.int _ _, .int _ _, .int _ _]) (List.Mem.head _) (.cons (.int _ _) (.cons (.int _ _) (.cons (.int _ _) .nil)))
  · intro p hp
    rcases List.mem_cons.mp hp with rfl | hp
    · exact Nat.ne_of_gt hlt.2.1
    · exact hne1 p hp
  · intro q hq p hp
    rcases List.mem_cons.mp hp with rfl | hp
    · exact hDn q (List.mem_append_right _ hq)
    · exact hlt1 q hq p hp
  · intro p hp
    rcases List.mem_cons.mp hp with rfl | hp
    · exact List.Mem.tail _ (List.Mem.tail _ (List.Mem.head _))
    · rcases List.mem_cons.mp hp with rfl | hp
      · exact List.Mem.head _
      · exact List.Mem.tail _ (List.Mem.tail _ (List.Mem.tail _ hp))
  · intro p hp
    rcases List.mem_cons.mp hp with rfl | hp
    · exact hIla
    · rcases List.mem_cons.mp hp with rfl | hp
      · exact Nat.ne_of_gt hlt.1
      · exact hnI p (List.Mem.tail _ hp)
theorem wit_end_no (F : Fr h₀ L h' m') (N : News h₀ L h' ((I, oI) :: (la, listOf vs.toArray k) :: (tl ++ news)))
    (h1 : m' (Str.ofString "a") = some (.ref la)) (ho : ∀ z, z ≠ x → ([] : List Str).contains z = false → z ≠ Str.ofString "a" → m' z = m₀ z)
    (hnI : ∀ p ∈ (la, listOf vs.toArray k) :: (tl ++ news), p.1 ≠ I) (hD : DatAll (tl ++ news) vs ((wit c f g i).map rowD)) (hne1 : ∀ p ∈ tl ++ news, p.1 ≠ la) (hlt1 : ∀ q ∈ news, ∀ p ∈ tl, q.1 < p.1) (hlt2 : ∀ q ∈ news, q.1 < la) (hvl : vs.length ≤ i)
    (hc : c (f (1 + (i : Int))) (g (1 + (i : Int))) = false) (hg : s₁.gens = gens) :
    EndM h₀ L (JR m₀ x [] (WitR c f g news gens (i + 1))) I oI s₁ { s₁ with heap := h', toks := tk } :=
  end_intro1 (g' := s₁.gens) (Str.ofString "a") F N (List.Mem.head _) h1 ho ⟨hg, la, vs, k, tl, rfl, rfl, by rw [wit_no hc]; exact hD, hne1, hlt1, hlt2, by omega⟩ (fun p hp => List.Mem.tail _ hp) hnI
end
section
variable {w : World} {pv : Program} {LSv : List Str} {mean : ExcName → Option Value} {mg mb : Str → Option Value}
    {dp un : Nat} {gd : Option (List Code)} {cn : Str} {cs : Scope} {a : Addr} {ccd : Value} {cl : List (Str × Addr)} {outer : List Env} {A₀ : Around} {base h₀ : Heap} {L : Addr} {m : Str → Option Value} {news : List (Addr × Obj)} {s : Shared}
    {Q E : Value → Shared → Prop}
theorem rows_C4_0 : True := by
  k_with_none
  k_with "call builtin:list.append" => (k_here; (with_reducible show wpAny _ _ (call (Value.builtin _) [Value.ref _, _]) _ _ _); k_dflt (refine' append_N ?k1 ?k2 ?k3 ?z ?_; (case k1 => k_asm); (case k2 => k_asm); (case k3 => k_upd); (case z => omega); k_whole); intro hQq7 FQq7 NQq7; (try k_sweep))
  k_with "PostM" => (dsimp only [PostM])
  k_with "exec For Name Call cons nil" => refine hold_out ?_
  k_with "call ref" => (k_here; (with_reducible show wpAny _ _ (call (Value.ref 45) _) _ _ _); k_dflt (refine' lrun_spec ?k1 ?k2 ?k3 ?k4 ?k5 ?k6 ?k7 ?k8 ?p1 ?p2 ?p3 ?p4 ?p5 ?p6 ?_; (case k1 => k_asm); (case k2 => k_asm); (case k3 => k_asm); (case k4 => k_asm); (case k5 => k_asm); (case k6 => first | rfl | assumption); (case k7 => ktr_room); (case k8 => ktr_units); (case p1 => k_mem); (case p2 => k_mem); (case p3 => k_mem); (case p4 => k_mem); (case p5 => assumption); (case p6 => omega); k_whole); intro rQq7 tQq7 hQq7 tkQq7 eQq7 FQq7 NQq7; (try subst eQq7); (try k_sweep))
  k_with "call ref" => (k_here; (with_reducible show wpAny _ _ (call (Value.ref 52) _) _ _ _); k_dflt (refine' ilev_spec ?k1 ?k2 ?k3 ?k4 ?k5 ?k6 ?k7 ?k8 ?p1 ?p2 ?p3 ?p4 ?p5 ?p6 ?p7 ?p8 ?p9 ?_; (case k1 => k_asm); (case k2 => k_asm); (case k3 => k_asm); (case k4 => k_asm); (case k5 => k_asm); (case k6 => first | rfl | assumption); (case k7 => ktr_room); (case k8 => ktr_units); (case p1 => k_mem); (case p2 => k_mem); (case p3 => k_mem); (case p4 => k_mem); (case p5 => assumption); (case p6 => omega); (case p7 => omega); (case p8 => omega); (case p9 => assumption); k_whole); intro rQq7 tQq7 hQq7 tkQq7 eQq7 FQq7 NQq7; (try subst eQq7); (try k_sweep))
  exact True.intro
theorem nle_spec {x1 dx1 tn1 tc1 : Addr} {raw1 : Str} {n1 nt1 b1 : Int} {sim1 : Bool} {vs1 : List Value} {ns1 : List Int} {g11 g12 g13 g14 g15 : Int} {k11 k12 k13 k14 k15 q11 q12 q13 q15 : Tok} {x2 dx2 tn2 tc2 : Addr} {raw2 : Str} {n2 nt2 b2 : Int} {sim2 : Bool} {vs2 : List Value} {ns2 : List Int} {g21 g22 g23 g24 g25 : Int} {k21 k22 k23 k24 k25 q21 q22 q23 q25 : Tok} (B : Below A₀ base outer h₀) (F : Fr h₀ L s.heap m) (X : (hd.heap_39 w.params).In h₀) (N : News h₀ L s.heap news) (T : Top pv LSv mean mg mb h₀) (hk : cs.kind = .function)
    (hd1 : dp + 2 < recursionLimit) (hu : un + 200 < cLine) (hx1 : (x1, instObj 83 dx1) ∈ news) (hdx1 : (dx1, dictOf [⟨g11, .str (Str.ofString "raw") k11, .str raw1 q11⟩, ⟨g12, .str (Str.ofString "n") k12, .int n1 q12⟩, ⟨g13, .str (Str.ofString "nt") k13, .int nt1 q13⟩, ⟨g14, .str (Str.ofString "norm") k14, .ref tn1⟩, ⟨g15, .str (Str.ofString "is_simple") k15, .bool sim1⟩] 5) ∈ news)
    (htn1 : (tn1, tupO [.ref tc1, .int b1 q15]) ∈ news) (htc1 : (tc1, tupO vs1) ∈ news) (hi1 : IntsAre vs1 ns1) (hlen1 : ns1.length ≤ 10)
    (hx2 : (x2, instObj 83 dx2) ∈ news) (hdx2 : (dx2, dictOf [⟨g21, .str (Str.ofString "raw") k21, .str raw2 q21⟩, ⟨g22, .str (Str.ofString "n") k22, .int n2 q22⟩, ⟨g23, .str (Str.ofString "nt") k23, .int nt2 q23⟩, ⟨g24, .str (Str.ofString "norm") k24, .ref tn2⟩, ⟨g25, .str (Str.ofString "is_simple") k25, .bool sim2⟩] 5) ∈ news)
    (htn2 : (tn2, tupO [.ref tc2, .int b2 q25]) ∈ news) (htc2 : (tc2, tupO vs2) ∈ news) (hi2 : IntsAre vs2 ns2) (hlen2 : ns2.length ≤ 10) (hbd1 : ∀ k, 0 ≤ ns1.getD k 0 ∧ ns1.getD k 0 ≤ 1000) (hbd2 : ∀ k, 0 ≤ ns2.getD k 0 ∧ ns2.getD k 0 ≤ 1000) (hb1 : 0 ≤ b1 ∧ b1 ≤ 100) (hb2 : 0 ≤ b2 ∧ b2 ≤ 100)
    (hret : ∀ l vs k tl h' tk', DatAll (tl ++ news) vs ((wit (fun a b => decide (a ≥ b)) (levF ns1 nt1 b1) (levF ns2 nt2 b2) (lrM (lrF ns1 b1) (lrF ns2 b2) + 1).toNat).map rowD) → (∀ p ∈ tl ++ news, p.1 ≠ l) → (∀ q ∈ news, ∀ p ∈ tl, q.1 < p.1) → (∀ q ∈ news, q.1 < l) → Fr h₀ L h' m → News h₀ L h' ((l, listOf vs.toArray k) :: (tl ++ news)) → Q (.ref l) { s with heap := h', toks := tk' }) :
    wpAny (model PySem.Challenge.rw_rl0132_01.prog w) (ktrTop dp un gd cn cs L a ccd cl outer) (call (.ref 80) [.ref x1, .ref x2]) Q E s := by
  revert w pv LSv mean mg mb dp un gd cn cs a ccd cl outer A₀ base h₀ L m news s Q E x1 dx1 tn1 tc1 raw1 n1 nt1 b1 sim1 vs1 ns1 g11 g12 g13 g14 g15 k11 k12 k13 k14 k15 q11 q12 q13 q15 x2 dx2 tn2 tc2 raw2 n2 nt2 b2 sim2 vs2 ns2 g21 g22 g23 g24 g25 k21 k22 k23 k24 k25 q21 q22 q23 q25
  refine (?zh : ∀ w pv LSv mean mg mb dp un gd cn cs a ccd cl outer A₀ base h₀ L m news s Q E x1 dx1 tn1 tc1 raw1 n1 nt1 b1 sim1 vs1 ns1 g11 g12 g13 g14 g15 k11 k12 k13 k14 k15 q11 q12 q13 q15 x2 dx2 tn2 tc2 raw2 n2 nt2 b2 sim2 vs2 ns2 g21 g22 g23 g24 g25 k21 k22 k23 k24 k25 q21 q22 q23 q25, (?zP : _ → _ → _ → _ → _ → _ → _ → _ → _ → _ → _ → _ → _ → _ → _ → _ → _ → _ → _ → _ → _ → _ → _ → _ → _ → _ → _ → _ → _ → _ → _ → _ → _ → _ → _ → _ → _ → _ → _ → _ → _ → _ → _ → _ → _ → _ → _ → _ → _ → _ → _ → _ → _ → _ → _ → _ → _ → _ → _ → _ → _ → _ → _ → _ → _ → _ → _ → _ → _ → _ → _ → _ → _ → _ → Prop) w pv LSv mean mg mb dp un gd cn cs a ccd cl outer A₀ base h₀ L m news s Q E x1 dx1 tn1 tc1 raw1 n1 nt1 b1 sim1 vs1 ns1 g11 g12 g13 g14 g15 k11 k12 k13 k14 k15 q11 q12 q13 q15 x2 dx2 tn2 tc2 raw2 n2 nt2 b2 sim2 vs2 ns2 g21 g22 g23 g24 g25 k21 k22 k23 k24 k25 q21 q22 q23 q25)
  refine fun w pv LSv mean mg mb dp un gd cn cs a ccd cl outer A₀ base h₀ L m news s Q E x1 dx1 tn1 tc1 raw1 n1 nt1 b1 sim1 vs1 ns1 g11 g12 g13 g14 g15 k11 k12 k13 k14 k15 q11 q12 q13 q15 x2 dx2 tn2 tc2 raw2 n2 nt2 b2 sim2 vs2 ns2 g21 g22 g23 g24 g25 k21 k22 k23 k24 k25 q21 q22 q23 q25 => allE (P := un2 fun w => un2 fun pv => un2 fun LSv => un2 fun mean => un2 fun mg => un2 fun mb => un2 fun dp => un2 fun un => un2 fun gd => un2 fun cn => un2 fun cs => un2 fun a => un2 fun ccd => un2 fun cl => un2 fun outer => un2 fun A₀ => un2 fun base => un2 fun h₀ => un2 fun L => un2 fun m => un2 fun news => un2 fun s => un2 fun Q => un2 fun E => un2 fun x1 => un2 fun dx1 => un2 fun tn1 => un2 fun tc1 => un2 fun raw1 => un2 fun n1 => un2 fun nt1 => un2 fun b1 => un2 fun sim1 => un2 fun vs1 => un2 fun ns1 => un2 fun g11 => un2 fun g12 => un2 fun g13 => un2 fun g14 => un2 fun g15 => un2 fun k11 => un2 fun k12 => un2 fun k13 => un2 fun k14 => un2 fun k15 => un2 fun q11 => un2 fun q12 => un2 fun q13 => un2 fun q15 => un2 fun x2 => un2 fun dx2 => un2 fun tn2 => un2 fun tc2 => un2 fun raw2 => un2 fun n2 => un2 fun nt2 => un2 fun b2 => un2 fun sim2 => un2 fun vs2 => un2 fun ns2 => un2 fun g21 => un2 fun g22 => un2 fun g23 => un2 fun g24 => un2 fun g25 => un2 fun k21 => un2 fun k22 => un2 fun k23 => un2 fun k24 => un2 fun k25 => un2 fun q21 => un2 fun q22 => un2 fun q23 q25 => ?zP w pv LSv mean mg mb dp un gd cn cs a ccd cl outer A₀ base h₀ L m news s Q E x1 dx1 tn1 tc1 raw1 n1 nt1 b1 sim1 vs1 ns1 g11 g12 g13 g14 g15 k11 k12 k13 k14 k15 q11 q12 q13 q15 x2 dx2 tn2 tc2 raw2 n2 nt2 b2 sim2 vs2 ns2 g21 g22 g23 g24 g25 k21 k22 k23 k24 k25 q21 q22 q23 q25) ?zn ?zk (w, pv, LSv, mean, mg, mb, dp, un, gd, cn, cs, a, ccd, cl, outer, A₀, base, h₀, L, m, news, s, Q, E, x1, dx1, tn1, tc1, raw1, n1, nt1, b1, sim1, vs1, ns1, g11, g12, g13, g14, g15, k11, k12, k13, k14, k15, q11, q12, q13, q15, x2, dx2, tn2, tc2, raw2, n2, nt2, b2, sim2, vs2, ns2, g21, g22, g23, g24, g25, k21, k22, k23, k24, k25, q21, q22, q23, q25)
  case zn => walk_at "ne"
  clear w pv LSv mean mg mb dp un gd cn cs a ccd cl outer A₀ base h₀ L m news s Q E x1 dx1 tn1 tc1 raw1 n1 nt1 b1 sim1 vs1 ns1 g11 g12 g13 g14 g15 k11 k12 k13 k14 k15 q11 q12 q13 q15 x2 dx2 tn2 tc2 raw2 n2 nt2 b2 sim2 vs2 ns2 g21 g22 g23 g24 g25 k21 k22 k23 k24 k25 q21 q22 q23 q25
  refine (?zj : AtE _ ?zE)
  refine (?zF : ∀ w pv LSv mean mg mb dp un gd cn cs a ccd cl outer A₀ base h₀ L m news s Q E x1 dx1 tn1 tc1 raw1 n1 nt1 b1 sim1 vs1 ns1 g11 g12 g13 g14 g15 k11 k12 k13 k14 k15 q11 q12 q13 q15 x2 dx2 tn2 tc2 raw2 n2 nt2 b2 sim2 vs2 ns2 g21 g22 g23 g24 g25 k21 k22 k23 k24 k25 q21 q22 q23 q25, ?zP w pv LSv mean mg mb dp un gd cn cs a ccd cl outer A₀ base h₀ L m news s Q E x1 dx1 tn1 tc1 raw1 n1 nt1 b1 sim1 vs1 ns1 g11 g12 g13 g14 g15 k11 k12 k13 k14 k15 q11 q12 q13 q15 x2 dx2 tn2 tc2 raw2 n2 nt2 b2 sim2 vs2 ns2 g21 g22 g23 g24 g25 k21 k22 k23 k24 k25 q21 q22 q23 q25) ?zE.1 ?zE.2.1 ?zE.2.2.1 ?zE.2.2.2.1 ?zE.2.2.2.2.1 ?zE.2.2.2.2.2.1 ?zE.2.2.2.2.2.2.1 ?zE.2.2.2.2.2.2.2.1 ?zE.2.2.2.2.2.2.2.2.1 ?zE.2.2.2.2.2.2.2.2.2.1 ?zE.2.2.2.2.2.2.2.2.2.2.1 ?zE.2.2.2.2.2.2.2.2.2.2.2.1 ?zE.2.2.2.2.2.2.2.2.2.2.2.2.1 ?zE.2.2.2.2.2.2.2.2.2.2.2.2.2.1 ?zE.2.2.2.2.2.2.2.2.2.2.2.2.2.2.1 ?zE.2.2.2.2.2.2.2.2.2.2.2.2.2.2.2.1 ?zE.2.2.2.2.2.2.2.2.2.2.2.2.2.2.2.2.1 ?zE.2.2.2.2.2.2.2.2.2.2.2.2.2.2.2.2.2.1 ?zE.2.2.2.2.2.2.2.2.2.2.2.2.2.2.2.2.2.2.1 ?zE.2.2.2.2.2.2.2.2.2.2.2.2.2.2.2.2.2.2.2.1 ?zE.2.2.2.2.2.2.2.2.2.2.2.2.2.2.2.2.2.2.2.2.1 ?zE.2.2.2.2.2.2.2.2.2.2.2.2.2.2.2.2.2.2.2.2.2.1 ?zE.2.2.2.2.2.2.2.2.2.2.2.2.2.2.2.2.2.2.2.2.2.2.1 ?zE.2.2.2.2.2.2.2.2.2.2.2.2.2.2.2.2.2.2.2.2.2.2.2.1 ?zE.2.2.2.2.2.2.2.2.2.2.2.2.2.2.2.2.2.2.2.2.2.2.2.2.1 ?zE.2.2.2.2.2.2.2.2.2.2.2.2.2.2.2.2.2.2.2.2.2.2.2.2.2.1 ?zE.2.2.2.2.2.2.2.2.2.2.2.2.2.2.2.2.2.2.2.2.2.2.2.2.2.2.1 ?zE.2.2.2.2.2.2.2.2.2.2.2.2.2.2.2.2.2.2.2.2.2.2.2.2.2.2.2.1 ?zE.2.2.2.2.2.2.2.2.2.2.2.2.2.2.2.2.2.2.2.2.2.2.2.2.2.2.2.2.1 ?zE.2.2.2.2.2.2.2.2.2.2.2.2.2.2.2.2.2.2.2.2.2.2.2.2.2.2.2.2.2.1 ?zE.2.2.2.2.2.2.2.2.2.2.2.2.2.2.2.2.2.2.2.2.2.2.2.2.2.2.2.2.2.2.1 ?zE.2.2.2.2.2.2.2.2.2.2.2.2.2.2.2.2.2.2.2.2.2.2.2.2.2.2.2.2.2.2.2.1 ?zE.2.2.2.2.2.2.2.2.2.2.2.2.2.2.2.2.2.2.2.2.2.2.2.2.2.2.2.2.2.2.2.2.1 ?zE.2.2.2.2.2.2.2.2.2.2.2.2.2.2.2.2.2.2.2.2.2.2.2.2.2.2.2.2.2.2.2.2.2.1 ?zE.2.2.2.2.2.2.2.2.2.2.2.2.2.2.2.2.2.2.2.2.2.2.2.2.2.2.2.2.2.2.2.2.2.2.1 ?zE.2.2.2.2.2.2.2.2.2.2.2.2.2.2.2.2.2.2.2.2.2.2.2.2.2.2.2.2.2.2.2.2.2.2.2.1 ?zE.2.2.2.2.2.2.2.2.2.2.2.2.2.2.2.2.2.2.2.2.2.2.2.2.2.2.2.2.2.2.2.2.2.2.2.2.1 ?zE.2.2.2.2.2.2.2.2.2.2.2.2.2.2.2.2.2.2.2.2.2.2.2.2.2.2.2.2.2.2.2.2.2.2.2.2.2.1 ?zE.2.2.2.2.2.2.2.2.2.2.2.2.2.2.2.2.2.2.2.2.2.2.2.2.2.2.2.2.2.2.2.2.2.2.2.2.2.2.1 ?zE.2.2.2.2.2.2.2.2.2.2.2.2.2.2.2.2.2.2.2.2.2.2.2.2.2.2.2.2.2.2.2.2.2.2.2.2.2.2.2.1 ?zE.2.2.2.2.2.2.2.2.2.2.2.2.2.2.2.2.2.2.2.2.2.2.2.2.2.2.2.2.2.2.2.2.2.2.2.2.2.2.2.2.1 ?zE.2.2.2.2.2.2.2.2.2.2.2.2.2.2.2.2.2.2.2.2.2.2.2.2.2.2.2.2.2.2.2.2.2.2.2.2.2.2.2.2.2.1 ?zE.2.2.2.2.2.2.2.2.2.2.2.2.2.2.2.2.2.2.2.2.2.2.2.2.2.2.2.2.2.2.2.2.2.2.2.2.2.2.2.2.2.2.1 ?zE.2.2.2.2.2.2.2.2.2.2.2.2.2.2.2.2.2.2.2.2.2.2.2.2.2.2.2.2.2.2.2.2.2.2.2.2.2.2.2.2.2.2.2.1 ?zE.2.2.2.2.2.2.2.2.2.2.2.2.2.2.2.2.2.2.2.2.2.2.2.2.2.2.2.2.2.2.2.2.2.2.2.2.2.2.2.2.2.2.2.2.1 ?zE.2.2.2.2.2.2.2.2.2.2.2.2.2.2.2.2.2.2.2.2.2.2.2.2.2.2.2.2.2.2.2.2.2.2.2.2.2.2.2.2.2.2.2.2.2.1 ?zE.2.2.2.2.2.2.2.2.2.2.2.2.2.2.2.2.2.2.2.2.2.2.2.2.2.2.2.2.2.2.2.2.2.2.2.2.2.2.2.2.2.2.2.2.2.2.1 ?zE.2.2.2.2.2.2.2.2.2.2.2.2.2.2.2.2.2.2.2.2.2.2.2.2.2.2.2.2.2.2.2.2.2.2.2.2.2.2.2.2.2.2.2.2.2.2.2.1 ?zE.2.2.2.2.2.2.2.2.2.2.2.2.2.2.2.2.2.2.2.2.2.2.2.2.2.2.2.2.2.2.2.2.2.2.2.2.2.2.2.2.2.2.2.2.2.2.2.2.1 ?zE.2.2.2.2.2.2.2.2.2.2.2.2.2.2.2.2.2.2.2.2.2.2.2.2.2.2.2.2.2.2.2.2.2.2.2.2.2.2.2.2.2.2.2.2.2.2.2.2.2.1 ?zE.2.2.2.2.2.2.2.2.2.2.2.2.2.2.2.2.2.2.2.2.2.2.2.2.2.2.2.2.2.2.2.2.2.2.2.2.2.2.2.2.2.2.2.2.2.2.2.2.2.2.1 ?zE.2.2.2.2.2.2.2.2.2.2.2.2.2.2.2.2.2.2.2.2.2.2.2.2.2.2.2.2.2.2.2.2.2.2.2.2.2.2.2.2.2.2.2.2.2.2.2.2.2.2.2.1 ?zE.2.2.2.2.2.2.2.2.2.2.2.2.2.2.2.2.2.2.2.2.2.2.2.2.2.2.2.2.2.2.2.2.2.2.2.2.2.2.2.2.2.2.2.2.2.2.2.2.2.2.2.2.1 ?zE.2.2.2.2.2.2.2.2.2.2.2.2.2.2.2.2.2.2.2.2.2.2.2.2.2.2.2.2.2.2.2.2.2.2.2.2.2.2.2.2.2.2.2.2.2.2.2.2.2.2.2.2.2.1 ?zE.2.2.2.2.2.2.2.2.2.2.2.2.2.2.2.2.2.2.2.2.2.2.2.2.2.2.2.2.2.2.2.2.2.2.2.2.2.2.2.2.2.2.2.2.2.2.2.2.2.2.2.2.2.2.1 ?zE.2.2.2.2.2.2.2.2.2.2.2.2.2.2.2.2.2.2.2.2.2.2.2.2.2.2.2.2.2.2.2.2.2.2.2.2.2.2.2.2.2.2.2.2.2.2.2.2.2.2.2.2.2.2.2.1 ?zE.2.2.2.2.2.2.2.2.2.2.2.2.2.2.2.2.2.2.2.2.2.2.2.2.2.2.2.2.2.2.2.2.2.2.2.2.2.2.2.2.2.2.2.2.2.2.2.2.2.2.2.2.2.2.2.2.1 ?zE.2.2.2.2.2.2.2.2.2.2.2.2.2.2.2.2.2.2.2.2.2.2.2.2.2.2.2.2.2.2.2.2.2.2.2.2.2.2.2.2.2.2.2.2.2.2.2.2.2.2.2.2.2.2.2.2.2.1 ?zE.2.2.2.2.2.2.2.2.2.2.2.2.2.2.2.2.2.2.2.2.2.2.2.2.2.2.2.2.2.2.2.2.2.2.2.2.2.2.2.2.2.2.2.2.2.2.2.2.2.2.2.2.2.2.2.2.2.2.1 ?zE.2.2.2.2.2.2.2.2.2.2.2.2.2.2.2.2.2.2.2.2.2.2.2.2.2.2.2.2.2.2.2.2.2.2.2.2.2.2.2.2.2.2.2.2.2.2.2.2.2.2.2.2.2.2.2.2.2.2.2.1 ?zE.2.2.2.2.2.2.2.2.2.2.2.2.2.2.2.2.2.2.2.2.2.2.2.2.2.2.2.2.2.2.2.2.2.2.2.2.2.2.2.2.2.2.2.2.2.2.2.2.2.2.2.2.2.2.2.2.2.2.2.2.1 ?zE.2.2.2.2.2.2.2.2.2.2.2.2.2.2.2.2.2.2.2.2.2.2.2.2.2.2.2.2.2.2.2.2.2.2.2.2.2.2.2.2.2.2.2.2.2.2.2.2.2.2.2.2.2.2.2.2.2.2.2.2.2.1 ?zE.2.2.2.2.2.2.2.2.2.2.2.2.2.2.2.2.2.2.2.2.2.2.2.2.2.2.2.2.2.2.2.2.2.2.2.2.2.2.2.2.2.2.2.2.2.2.2.2.2.2.2.2.2.2.2.2.2.2.2.2.2.2.1 ?zE.2.2.2.2.2.2.2.2.2.2.2.2.2.2.2.2.2.2.2.2.2.2.2.2.2.2.2.2.2.2.2.2.2.2.2.2.2.2.2.2.2.2.2.2.2.2.2.2.2.2.2.2.2.2.2.2.2.2.2.2.2.2.2.1 ?zE.2.2.2.2.2.2.2.2.2.2.2.2.2.2.2.2.2.2.2.2.2.2.2.2.2.2.2.2.2.2.2.2.2.2.2.2.2.2.2.2.2.2.2.2.2.2.2.2.2.2.2.2.2.2.2.2.2.2.2.2.2.2.2.2.1 ?zE.2.2.2.2.2.2.2.2.2.2.2.2.2.2.2.2.2.2.2.2.2.2.2.2.2.2.2.2.2.2.2.2.2.2.2.2.2.2.2.2.2.2.2.2.2.2.2.2.2.2.2.2.2.2.2.2.2.2.2.2.2.2.2.2.2.1 ?zE.2.2.2.2.2.2.2.2.2.2.2.2.2.2.2.2.2.2.2.2.2.2.2.2.2.2.2.2.2.2.2.2.2.2.2.2.2.2.2.2.2.2.2.2.2.2.2.2.2.2.2.2.2.2.2.2.2.2.2.2.2.2.2.2.2.2.1 ?zE.2.2.2.2.2.2.2.2.2.2.2.2.2.2.2.2.2.2.2.2.2.2.2.2.2.2.2.2.2.2.2.2.2.2.2.2.2.2.2.2.2.2.2.2.2.2.2.2.2.2.2.2.2.2.2.2.2.2.2.2.2.2.2.2.2.2.2.1 ?zE.2.2.2.2.2.2.2.2.2.2.2.2.2.2.2.2.2.2.2.2.2.2.2.2.2.2.2.2.2.2.2.2.2.2.2.2.2.2.2.2.2.2.2.2.2.2.2.2.2.2.2.2.2.2.2.2.2.2.2.2.2.2.2.2.2.2.2.2.1 ?zE.2.2.2.2.2.2.2.2.2.2.2.2.2.2.2.2.2.2.2.2.2.2.2.2.2.2.2.2.2.2.2.2.2.2.2.2.2.2.2.2.2.2.2.2.2.2.2.2.2.2.2.2.2.2.2.2.2.2.2.2.2.2.2.2.2.2.2.2.2.1 ?zE.2.2.2.2.2.2.2.2.2.2.2.2.2.2.2.2.2.2.2.2.2.2.2.2.2.2.2.2.2.2.2.2.2.2.2.2.2.2.2.2.2.2.2.2.2.2.2.2.2.2.2.2.2.2.2.2.2.2.2.2.2.2.2.2.2.2.2.2.2.2.1 ?zE.2.2.2.2.2.2.2.2.2.2.2.2.2.2.2.2.2.2.2.2.2.2.2.2.2.2.2.2.2.2.2.2.2.2.2.2.2.2.2.2.2.2.2.2.2.2.2.2.2.2.2.2.2.2.2.2.2.2.2.2.2.2.2.2.2.2.2.2.2.2.2.1 ?zE.2.2.2.2.2.2.2.2.2.2.2.2.2.2.2.2.2.2.2.2.2.2.2.2.2.2.2.2.2.2.2.2.2.2.2.2.2.2.2.2.2.2.2.2.2.2.2.2.2.2.2.2.2.2.2.2.2.2.2.2.2.2.2.2.2.2.2.2.2.2.2.2.1 ?zE.2.2.2.2.2.2.2.2.2.2.2.2.2.2.2.2.2.2.2.2.2.2.2.2.2.2.2.2.2.2.2.2.2.2.2.2.2.2.2.2.2.2.2.2.2.2.2.2.2.2.2.2.2.2.2.2.2.2.2.2.2.2.2.2.2.2.2.2.2.2.2.2.2
  intros w pv LSv mean mg mb dp un gd cn cs a ccd cl outer A₀ base h₀ L m news s Q E x1 dx1 tn1 tc1 raw1 n1 nt1 b1 sim1 vs1 ns1 g11 g12 g13 g14 g15 k11 k12 k13 k14 k15 q11 q12 q13 q15 x2 dx2 tn2 tc2 raw2 n2 nt2 b2 sim2 vs2 ns2 g21 g22 g23 g24 g25 k21 k22 k23 k24 k25 q21 q22 q23 q25
  intro B F X N T hk hd1 hu hx1 hdx1 htn1 htc1 hi1 hlen1 hx2 hdx2 htn2 htc2 hi2 hlen2 hbd1 hbd2 hb1 hb2 hret
  revert X; k_fill; intro X
  refine wpAny_call ?_
  k_dflt walk_at "en"
  have hl1 := lrF_bd hlen1 hb1
  have hl2 := lrF_bd hlen2 hb2
  have hnn : 0 ≤ lrM (lrF ns1 b1) (lrF ns2 b2) ∧ lrM (lrF ns1 b1) (lrF ns2 b2) ≤ 100 := by unfold lrM; split <;> omega
  k_steps
  refine hold_in ?_
  (rename Fr _ _ _ _ => lF'); (rename News _ _ _ _ => lN')
  k_dflt (refine For_rng lF' [] (WitR (fun a b => decide (a ≥ b)) (levF ns1 nt1 b1) (levF ns2 nt2 b2) news s.gens) rfl rfl rfl ?_)
  k_steps
  (rename Fr _ _ _ _ => lF'); (rename News _ _ _ _ => lN'); (rename IsRange _ _ _ _ _ _ _ _ => rgX)
  have rgX : IsRange _ _ 1 (lrM (lrF ns1 b1) (lrF ns2 b2) + 1 + 1) 1 _ _ _ := rgX
  k_dflt (refine' rng_intro1 (Str.ofString "a") ?hr ?hF ?hN ?hz ?hb ?hR ?turn ?done; (case hr => exact rgX); (case hF => exact lF'); (case hN => exact lN'); (case hz => exact rfl); (case hb => exact ⟨by omega, by omega, by omega, by omega⟩); (case hR => exact ⟨rfl, _, [], _, [], rfl, rfl, by simpa [wit, rangeKs] using DatAll.nil, by simpa using ne_lt (by assumption), by simp, by assumption, by simp⟩))
  case turn =>
    intro i t ps nx u h g tk I oI hi hlt hne hR F' N'
    (change (let G9 : Prop := _; G9)); intro G9
    obtain ⟨rfl, la, vs, k, tl, rfl, rfl, hD, hne1, hlt1, hlt2, hvl⟩ := hR
    unfold G9; (try clear G9)
    have hIla : @Ne Nat la I := hne _ (List.Mem.head _)
    k_steps
    · exact wit_end_yes (by assumption) (by assumption) rfl (by intro z h1 h2 h3; simp [h1, h3, upd]) (by assumption) hIla hne hD hne1 hlt1 hlt2 hvl (by simp_all) rfl
    · exact wit_end_no (by assumption) (by assumption) rfl (by intro z h1 h2 h3; simp [h1, h3, upd]) hne hD hne1 hlt1 hlt2 hvl (by simp_all) rfl
  case done =>
    intro ps nx u h g tk hR F' N'
    (change (let G9 : Prop := _; G9)); intro G9
    obtain ⟨rfl, la, vs, k, tl, rfl, rfl, hD, hne1, hlt1, hlt2, hvl⟩ := hR
    unfold G9; (try clear G9)
    k_steps
    have e : (lrM (lrF ns1 b1) (lrF ns2 b2) + 1 + 1 - 1).toNat = (lrM (lrF ns1 b1) (lrF ns2 b2) + 1).toNat := by omega
    rw [e] at hD
    exact hret _ _ _ _ _ _ hD hne1 hlt1 hlt2 (by assumption) (by assumption)
  run_tac fin
theorem neq_spec {x1 dx1 tn1 tc1 : Addr} {raw1 : Str} {n1 nt1 b1 : Int} {sim1 : Bool} {vs1 : List Value} {ns1 : List Int} {g11 g12 g13 g14 g15 : Int} {k11 k12 k13 k14 k15 q11 q12 q13 q15 : Tok} {x2 dx2 tn2 tc2 : Addr} {raw2 : Str} {n2 nt2 b2 : Int} {sim2 : Bool} {vs2 : List Value} {ns2 : List Int} {g21 g22 g23 g24 g25 : Int} {k21 k22 k23 k24 k25 q21 q22 q23 q25 : Tok} (B : Below A₀ base outer h₀) (F : Fr h₀ L s.heap m) (X : (hd.heap_39 w.params).In h₀) (N : News h₀ L s.heap news) (T : Top pv LSv mean mg mb h₀) (hk : cs.kind = .function)
    (hd1 : dp + 2 < recursionLimit) (hu : un + 200 < cLine) (hx1 : (x1, instObj 83 dx1) ∈ news) (hdx1 : (dx1, dictOf [⟨g11, .str (Str.ofString "raw") k11, .str raw1 q11⟩, ⟨g12, .str (Str.ofString "n") k12, .int n1 q12⟩, ⟨g13, .str (Str.ofString "nt") k13, .int nt1 q13⟩, ⟨g14, .str (Str.ofString "norm") k14, .ref tn1⟩, ⟨g15, .str (Str.ofString "is_simple") k15, .bool sim1⟩] 5) ∈ news)
    (htn1 : (tn1, tupO [.ref tc1, .int b1 q15]) ∈ news) (htc1 : (tc1, tupO vs1) ∈ news) (hi1 : IntsAre vs1 ns1) (hlen1 : ns1.length ≤ 10)
    (hx2 : (x2, instObj 83 dx2) ∈ news) (hdx2 : (dx2, dictOf [⟨g21, .str (Str.ofString "raw") k21, .str raw2 q21⟩, ⟨g22, .str (Str.ofString "n") k22, .int n2 q22⟩, ⟨g23, .str (Str.ofString "nt") k23, .int nt2 q23⟩, ⟨g24, .str (Str.ofString "norm") k24, .ref tn2⟩, ⟨g25, .str (Str.ofString "is_simple") k25, .bool sim2⟩] 5) ∈ news)
    (htn2 : (tn2, tupO [.ref tc2, .int b2 q25]) ∈ news) (htc2 : (tc2, tupO vs2) ∈ news) (hi2 : IntsAre vs2 ns2) (hlen2 : ns2.length ≤ 10) (hbd1 : ∀ k, 0 ≤ ns1.getD k 0 ∧ ns1.getD k 0 ≤ 1000) (hbd2 : ∀ k, 0 ≤ ns2.getD k 0 ∧ ns2.getD k 0 ≤ 1000) (hb1 : 0 ≤ b1 ∧ b1 ≤ 100) (hb2 : 0 ≤ b2 ∧ b2 ≤ 100)
    (hret : ∀ l vs k tl h' tk', DatAll (tl ++ news) vs ((wit (fun a b => decide (a ≠ b)) (levF ns1 nt1 b1) (levF ns2 nt2 b2) (lrM (lrF ns1 b1) (lrF ns2 b2) + 1).toNat).map rowD) → (∀ p ∈ tl ++ news, p.1 ≠ l) → (∀ q ∈ news, ∀ p ∈ tl, q.1 < p.1) → (∀ q ∈ news, q.1 < l) → Fr h₀ L h' m → News h₀ L h' ((l, listOf vs.toArray k) :: (tl ++ news)) → Q (.ref l) { s with heap := h', toks := tk' }) :
    wpAny (model PySem.Challenge.rw_rl0132_01.prog w) (ktrTop dp un gd cn cs L a ccd cl outer) (call (.ref 66) [.ref x1, .ref x2]) Q E s := by
  revert w pv LSv mean mg mb dp un gd cn cs a ccd cl outer A₀ base h₀ L m news s Q E x1 dx1 tn1 tc1 raw1 n1 nt1 b1 sim1 vs1 ns1 g11 g12 g13 g14 g15 k11 k12 k13 k14 k15 q11 q12 q13 q15 x2 dx2 tn2 tc2 raw2 n2 nt2 b2 sim2 vs2 ns2 g21 g22 g23 g24 g25 k21 k22 k23 k24 k25 q21 q22 q23 q25
  refine (?zh : ∀ w pv LSv mean mg mb dp un gd cn cs a ccd cl outer A₀ base h₀ L m news s Q E x1 dx1 tn1 tc1 raw1 n1 nt1 b1 sim1 vs1 ns1 g11 g12 g13 g14 g15 k11 k12 k13 k14 k15 q11 q12 q13 q15 x2 dx2 tn2 tc2 raw2 n2 nt2 b2 sim2 vs2 ns2 g21 g22 g23 g24 g25 k21 k22 k23 k24 k25 q21 q22 q23 q25, (?zP : _ → _ → _ → _ → _ → _ → _ → _ → _ → _ → _ → _ → _ → _ → _ → _ → _ → _ → _ → _ → _ → _ → _ → _ → _ → _ → _ → _ → _ → _ → _ → _ → _ → _ → _ → _ → _ → _ → _ → _ → _ → _ → _ → _ → _ → _ → _ → _ → _ → _ → _ → _ → _ → _ → _ → _ → _ → _ → _ → _ → _ → _ → _ → _ → _ → _ → _ → _ → _ → _ → _ → _ → _ → _ → Prop) w pv LSv mean mg mb dp un gd cn cs a ccd cl outer A₀ base h₀ L m news s Q E x1 dx1 tn1 tc1 raw1 n1 nt1 b1 sim1 vs1 ns1 g11 g12 g13 g14 g15 k11 k12 k13 k14 k15 q11 q12 q13 q15 x2 dx2 tn2 tc2 raw2 n2 nt2 b2 sim2 vs2 ns2 g21 g22 g23 g24 g25 k21 k22 k23 k24 k25 q21 q22 q23 q25)
  refine fun w pv LSv mean mg mb dp un gd cn cs a ccd cl outer A₀ base h₀ L m news s Q E x1 dx1 tn1 tc1 raw1 n1 nt1 b1 sim1 vs1 ns1 g11 g12 g13 g14 g15 k11 k12 k13 k14 k15 q11 q12 q13 q15 x2 dx2 tn2 tc2 raw2 n2 nt2 b2 sim2 vs2 ns2 g21 g22 g23 g24 g25 k21 k22 k23 k24 k25 q21 q22 q23 q25 => allE (P := un2 fun w => un2 fun pv => un2 fun LSv => un2 fun mean => un2 fun mg => un2 fun mb => un2 fun dp => un2 fun un => un2 fun gd => un2 fun cn => un2 fun cs => un2 fun a => un2 fun ccd => un2 fun cl => un2 fun outer => un2 fun A₀ => un2 fun base => un2 fun h₀ => un2 fun L => un2 fun m => un2 fun news => un2 fun s => un2 fun Q => un2 fun E => un2 fun x1 => un2 fun dx1 => un2 fun tn1 => un2 fun tc1 => un2 fun raw1 => un2 fun n1 => un2 fun nt1 => un2 fun b1 => un2 fun sim1 => un2 fun vs1 => un2 fun ns1 => un2 fun g11 => un2 fun g12 => un2 fun g13 => un2 fun g14 => un2 fun g15 => un2 fun k11 => un2 fun k12 => un2 fun k13 => un2 fun k14 => un2 fun k15 => un2 fun q11 => un2 fun q12 => un2 fun q13 => un2 fun q15 => un2 fun x2 => un2 fun dx2 => un2 fun tn2 => un2 fun tc2 => un2 fun raw2 => un2 fun n2 => un2 fun nt2 => un2 fun b2 => un2 fun sim2 => un2 fun vs2 => un2 fun ns2 => un2 fun g21 => un2 fun g22 => un2 fun g23 => un2 fun g24 => un2 fun g25 => un2 fun k21 => un2 fun k22 => un2 fun k23 => un2 fun k24 => un2 fun k25 => un2 fun q21 => un2 fun q22 => un2 fun q23 q25 => ?zP w pv LSv mean mg mb dp un gd cn cs a ccd cl outer A₀ base h₀ L m news s Q E x1 dx1 tn1 tc1 raw1 n1 nt1 b1 sim1 vs1 ns1 g11 g12 g13 g14 g15 k11 k12 k13 k14 k15 q11 q12 q13 q15 x2 dx2 tn2 tc2 raw2 n2 nt2 b2 sim2 vs2 ns2 g21 g22 g23 g24 g25 k21 k22 k23 k24 k25 q21 q22 q23 q25) ?zn ?zk (w, pv, LSv, mean, mg, mb, dp, un, gd, cn, cs, a, ccd, cl, outer, A₀, base, h₀, L, m, news, s, Q, E, x1, dx1, tn1, tc1, raw1, n1, nt1, b1, sim1, vs1, ns1, g11, g12, g13, g14, g15, k11, k12, k13, k14, k15, q11, q12, q13, q15, x2, dx2, tn2, tc2, raw2, n2, nt2, b2, sim2, vs2, ns2, g21, g22, g23, g24, g25, k21, k22, k23, k24, k25, q21, q22, q23, q25)
  case zn => walk_at "ne"
  clear w pv LSv mean mg mb dp un gd cn cs a ccd cl outer A₀ base h₀ L m news s Q E x1 dx1 tn1 tc1 raw1 n1 nt1 b1 sim1 vs1 ns1 g11 g12 g13 g14 g15 k11 k12 k13 k14 k15 q11 q12 q13 q15 x2 dx2 tn2 tc2 raw2 n2 nt2 b2 sim2 vs2 ns2 g21 g22 g23 g24 g25 k21 k22 k23 k24 k25 q21 q22 q23 q25
  refine (?zj : AtE _ ?zE)
  refine (?zF : ∀ w pv LSv mean mg mb dp un gd cn cs a ccd cl outer A₀ base h₀ L m news s Q E x1 dx1 tn1 tc1 raw1 n1 nt1 b1 sim1 vs1 ns1 g11 g12 g13 g14 g15 k11 k12 k13 k14 k15 q11 q12 q13 q15 x2 dx2 tn2 tc2 raw2 n2 nt2 b2 sim2 vs2 ns2 g21 g22 g23 g24 g25 k21 k22 k23 k24 k25 q21 q22 q23 q25, ?zP w pv LSv mean mg mb dp un gd cn cs a ccd cl outer A₀ base h₀ L m news s Q E x1 dx1 tn1 tc1 raw1 n1 nt1 b1 sim1 vs1 ns1 g11 g12 g13 g14 g15 k11 k12 k13 k14 k15 q11 q12 q13 q15 x2 dx2 tn2 tc2 raw2 n2 nt2 b2 sim2 vs2 ns2 g21 g22 g23 g24 g25 k21 k22 k23 k24 k25 q21 q22 q23 q25) ?zE.1 ?zE.2.1 ?zE.2.2.1 ?zE.2.2.2.1 ?zE.2.2.2.2.1 ?zE.2.2.2.2.2.1 ?zE.2.2.2.2.2.2.1 ?zE.2.2.2.2.2.2.2.1 ?zE.2.2.2.2.2.2.2.2.1 ?zE.2.2.2.2.2.2.2.2.2.1 ?zE.2.2.2.2.2.2.2.2.2.2.1 ?zE.2.2.2.2.2.2.2.2.2.2.2.1 ?zE.2.2.2.2.2.2.2.2.2.2.2.2.1 ?zE.2.2.2.2.2.2.2.2.2.2.2.2.2.1 ?zE.2.2.2.2.2.2.2.2.2.2.2.2.2.2.1 ?zE.2.2.2.2.2.2.2.2.2.2.2.2.2.2.2.1 ?zE.2.2.2.2.2.2.2.2.2.2.2.2.2.2.2.2.1 ?zE.2.2.2.2.2.2.2.2.2.2.2.2.2.2.2.2.2.1 ?zE.2.2.2.2.2.2.2.2.2.2.2.2.2.2.2.2.2.2.1 ?zE.2.2.2.2.2.2.2.2.2.2.2.2.2.2.2.2.2.2.2.1 ?zE.2.2.2.2.2.2.2.2.2.2.2.2.2.2.2.2.2.2.2.2.1 ?zE.2.2.2.2.2.2.2.2.2.2.2.2.2.2.2.2.2.2.2.2.2.1 ?zE.2.2.2.2.2.2.2.2.2.2.2.2.2.2.2.2.2.2.2.2.2.2.1 ?zE.2.2.2.2.2.2.2.2.2.2.2.2.2.2.2.2.2.2.2.2.2.2.2.1 ?zE.2.2.2.2.2.2.2.2.2.2.2.2.2.2.2.2.2.2.2.2.2.2.2.2.1 ?zE.2.2.2.2.2.2.2.2.2.2.2.2.2.2.2.2.2.2.2.2.2.2.2.2.2.1 ?zE.2.2.2.2.2.2.2.2.2.2.2.2.2.2.2.2.2.2.2.2.2.2.2.2.2.2.1 ?zE.2.2.2.2.2.2.2.2.2.2.2.2.2.2.2.2.2.2.2.2.2.2.2.2.2.2.2.1 ?zE.2.2.2.2.2.2.2.2.2.2.2.2.2.2.2.2.2.2.2.2.2.2.2.2.2.2.2.2.1 ?zE.2.2.2.2.2.2.2.2.2.2.2.2.2.2.2.2.2.2.2.2.2.2.2.2.2.2.2.2.2.1 ?zE.2.2.2.2.2.2.2.2.2.2.2.2.2.2.2.2.2.2.2.2.2.2.2.2.2.2.2.2.2.2.1 ?zE.2.2.2.2.2.2.2.2.2.2.2.2.2.2.2.2.2.2.2.2.2.2.2.2.2.2.2.2.2.2.2.1 ?zE.2.2.2.2.2.2.2.2.2.2.2.2.2.2.2.2.2.2.2.2.2.2.2.2.2.2.2.2.2.2.2.2.1 ?zE.2.2.2.2.2.2.2.2.2.2.2.2.2.2.2.2.2.2.2.2.2.2.2.2.2.2.2.2.2.2.2.2.2.1 ?zE.2.2.2.2.2.2.2.2.2.2.2.2.2.2.2.2.2.2.2.2.2.2.2.2.2.2.2.2.2.2.2.2.2.2.1 ?zE.2.2.2.2.2.2.2.2.2.2.2.2.2.2.2.2.2.2.2.2.2.2.2.2.2.2.2.2.2.2.2.2.2.2.2.1 ?zE.2.2.2.2.2.2.2.2.2.2.2.2.2.2.2.2.2.2.2.2.2.2.2.2.2.2.2.2.2.2.2.2.2.2.2.2.1 ?zE.2.2.2.2.2.2.2.2.2.2.2.2.2.2.2.2.2.2.2.2.2.2.2.2.2.2.2.2.2.2.2.2.2.2.2.2.2.1 ?zE.2.2.2.2.2.2.2.2.2.2.2.2.2.2.2.2.2.2.2.2.2.2.2.2.2.2.2.2.2.2.2.2.2.2.2.2.2.2.1 ?zE.2.2.2.2.2.2.2.2.2.2.2.2.2.2.2.2.2.2.2.2.2.2.2.2.2.2.2.2.2.2.2.2.2.2.2.2.2.2.2.1 ?zE.2.2.2.2.2.2.2.2.2.2.2.2.2.2.2.2.2.2.2.2.2.2.2.2.2.2.2.2.2.2.2.2.2.2.2.2.2.2.2.2.1 ?zE.2.2.2.2.2.2.2.2.2.2.2.2.2.2.2.2.2.2.2.2.2.2.2.2.2.2.2.2.2.2.2.2.2.2.2.2.2.2.2.2.2.1 ?zE.2.2.2.2.2.2.2.2.2.2.2.2.2.2.2.2.2.2.2.2.2.2.2.2.2.2.2.2.2.2.2.2.2.2.2.2.2.2.2.2.2.2.1 ?zE.2.2.2.2.2.2.2.2.2.2.2.2.2.2.2.2.2.2.2.2.2.2.2.2.2.2.2.2.2.2.2.2.2.2.2.2.2.2.2.2.2.2.2.1 ?zE.2.2.2.2.2.2.2.2.2.2.2.2.2.2.2.2.2.2.2.2.2.2.2.2.2.2.2.2.2.2.2.2.2.2.2.2.2.2.2.2.2.2.2.2.1 ?zE.2.2.2.2.2.2.2.2.2.2.2.2.2.2.2.2.2.2.2.2.2.2.2.2.2.2.2.2.2.2.2.2.2.2.2.2.2.2.2.2.2.2.2.2.2.1 ?zE.2.2.2.2.2.2.2.2.2.2.2.2.2.2.2.2.2.2.2.2.2.2.2.2.2.2.2.2.2.2.2.2.2.2.2.2.2.2.2.2.2.2.2.2.2.2.1 ?zE.2.2.2.2.2.2.2.2.2.2.2.2.2.2.2.2.2.2.2.2.2.2.2.2.2.2.2.2.2.2.2.2.2.2.2.2.2.2.2.2.2.2.2.2.2.2.2.1 ?zE.2.2.2.2.2.2.2.2.2.2.2.2.2.2.2.2.2.2.2.2.2.2.2.2.2.2.2.2.2.2.2.2.2.2.2.2.2.2.2.2.2.2.2.2.2.2.2.2.1 ?zE.2.2.2.2.2.2.2.2.2.2.2.2.2.2.2.2.2.2.2.2.2.2.2.2.2.2.2.2.2.2.2.2.2.2.2.2.2.2.2.2.2.2.2.2.2.2.2.2.2.1 ?zE.2.2.2.2.2.2.2.2.2.2.2.2.2.2.2.2.2.2.2.2.2.2.2.2.2.2.2.2.2.2.2.2.2.2.2.2.2.2.2.2.2.2.2.2.2.2.2.2.2.2.1 ?zE.2.2.2.2.2.2.2.2.2.2.2.2.2.2.2.2.2.2.2.2.2.2.2.2.2.2.2.2.2.2.2.2.2.2.2.2.2.2.2.2.2.2.2.2.2.2.2.2.2.2.2.1 ?zE.2.2.2.2.2.2.2.2.2.2.2.2.2.2.2.2.2.2.2.2.2.2.2.2.2.2.2.2.2.2.2.2.2.2.2.2.2.2.2.2.2.2.2.2.2.2.2.2.2.2.2.2.1 ?zE.2.2.2.2.2.2.2.2.2.2.2.2.2.2.2.2.2.2.2.2.2.2.2.2.2.2.2.2.2.2.2.2.2.2.2.2.2.2.2.2.2.2.2.2.2.2.2.2.2.2.2.2.2.1 ?zE.2.2.2.2.2.2.2.2.2.2.2.2.2.2.2.2.2.2.2.2.2.2.2.2.2.2.2.2.2.2.2.2.2.2.2.2.2.2.2.2.2.2.2.2.2.2.2.2.2.2.2.2.2.2.1 ?zE.2.2.2.2.2.2.2.2.2.2.2.2.2.2.2.2.2.2.2.2.2.2.2.2.2.2.2.2.2.2.2.2.2.2.2.2.2.2.2.2.2.2.2.2.2.2.2.2.2.2.2.2.2.2.2.1 ?zE.2.2.2.2.2.2.2.2.2.2.2.2.2.2.2.2.2.2.2.2.2.2.2.2.2.2.2.2.2.2.2.2.2.2.2.2.2.2.2.2.2.2.2.2.2.2.2.2.2.2.2.2.2.2.2.2.1 ?zE.2.2.2.2.2.2.2.2.2.2.2.2.2.2.2.2.2.2.2.2.2.2.2.2.2.2.2.2.2.2.2.2.2.2.2.2.2.2.2.2.2.2.2.2.2.2.2.2.2.2.2.2.2.2.2.2.2.1 ?zE.2.2.2.2.2.2.2.2.2.2.2.2.2.2.2.2.2.2.2.2.2.2.2.2.2.2.2.2.2.2.2.2.2.2.2.2.2.2.2.2.2.2.2.2.2.2.2.2.2.2.2.2.2.2.2.2.2.2.1 ?zE.2.2.2.2.2.2.2.2.2.2.2.2.2.2.2.2.2.2.2.2.2.2.2.2.2.2.2.2.2.2.2.2.2.2.2.2.2.2.2.2.2.2.2.2.2.2.2.2.2.2.2.2.2.2.2.2.2.2.2.1 ?zE.2.2.2.2.2.2.2.2.2.2.2.2.2.2.2.2.2.2.2.2.2.2.2.2.2.2.2.2.2.2.2.2.2.2.2.2.2.2.2.2.2.2.2.2.2.2.2.2.2.2.2.2.2.2.2.2.2.2.2.2.1 ?zE.2.2.2.2.2.2.2.2.2.2.2.2.2.2.2.2.2.2.2.2.2.2.2.2.2.2.2.2.2.2.2.2.2.2.2.2.2.2.2.2.2.2.2.2.2.2.2.2.2.2.2.2.2.2.2.2.2.2.2.2.2.1 ?zE.2.2.2.2.2.2.2.2.2.2.2.2.2.2.2.2.2.2.2.2.2.2.2.2.2.2.2.2.2.2.2.2.2.2.2.2.2.2.2.2.2.2.2.2.2.2.2.2.2.2.2.2.2.2.2.2.2.2.2.2.2.2.1 ?zE.2.2.2.2.2.2.2.2.2.2.2.2.2.2.2.2.2.2.2.2.2.2.2.2.2.2.2.2.2.2.2.2.2.2.2.2.2.2.2.2.2.2.2.2.2.2.2.2.2.2.2.2.2.2.2.2.2.2.2.2.2.2.2.1 ?zE.2.2.2.2.2.2.2.2.2.2.2.2.2.2.2.2.2.2.2.2.2.2.2.2.2.2.2.2.2.2.2.2.2.2.2.2.2.2.2.2.2.2.2.2.2.2.2.2.2.2.2.2.2.2.2.2.2.2.2.2.2.2.2.2.1 ?zE.2.2.2.2.2.2.2.2.2.2.2.2.2.2.2.2.2.2.2.2.2.2.2.2.2.2.2.2.2.2.2.2.2.2.2.2.2.2.2.2.2.2.2.2.2.2.2.2.2.2.2.2.2.2.2.2.2.2.2.2.2.2.2.2.2.1 ?zE.2.2.2.2.2.2.2.2.2.2.2.2.2.2.2.2.2.2.2.2.2.2.2.2.2.2.2.2.2.2.2.2.2.2.2.2.2.2.2.2.2.2.2.2.2.2.2.2.2.2.2.2.2.2.2.2.2.2.2.2.2.2.2.2.2.2.1 ?zE.2.2.2.2.2.2.2.2.2.2.2.2.2.2.2.2.2.2.2.2.2.2.2.2.2.2.2.2.2.2.2.2.2.2.2.2.2.2.2.2.2.2.2.2.2.2.2.2.2.2.2.2.2.2.2.2.2.2.2.2.2.2.2.2.2.2.2.1 ?zE.2.2.2.2.2.2.2.2.2.2.2.2.2.2.2.2.2.2.2.2.2.2.2.2.2.2.2.2.2.2.2.2.2.2.2.2.2.2.2.2.2.2.2.2.2.2.2.2.2.2.2.2.2.2.2.2.2.2.2.2.2.2.2.2.2.2.2.2.1 ?zE.2.2.2.2.2.2.2.2.2.2.2.2.2.2.2.2.2.2.2.2.2.2.2.2.2.2.2.2.2.2.2.2.2.2.2.2.2.2.2.2.2.2.2.2.2.2.2.2.2.2.2.2.2.2.2.2.2.2.2.2.2.2.2.2.2.2.2.2.2.1 ?zE.2.2.2.2.2.2.2.2.2.2.2.2.2.2.2.2.2.2.2.2.2.2.2.2.2.2.2.2.2.2.2.2.2.2.2.2.2.2.2.2.2.2.2.2.2.2.2.2.2.2.2.2.2.2.2.2.2.2.2.2.2.2.2.2.2.2.2.2.2.2.1 ?zE.2.2.2.2.2.2.2.2.2.2.2.2.2.2.2.2.2.2.2.2.2.2.2.2.2.2.2.2.2.2.2.2.2.2.2.2.2.2.2.2.2.2.2.2.2.2.2.2.2.2.2.2.2.2.2.2.2.2.2.2.2.2.2.2.2.2.2.2.2.2.2.1 ?zE.2.2.2.2.2.2.2.2.2.2.2.2.2.2.2.2.2.2.2.2.2.2.2.2.2.2.2.2.2.2.2.2.2.2.2.2.2.2.2.2.2.2.2.2.2.2.2.2.2.2.2.2.2.2.2.2.2.2.2.2.2.2.2.2.2.2.2.2.2.2.2.2.1 ?zE.2.2.2.2.2.2.2.2.2.2.2.2.2.2.2.2.2.2.2.2.2.2.2.2.2.2.2.2.2.2.2.2.2.2.2.2.2.2.2.2.2.2.2.2.2.2.2.2.2.2.2.2.2.2.2.2.2.2.2.2.2.2.2.2.2.2.2.2.2.2.2.2.2
  intros w pv LSv mean mg mb dp un gd cn cs a ccd cl outer A₀ base h₀ L m news s Q E x1 dx1 tn1 tc1 raw1 n1 nt1 b1 sim1 vs1 ns1 g11 g12 g13 g14 g15 k11 k12 k13 k14 k15 q11 q12 q13 q15 x2 dx2 tn2 tc2 raw2 n2 nt2 b2 sim2 vs2 ns2 g21 g22 g23 g24 g25 k21 k22 k23 k24 k25 q21 q22 q23 q25
  intro B F X N T hk hd1 hu hx1 hdx1 htn1 htc1 hi1 hlen1 hx2 hdx2 htn2 htc2 hi2 hlen2 hbd1 hbd2 hb1 hb2 hret
  revert X; k_fill; intro X
  refine wpAny_call ?_
  k_dflt walk_at "en"
  have hl1 := lrF_bd hlen1 hb1
  have hl2 := lrF_bd hlen2 hb2
  have hnn : 0 ≤ lrM (lrF ns1 b1) (lrF ns2 b2) ∧ lrM (lrF ns1 b1) (lrF ns2 b2) ≤ 100 := by unfold lrM; split <;> omega
  k_steps
  refine hold_in ?_
  (rename Fr _ _ _ _ => lF'); (rename News _ _ _ _ => lN')
  k_dflt (refine For_rng lF' [] (WitR (fun a b => decide (a ≠ b)) (levF ns1 nt1 b1) (levF ns2 nt2 b2) news s.gens) rfl rfl rfl ?_)
  k_steps
  (rename Fr _ _ _ _ => lF'); (rename News _ _ _ _ => lN'); (rename IsRange _ _ _ _ _ _ _ _ => rgX)
  have rgX : IsRange _ _ 1 (lrM (lrF ns1 b1) (lrF ns2 b2) + 1 + 1) 1 _ _ _ := rgX
  k_dflt (refine' rng_intro1 (Str.ofString "a") ?hr ?hF ?hN ?hz ?hb ?hR ?turn ?done; (case hr => exact rgX); (case hF => exact lF'); (case hN => exact lN'); (case hz => exact rfl); (case hb => exact ⟨by omega, by omega, by omega, by omega⟩); (case hR => exact ⟨rfl, _, [], _, [], rfl, rfl, by simpa [wit, rangeKs] using DatAll.nil, by simpa using ne_lt (by assumption), by simp, by assumption, by simp⟩))
  case turn =>
    intro i t ps nx u h g tk I oI hi hlt hne hR F' N'
    (change (let G9 : Prop := _; G9)); intro G9
    obtain ⟨rfl, la, vs, k, tl, rfl, rfl, hD, hne1, hlt1, hlt2, hvl⟩ := hR
    unfold G9; (try clear G9)
    have hIla : @Ne Nat la I := hne _ (List.Mem.head _)
    k_steps
    · exact wit_end_yes (by assumption) (by assumption) rfl (by intro z h1 h2 h3; simp [h1, h3, upd]) (by assumption) hIla hne hD hne1 hlt1 hlt2 hvl (by simp_all) rfl
    · exact wit_end_no (by assumption) (by assumption) rfl (by intro z h1 h2 h3; simp [h1, h3, upd]) hne hD hne1 hlt1 hlt2 hvl (by simp_all) rfl
  case done =>
    intro ps nx u h g tk hR F' N'
    (change (let G9 : Prop := _; G9)); intro G9
    obtain ⟨rfl, la, vs, k, tl, rfl, rfl, hD, hne1, hlt1, hlt2, hvl⟩ := hR
    unfold G9; (try clear G9)
    k_steps
    have e : (lrM (lrF ns1 b1) (lrF ns2 b2) + 1 + 1 - 1).toNat = (lrM (lrF ns1 b1) (lrF ns2 b2) + 1).toNat := by omega
    rw [e] at hD
    exact hret _ _ _ _ _ _ hD hne1 hlt1 hlt2 (by assumption) (by assumption)
  run_tac fin
end
end
section
theorem fresh_C5 : True := by w_top off; exact True.intro
set_option maxHeartbeats 8000000
noncomputable def lessF (n1 n2 nt1 nt2 : Int) (sim1 sim2 : Bool) (f g : Int → Int) (k : Int) : Bool :=
  if n2 ≤ n1 then false else if sim1 && sim2 then decide (nt1 ≤ nt2) else (rangeKs 2 (k - 1).toNat).all fun ts => decide (f ts < g ts)
theorem news_drop1 {h₀ h : Heap} {L : Addr} {q : Addr × Obj} {nx : List (Addr × Obj)} (N : News h₀ L h (q :: nx)) : News h₀ L h nx := fun p hp => N p (List.Mem.tail _ hp)
section
variable {n1 n2 nt1 nt2 : Int} {sim1 sim2 : Bool} {f g : Int → Int} {k : Int}
theorem lessF_a (h : n2 ≤ n1) : false = lessF n1 n2 nt1 nt2 sim1 sim2 f g k := by unfold lessF; rw [if_pos h]
theorem lessF_b (h : ¬ n2 ≤ n1) (h1 : sim1 = true) (h2 : sim2 = true) : decide (nt1 ≤ nt2) = lessF n1 n2 nt1 nt2 sim1 sim2 f g k := by unfold lessF; rw [if_neg h, h1, h2]; rfl
theorem lessF_f (h : ¬ n2 ≤ n1) (h12 : (sim1 && sim2) = false) {i : Nat} (hi : (i : Int) < k - 1) (hf : g (2 + (i : Int)) ≤ f (2 + (i : Int))) : false = lessF n1 n2 nt1 nt2 sim1 sim2 f g k := by
  unfold lessF; rw [if_neg h, h12, if_neg (by decide)]
  symm
  rw [List.all_eq_false]
  refine ⟨2 + (i : Int), ?_, by simpa using hf⟩
  simp only [rangeKs, List.mem_map, List.mem_range]
  exact ⟨i, by omega, rfl⟩
theorem lessF_t (h : ¬ n2 ≤ n1) (h12 : (sim1 && sim2) = false) {i : Nat} (hi : (i : Int) = k - 1) (hf : (rangeKs 2 i).all (fun ts => decide (f ts < g ts)) = true) : true = lessF n1 n2 nt1 nt2 sim1 sim2 f g k := by
  unfold lessF; rw [if_neg h, h12, if_neg (by decide)]
  rw [show (k - 1).toNat = i by omega, hf]
theorem all_step {i : Nat} (hf : (rangeKs 2 i).all (fun ts => decide (f ts < g ts)) = true) (h : ¬ g (2 + (i : Int)) ≤ f (2 + (i : Int))) : (rangeKs 2 (i + 1)).all (fun ts => decide (f ts < g ts)) = true := by
  rw [rangeKs_succ, List.all_append, hf]
  simp only [Bool.true_and, List.all_cons, List.all_nil, Bool.and_true, decide_eq_true_eq]; omega
end
section
variable {w : World} {pv : Program} {LSv : List Str} {mean : ExcName → Option Value} {mg mb : Str → Option Value}
    {dp un : Nat} {gd : Option (List Code)} {cn : Str} {cs : Scope} {a : Addr} {ccd : Value} {cl : List (Str × Addr)} {outer : List Env} {A₀ : Around} {base h₀ : Heap} {L : Addr} {m : Str → Option Value} {news : List (Addr × Obj)} {s : Shared}
    {Q E : Value → Shared → Prop}
theorem rows_C5_0 : True := by
  k_with_none
  k_with "PostM" => (dsimp only [PostM])
  k_with "exec For Name Call cons nil" => refine hold_out ?_
  k_with "call ref" => (k_here; (with_reducible show wpAny _ _ (call (Value.ref 45) _) _ _ _); k_dflt (refine' lrun_spec ?k1 ?k2 ?k3 ?k4 ?k5 ?k6 ?k7 ?k8 ?p1 ?p2 ?p3 ?p4 ?p5 ?p6 ?_; (case k1 => k_asm); (case k2 => k_asm); (case k3 => k_asm); (case k4 => k_asm); (case k5 => k_asm); (case k6 => first | rfl | assumption); (case k7 => ktr_room); (case k8 => ktr_units); (case p1 => k_mem); (case p2 => k_mem); (case p3 => k_mem); (case p4 => k_mem); (case p5 => assumption); (case p6 => omega); k_whole); intro rQq7 tQq7 hQq7 tkQq7 eQq7 FQq7 NQq7; (try subst eQq7); (try k_sweep))
  k_with "call ref" => (k_here; (with_reducible show wpAny _ _ (call (Value.ref 52) _) _ _ _); k_dflt (refine' ilev_spec ?k1 ?k2 ?k3 ?k4 ?k5 ?k6 ?k7 ?k8 ?p1 ?p2 ?p3 ?p4 ?p5 ?p6 ?p7 ?p8 ?p9 ?_; (case k1 => k_asm); (case k2 => k_asm); (case k3 => k_asm); (case k4 => k_asm); (case k5 => k_asm); (case k6 => first | rfl | assumption); (case k7 => ktr_room); (case k8 => ktr_units); (case p1 => k_mem); (case p2 => k_mem); (case p3 => k_mem); (case p4 => k_mem); (case p5 => assumption); (case p6 => omega); (case p7 => omega); (case p8 => omega); (case p9 => assumption); k_whole); intro rQq7 tQq7 hQq7 tkQq7 eQq7 FQq7 NQq7; (try subst eQq7); (try k_sweep))
  exact True.intro
theorem less_spec {x1 dx1 tn1 tc1 : Addr} {raw1 : Str} {n1 nt1 b1 : Int} {sim1 : Bool} {vs1 : List Value} {ns1 : List Int} {g11 g12 g13 g14 g15 : Int} {k11 k12 k13 k14 k15 q11 q12 q13 q15 : Tok} {x2 dx2 tn2 tc2 : Addr} {raw2 : Str} {n2 nt2 b2 : Int} {sim2 : Bool} {vs2 : List Value} {ns2 : List Int} {g21 g22 g23 g24 g25 : Int} {k21 k22 k23 k24 k25 q21 q22 q23 q25 : Tok} (B : Below A₀ base outer h₀) (F : Fr h₀ L s.heap m) (X : (hd.heap_39 w.params).In h₀) (N : News h₀ L s.heap news) (T : Top pv LSv mean mg mb h₀) (hk : cs.kind = .function)
    (hd1 : dp + 2 < recursionLimit) (hu : un + 200 < cLine) (hx1 : (x1, instObj 83 dx1) ∈ news) (hdx1 : (dx1, dictOf [⟨g11, .str (Str.ofString "raw") k11, .str raw1 q11⟩, ⟨g12, .str (Str.ofString "n") k12, .int n1 q12⟩, ⟨g13, .str (Str.ofString "nt") k13, .int nt1 q13⟩, ⟨g14, .str (Str.ofString "norm") k14, .ref tn1⟩, ⟨g15, .str (Str.ofString "is_simple") k15, .bool sim1⟩] 5) ∈ news)
    (htn1 : (tn1, tupO [.ref tc1, .int b1 q15]) ∈ news) (htc1 : (tc1, tupO vs1) ∈ news) (hi1 : IntsAre vs1 ns1) (hlen1 : ns1.length ≤ 10)
    (hx2 : (x2, instObj 83 dx2) ∈ news) (hdx2 : (dx2, dictOf [⟨g21, .str (Str.ofString "raw") k21, .str raw2 q21⟩, ⟨g22, .str (Str.ofString "n") k22, .int n2 q22⟩, ⟨g23, .str (Str.ofString "nt") k23, .int nt2 q23⟩, ⟨g24, .str (Str.ofString "norm") k24, .ref tn2⟩, ⟨g25, .str (Str.ofString "is_simple") k25, .bool sim2⟩] 5) ∈ news)
    (htn2 : (tn2, tupO [.ref tc2, .int b2 q25]) ∈ news) (htc2 : (tc2, tupO vs2) ∈ news) (hi2 : IntsAre vs2 ns2) (hlen2 : ns2.length ≤ 10) (hbd1 : ∀ k, 0 ≤ ns1.getD k 0 ∧ ns1.getD k 0 ≤ 1000) (hbd2 : ∀ k, 0 ≤ ns2.getD k 0 ∧ ns2.getD k 0 ≤ 1000) (hb1 : 0 ≤ b1 ∧ b1 ≤ 100) (hb2 : 0 ≤ b2 ∧ b2 ≤ 100)
    (hret : ∀ r h' tk', r = lessF n1 n2 nt1 nt2 sim1 sim2 (levF ns1 nt1 b1) (levF ns2 nt2 b2) (lrM (lrF ns1 b1) (lrF ns2 b2) + 1) → Fr h₀ L h' m → News h₀ L h' news → Q (.bool r) { s with heap := h', toks := tk' }) :
    wpAny (model PySem.Challenge.rw_rl0132_01.prog w) (ktrTop dp un gd cn cs L a ccd cl outer) (call (.ref 73) [.ref x1, .ref x2]) Q E s := by
  revert w pv LSv mean mg mb dp un gd cn cs a ccd cl outer A₀ base h₀ L m news s Q E x1 dx1 tn1 tc1 raw1 n1 nt1 b1 sim1 vs1 ns1 g11 g12 g13 g14 g15 k11 k12 k13 k14 k15 q11 q12 q13 q15 x2 dx2 tn2 tc2 raw2 n2 nt2 b2 sim2 vs2 ns2 g21 g22 g23 g24 g25 k21 k22 k23 k24 k25 q21 q22 q23 q25
  refine (?zh : ∀ w pv LSv mean mg mb dp un gd cn cs a ccd cl outer A₀ base h₀ L m news s Q E x1 dx1 tn1 tc1 raw1 n1 nt1 b1 sim1 vs1 ns1 g11 g12 g13 g14 g15 k11 k12 k13 k14 k15 q11 q12 q13 q15 x2 dx2 tn2 tc2 raw2 n2 nt2 b2 sim2 vs2 ns2 g21 g22 g23 g24 g25 k21 k22 k23 k24 k25 q21 q22 q23 q25, (?zP : _ → _ → _ → _ → _ → _ → _ → _ → _ → _ → _ → _ → _ → _ → _ → _ → _ → _ → _ → _ → _ → _ → _ → _ → _ → _ → _ → _ → _ → _ → _ → _ → _ → _ → _ → _ → _ → _ → _ → _ → _ → _ → _ → _ → _ → _ → _ → _ → _ → _ → _ → _ → _ → _ → _ → _ → _ → _ → _ → _ → _ → _ → _ → _ → _ → _ → _ → _ → _ → _ → _ → _ → _ → _ → Prop) w pv LSv mean mg mb dp un gd cn cs a ccd cl outer A₀ base h₀ L m news s Q E x1 dx1 tn1 tc1 raw1 n1 nt1 b1 sim1 vs1 ns1 g11 g12 g13 g14 g15 k11 k12 k13 k14 k15 q11 q12 q13 q15 x2 dx2 tn2 tc2 raw2 n2 nt2 b2 sim2 vs2 ns2 g21 g22 g23 g24 g25 k21 k22 k23 k24 k25 q21 q22 q23 q25)
  refine fun w pv LSv mean mg mb dp un gd cn cs a ccd cl outer A₀ base h₀ L m news s Q E x1 dx1 tn1 tc1 raw1 n1 nt1 b1 sim1 vs1 ns1 g11 g12 g13 g14 g15 k11 k12 k13 k14 k15 q11 q12 q13 q15 x2 dx2 tn2 tc2 raw2 n2 nt2 b2 sim2 vs2 ns2 g21 g22 g23 g24 g25 k21 k22 k23 k24 k25 q21 q22 q23 q25 => allE (P := un2 fun w => un2 fun pv => un2 fun LSv => un2 fun mean => un2 fun mg => un2 fun mb => un2 fun dp => un2 fun un => un2 fun gd => un2 fun cn => un2 fun cs => un2 fun a => un2 fun ccd => un2 fun cl => un2 fun outer => un2 fun A₀ => un2 fun base => un2 fun h₀ => un2 fun L => un2 fun m => un2 fun news => un2 fun s => un2 fun Q => un2 fun E => un2 fun x1 => un2 fun dx1 => un2 fun tn1 => un2 fun tc1 => un2 fun raw1 => un2 fun n1 => un2 fun nt1 => un2 fun b1 => un2 fun sim1 => un2 fun vs1 => un2 fun ns1 => un2 fun g11 => un2 fun g12 => un2 fun g13 => un2 fun g14 => un2 fun g15 => un2 fun k11 => un2 fun k12 => un2 fun k13 => un2 fun k14 => un2 fun k15 => un2 fun q11 => un2 fun q12 => un2 fun q13 => un2 fun q15 => un2 fun x2 => un2 fun dx2 => un2 fun tn2 => un2 fun tc2 => un2 fun raw2 => un2 fun n2 => un2 fun nt2 => un2 fun b2 => un2 fun sim2 => un2 fun vs2 => un2 fun ns2 => un2 fun g21 => un2 fun g22 => un2 fun g23 => un2 fun g24 => un2 fun g25 => un2 fun k21 => un2 fun k22 => un2 fun k23 => un2 fun k24 => un2 fun k25 => un2 fun q21 => un2 fun q22 => un2 fun q23 q25 => ?zP w pv LSv mean mg mb dp un gd cn cs a ccd cl outer A₀ base h₀ L m news s Q E x1 dx1 tn1 tc1 raw1 n1 nt1 b1 sim1 vs1 ns1 g11 g12 g13 g14 g15 k11 k12 k13 k14 k15 q11 q12 q13 q15 x2 dx2 tn2 tc2 raw2 n2 nt2 b2 sim2 vs2 ns2 g21 g22 g23 g24 g25 k21 k22 k23 k24 k25 q21 q22 q23 q25) ?zn ?zk (w, pv, LSv, mean, mg, mb, dp, un, gd, cn, cs, a, ccd, cl, outer, A₀, base, h₀, L, m, news, s, Q, E, x1, dx1, tn1, tc1, raw1, n1, nt1, b1, sim1, vs1, ns1, g11, g12, g13, g14, g15, k11, k12, k13, k14, k15, q11, q12, q13, q15, x2, dx2, tn2, tc2, raw2, n2, nt2, b2, sim2, vs2, ns2, g21, g22, g23, g24, g25, k21, k22, k23, k24, k25, q21, q22, q23, q25)
  case zn => walk_at "ne"
  clear w pv LSv mean mg mb dp un gd cn cs a ccd cl outer A₀ base h₀ L m news s Q E x1 dx1 tn1 tc1 raw1 n1 nt1 b1 sim1 vs1 ns1 g11 g12 g13 g14 g15 k11 k12 k13 k14 k15 q11 q12 q13 q15 x2 dx2 tn2 tc2 raw2 n2 nt2 b2 sim2 vs2 ns2 g21 g22 g23 g24 g25 k21 k22 k23 k24 k25 q21 q22 q23 q25
  refine (?zj : AtE _ ?zE)
  refine (?zF : ∀ w pv LSv mean mg mb dp un gd cn cs a ccd cl outer A₀ base h₀ L m news s Q E x1 dx1 tn1 tc1 raw1 n1 nt1 b1 sim1 vs1 ns1 g11 g12 g13 g14 g15 k11 k12 k13 k14 k15 q11 q12 q13 q15 x2 dx2 tn2 tc2 raw2 n2 nt2 b2 sim2 vs2 ns2 g21 g22 g23 g24 g25 k21 k22 k23 k24 k25 q21 q22 q23 q25, ?zP w pv LSv mean mg mb dp un gd cn cs a ccd cl outer A₀ base h₀ L m news s Q E x1 dx1 tn1 tc1 raw1 n1 nt1 b1 sim1 vs1 ns1 g11 g12 g13 g14 g15 k11 k12 k13 k14 k15 q11 q12 q13 q15 x2 dx2 tn2 tc2 raw2 n2 nt2 b2 sim2 vs2 ns2 g21 g22 g23 g24 g25 k21 k22 k23 k24 k25 q21 q22 q23 q25) ?zE.1 ?zE.2.1 ?zE.2.2.1 ?zE.2.2.2.1 ?zE.2.2.2.2.1 ?zE.2.2.2.2.2.1 ?zE.2.2.2.2.2.2.1 ?zE.2.2.2.2.2.2.2.1 ?zE.2.2.2.2.2.2.2.2.1 ?zE.2.2.2.2.2.2.2.2.2.1 ?zE.2.2.2.2.2.2.2.2.2.2.1 ?zE.2.2.2.2.2.2.2.2.2.2.2.1 ?zE.2.2.2.2.2.2.2.2.2.2.2.2.1 ?zE.2.2.2.2.2.2.2.2.2.2.2.2.2.1 ?zE.2.2.2.2.2.2.2.2.2.2.2.2.2.2.1 ?zE.2.2.2.2.2.2.2.2.2.2.2.2.2.2.2.1 ?zE.2.2.2.2.2.2.2.2.2.2.2.2.2.2.2.2.1 ?zE.2.2.2.2.2.2.2.2.2.2.2.2.2.2.2.2.2.1 ?zE.2.2.2.2.2.2.2.2.2.2.2.2.2.2.2.2.2.2.1 ?zE.2.2.2.2.2.2.2.2.2.2.2.2.2.2.2.2.2.2.2.1 ?zE.2.2.2.2.2.2.2.2.2.2.2.2.2.2.2.2.2.2.2.2.1 ?zE.2.2.2.2.2.2.2.2.2.2.2.2.2.2.2.2.2.2.2.2.2.1 ?zE.2.2.2.2.2.2.2.2.2.2.2.2.2.2.2.2.2.2.2.2.2.2.1 ?zE.2.2.2.2.2.2.2.2.2.2.2.2.2.2.2.2.2.2.2.2.2.2.2.1 ?zE.2.2.2.2.2.2.2.2.2.2.2.2.2.2.2.2.2.2.2.2.2.2.2.2.1 ?zE.2.2.2.2.2.2.2.2.2.2.2.2.2.2.2.2.2.2.2.2.2.2.2.2.2.1 ?zE.2.2.2.2.2.2.2.2.2.2.2.2.2.2.2.2.2.2.2.2.2.2.2.2.2.2.1 ?zE.2.2.2.2.2.2.2.2.2.2.2.2.2.2.2.2.2.2.2.2.2.2.2.2.2.2.2.1 ?zE.2.2.2.2.2.2.2.2.2.2.2.2.2.2.2.2.2.2.2.2.2.2.2.2.2.2.2.2.1 ?zE.2.2.2.2.2.2.2.2.2.2.2.2.2.2.2.2.2.2.2.2.2.2.2.2.2.2.2.2.2.1 ?zE.2.2.2.2.2.2.2.2.2.2.2.2.2.2.2.2.2.2.2.2.2.2.2.2.2.2.2.2.2.2.1 ?zE.2.2.2.2.2.2.2.2.2.2.2.2.2.2.2.2.2.2.2.2.2.2.2.2.2.2.2.2.2.2.2.1 ?zE.2.2.2.2.2.2.2.2.2.2.2.2.2.2.2.2.2.2.2.2.2.2.2.2.2.2.2.2.2.2.2.2.1 ?zE.2.2.2.2.2.2.2.2.2.2.2.2.2.2.2.2.2.2.2.2.2.2.2.2.2.2.2.2.2.2.2.2.2.1 ?zE.2.2.2.2.2.2.2.2.2.2.2.2.2.2.2.2.2.2.2.2.2.2.2.2.2.2.2.2.2.2.2.2.2.2.1 ?zE.2.2.2.2.2.2.2.2.2.2.2.2.2.2.2.2.2.2.2.2.2.2.2.2.2.2.2.2.2.2.2.2.2.2.2.1 ?zE.2.2.2.2.2.2.2.2.2.2.2.2.2.2.2.2.2.2.2.2.2.2.2.2.2.2.2.2.2.2.2.2.2.2.2.2.1 ?zE.2.2.2.2.2.2.2.2.2.2.2.2.2.2.2.2.2.2.2.2.2.2.2.2.2.2.2.2.2.2.2.2.2.2.2.2.2.1 ?zE.2.2.2.2.2.2.2.2.2.2.2.2.2.2.2.2.2.2.2.2.2.2.2.2.2.2.2.2.2.2.2.2.2.2.2.2.2.2.1 ?zE.2.2.2.2.2.2.2.2.2.2.2.2.2.2.2.2.2.2.2.2.2.2.2.2.2.2.2.2.2.2.2.2.2.2.2.2.2.2.2.1 ?zE.2.2.2.2.2.2.2.2.2.2.2.2.2.2.2.2.2.2.2.2.2.2.2.2.2.2.2.2.2.2.2.2.2.2.2.2.2.2.2.2.1 ?zE.2.2.2.2.2.2.2.2.2.2.2.2.2.2.2.2.2.2.2.2.2.2.2.2.2.2.2.2.2.2.2.2.2.2.2.2.2.2.2.2.2.1 ?zE.2.2.2.2.2.2.2.2.2.2.2.2.2.2.2.2.2.2.2.2.2.2.2.2.2.2.2.2.2.2.2.2.2.2.2.2.2.2.2.2.2.2.1 ?zE.2.2.2.2.2.2.2.2.2.2.2.2.2.2.2.2.2.2.2.2.2.2.2.2.2.2.2.2.2.2.2.2.2.2.2.2.2.2.2.2.2.2.2.1 ?zE.2.2.2.2.2.2.2.2.2.2.2.2.2.2.2.2.2.2.2.2.2.2.2.2.2.2.2.2.2.2.2.2.2.2.2.2.2.2.2.2.2.2.2.2.1 ?zE.2.2.2.2.2.2.2.2.2.2.2.2.2.2.2.2.2.2.2.2.2.2.2.2.2.2.2.2.2.2.2.2.2.2.2.2.2.2.2.2.2.2.2.2.2.1 ?zE.2.2.2.2.2.2.2.2.2.2.2.2.2.2.2.2.2.2.2.2.2.2.2.2.2.2.2.2.2.2.2.2.2.2.2.2.2.2.2.2.2.2.2.2.2.2.1 ?zE.2.2.2.2.2.2.2.2.2.2.2.2.2.2.2.2.2.2.2.2.2.2.2.2.2.2.2.2.2.2.2.2.2.2.2.2.2.2.2.2.2.2.2.2.2.2.2.1 ?zE.2.2.2.2.2.2.2.2.2.2.2.2.2.2.2.2.2.2.2.2.2.2.2.2.2.2.2.2.2.2.2.2.2.2.2.2.2.2.2.2.2.2.2.2.2.2.2.2.1 ?zE.2.2.2.2.2.2.2.2.2.2.2.2.2.2.2.2.2.2.2.2.2.2.2.2.2.2.2.2.2.2.2.2.2.2.2.2.2.2.2.2.2.2.2.2.2.2.2.2.2.1 ?zE.2.2.2.2.2.2.2.2.2.2.2.2.2.2.2.2.2.2.2.2.2.2.2.2.2.2.2.2.2.2.2.2.2.2.2.2.2.2.2.2.2.2.2.2.2.2.2.2.2.2.1 ?zE.2.2.2.2.2.2.2.2.2.2.2.2.2.2.2.2.2.2.2.2.2.2.2.2.2.2.2.2.2.2.2.2.2.2.2.2.2.2.2.2.2.2.2.2.2.2.2.2.2.2.2.1 ?zE.2.2.2.2.2.2.2.2.2.2.2.2.2.2.2.2.2.2.2.2.2.2.2.2.2.2.2.2.2.2.2.2.2.2.2.2.2.2.2.2.2.2.2.2.2.2.2.2.2.2.2.2.1 ?zE.2.2.2.2.2.2.2.2.2.2.2.2.2.2.2.2.2.2.2.2.2.2.2.2.2.2.2.2.2.2.2.2.2.2.2.2.2.2.2.2.2.2.2.2.2.2.2.2.2.2.2.2.2.1 ?zE.2.2.2.2.2.2.2.2.2.2.2.2.2.2.2.2.2.2.2.2.2.2.2.2.2.2.2.2.2.2.2.2.2.2.2.2.2.2.2.2.2.2.2.2.2.2.2.2.2.2.2.2.2.2.1 ?zE.2.2.2.2.2.2.2.2.2.2.2.2.2.2.2.2.2.2.2.2.2.2.2.2.2.2.2.2.2.2.2.2.2.2.2.2.2.2.2.2.2.2.2.2.2.2.2.2.2.2.2.2.2.2.2.1 ?zE.2.2.2.2.2.2.2.2.2.2.2.2.2.2.2.2.2.2.2.2.2.2.2.2.2.2.2.2.2.2.2.2.2.2.2.2.2.2.2.2.2.2.2.2.2.2.2.2.2.2.2.2.2.2.2.2.1 ?zE.2.2.2.2.2.2.2.2.2.2.2.2.2.2.2.2.2.2.2.2.2.2.2.2.2.2.2.2.2.2.2.2.2.2.2.2.2.2.2.2.2.2.2.2.2.2.2.2.2.2.2.2.2.2.2.2.2.1 ?zE.2.2.2.2.2.2.2.2.2.2.2.2.2.2.2.2.2.2.2.2.2.2.2.2.2.2.2.2.2.2.2.2.2.2.2.2.2.2.2.2.2.2.2.2.2.2.2.2.2.2.2.2.2.2.2.2.2.2.1 ?zE.2.2.2.2.2.2.2.2.2.2.2.2.2.2.2.2.2.2.2.2.2.2.2.2.2.2.2.2.2.2.2.2.2.2.2.2.2.2.2.2.2.2.2.2.2.2.2.2.2.2.2.2.2.2.2.2.2.2.2.1 ?zE.2.2.2.2.2.2.2.2.2.2.2.2.2.2.2.2.2.2.2.2.2.2.2.2.2.2.2.2.2.2.2.2.2.2.2.2.2.2.2.2.2.2.2.2.2.2.2.2.2.2.2.2.2.2.2.2.2.2.2.2.1 ?zE.2.2.2.2.2.2.2.2.2.2.2.2.2.2.2.2.2.2.2.2.2.2.2.2.2.2.2.2.2.2.2.2.2.2.2.2.2.2.2.2.2.2.2.2.2.2.2.2.2.2.2.2.2.2.2.2.2.2.2.2.2.1 ?zE.2.2.2.2.2.2.2.2.2.2.2.2.2.2.2.2.2.2.2.2.2.2.2.2.2.2.2.2.2.2.2.2.2.2.2.2.2.2.2.2.2.2.2.2.2.2.2.2.2.2.2.2.2.2.2.2.2.2.2.2.2.2.1 ?zE.2.2.2.2.2.2.2.2.2.2.2.2.2.2.2.2.2.2.2.2.2.2.2.2.2.2.2.2.2.2.2.2.2.2.2.2.2.2.2.2.2.2.2.2.2.2.2.2.2.2.2.2.2.2.2.2.2.2.2.2.2.2.2.1 ?zE.2.2.2.2.2.2.2.2.2.2.2.2.2.2.2.2.2.2.2.2.2.2.2.2.2.2.2.2.2.2.2.2.2.2.2.2.2.2.2.2.2.2.2.2.2.2.2.2.2.2.2.2.2.2.2.2.2.2.2.2.2.2.2.2.1 ?zE.2.2.2.2.2.2.2.2.2.2.2.2.2.2.2.2.2.2.2.2.2.2.2.2.2.2.2.2.2.2.2.2.2.2.2.2.2.2.2.2.2.2.2.2.2.2.2.2.2.2.2.2.2.2.2.2.2.2.2.2.2.2.2.2.2.1 ?zE.2.2.2.2.2.2.2.2.2.2.2.2.2.2.2.2.2.2.2.2.2.2.2.2.2.2.2.2.2.2.2.2.2.2.2.2.2.2.2.2.2.2.2.2.2.2.2.2.2.2.2.2.2.2.2.2.2.2.2.2.2.2.2.2.2.2.1 ?zE.2.2.2.2.2.2.2.2.2.2.2.2.2.2.2.2.2.2.2.2.2.2.2.2.2.2.2.2.2.2.2.2.2.2.2.2.2.2.2.2.2.2.2.2.2.2.2.2.2.2.2.2.2.2.2.2.2.2.2.2.2.2.2.2.2.2.2.1 ?zE.2.2.2.2.2.2.2.2.2.2.2.2.2.2.2.2.2.2.2.2.2.2.2.2.2.2.2.2.2.2.2.2.2.2.2.2.2.2.2.2.2.2.2.2.2.2.2.2.2.2.2.2.2.2.2.2.2.2.2.2.2.2.2.2.2.2.2.2.1 ?zE.2.2.2.2.2.2.2.2.2.2.2.2.2.2.2.2.2.2.2.2.2.2.2.2.2.2.2.2.2.2.2.2.2.2.2.2.2.2.2.2.2.2.2.2.2.2.2.2.2.2.2.2.2.2.2.2.2.2.2.2.2.2.2.2.2.2.2.2.2.1 ?zE.2.2.2.2.2.2.2.2.2.2.2.2.2.2.2.2.2.2.2.2.2.2.2.2.2.2.2.2.2.2.2.2.2.2.2.2.2.2.2.2.2.2.2.2.2.2.2.2.2.2.2.2.2.2.2.2.2.2.2.2.2.2.2.2.2.2.2.2.2.2.1 ?zE.2.2.2.2.2.2.2.2.2.2.2.2.2.2.2.2.2.2.2.2.2.2.2.2.2.2.2.2.2.2.2.2.2.2.2.2.2.2.2.2.2.2.2.2.2.2.2.2.2.2.2.2.2.2.2.2.2.2.2.2.2.2.2.2.2.2.2.2.2.2.2.1 ?zE.2.2.2.2.2.2.2.2.2.2.2.2.2.2.2.2.2.2.2.2.2.2.2.2.2.2.2.2.2.2.2.2.2.2.2.2.2.2.2.2.2.2.2.2.2.2.2.2.2.2.2.2.2.2.2.2.2.2.2.2.2.2.2.2.2.2.2.2.2.2.2.2.1 ?zE.2.2.2.2.2.2.2.2.2.2.2.2.2.2.2.2.2.2.2.2.2.2.2.2.2.2.2.2.2.2.2.2.2.2.2.2.2.2.2.2.2.2.2.2.2.2.2.2.2.2.2.2.2.2.2.2.2.2.2.2.2.2.2.2.2.2.2.2.2.2.2.2.2
  intros w pv LSv mean mg mb dp un gd cn cs a ccd cl outer A₀ base h₀ L m news s Q E x1 dx1 tn1 tc1 raw1 n1 nt1 b1 sim1 vs1 ns1 g11 g12 g13 g14 g15 k11 k12 k13 k14 k15 q11 q12 q13 q15 x2 dx2 tn2 tc2 raw2 n2 nt2 b2 sim2 vs2 ns2 g21 g22 g23 g24 g25 k21 k22 k23 k24 k25 q21 q22 q23 q25
  intro B F X N T hk hd1 hu hx1 hdx1 htn1 htc1 hi1 hlen1 hx2 hdx2 htn2 htc2 hi2 hlen2 hbd1 hbd2 hb1 hb2 hret
  revert X; k_fill; intro X
  refine wpAny_call ?_
  k_dflt walk_at "en"
  have hl1 := lrF_bd hlen1 hb1
  have hl2 := lrF_bd hlen2 hb2
  have hnn : 0 ≤ lrM (lrF ns1 b1) (lrF ns2 b2) ∧ lrM (lrF ns1 b1) (lrF ns2 b2) ≤ 100 := by unfold lrM; split <;> omega
  k_steps
  · exact hret _ _ _ (lessF_a (by assumption)) (by assumption) (by assumption)
  · exact hret _ _ _ (lessF_b (by assumption) (by assumption) (by assumption)) (by assumption) (by assumption)
  all_goals
    have h12 : (sim1 && sim2) = false := by first | rw [show sim1 = false by assumption, Bool.false_and] | rw [show sim2 = false by assumption, Bool.and_false]
    refine hold_in ?_
    (rename Fr _ _ _ _ => lF'); (rename News _ _ _ _ => lN')
    k_dflt (refine For_rng lF' [] (fun i ps nx g => ps = [] ∧ nx = news ∧ g = s.gens ∧ (rangeKs 2 i).all (fun ts => decide (levF ns1 nt1 b1 ts < levF ns2 nt2 b2 ts)) = true) rfl rfl rfl ?_)
    k_steps
    (rename Fr _ _ _ _ => lF'); (rename News _ _ _ _ => lN'); (rename IsRange _ _ _ _ _ _ _ _ => rgX)
    have rgX : IsRange _ _ 2 (lrM (lrF ns1 b1) (lrF ns2 b2) + 1 + 1) 1 _ _ _ := rgX
    refine rng_intro (ps₀ := []) rgX lF' lN' True.intro ⟨by omega, by omega, by omega, by omega⟩ ⟨rfl, rfl, rfl, rfl⟩ ?_ ?_
    · intro i t ps nx u h g tk I oI hi hlt hne hR F' N'
      (change (let G9 : Prop := _; G9)); intro G9
      obtain ⟨rfl, rfl, rfl, hall⟩ := hR
      unfold G9; (try clear G9)
      k_steps
      · exact hret _ _ _ (lessF_f (by assumption) h12 (i := i) (by omega) (by assumption)) (by assumption) (by exact news_drop1 (by assumption))
      · (rename Fr _ _ _ _ => lF'); (rename News _ _ _ _ => lN')
        exact end_intro0 (g' := s.gens) lF' lN' (by k_mem) (by intro z h1 h2; simp [h1, upd]) ⟨rfl, rfl, rfl, all_step hall (by assumption)⟩ (by intro p hp; k_mem) (by assumption)
    · intro ps nx u h g tk hR F' N'
      (change (let G9 : Prop := _; G9)); intro G9
      obtain ⟨rfl, rfl, rfl, hall⟩ := hR
      unfold G9; (try clear G9)
      k_steps
      exact hret _ _ _ (lessF_t (by assumption) h12 (by omega) hall) (by assumption) (by assumption)
end
end
section
theorem fresh_C6 : True := by w_top off; exact True.intro
set_option maxHeartbeats 8000000
theorem news_pick {h₀ h : Heap} {L : Addr} {a b i c x d : Addr × Obj} {nw : List (Addr × Obj)} (N : News h₀ L h (a :: b :: i :: c :: x :: d :: nw)) : News h₀ L h (a :: b :: x :: d :: nw) := fun p hp => N p (by
  simp only [List.mem_cons] at hp ⊢
  rcases hp with h | h | h | h | h <;> simp [h])
theorem news_sub {h₀ h : Heap} {L : Addr} {nw nw' : List (Addr × Obj)} (N : News h₀ L h nw') (hs : ∀ p ∈ nw, p ∈ nw') : News h₀ L h nw := fun p hp => N p (hs p hp)
noncomputable def wsGrow (cs : List Int) (b : Int) : List Int := if (cs.length : Int) ≤ b then cs ++ List.replicate (b - cs.length + 1).toNat 0 else cs
noncomputable def wsStep (st : List Int × Int × Int × Int) (c : Nat) : List Int × Int × Int × Int :=
  if c = 32 then (st.1, st.2.1 + 1, st.2.2.1 + 1, st.2.2.2)
  else ((wsGrow st.1 st.2.1).set st.2.1.toNat ((wsGrow st.1 st.2.1).getD st.2.1.toNat 0 + 1), 0, st.2.2.1 + 1, st.2.2.2 + 1)
noncomputable def wsRun (l : List Nat) : List Int × Int × Int × Int := l.foldl wsStep ([], 0, 0, 0)
theorem wsRun_succ {l : List Nat} {i c : Nat} (h : l[i]? = some c) : wsRun (l.take (i + 1)) = wsStep (wsRun (l.take i)) c := by
  unfold wsRun
  rw [List.take_add_one, h]; simp
theorem wsGrow_yes {cs : List Int} {b : Int} (h : (cs.length : Int) ≤ b) : wsGrow cs b = cs ++ List.replicate (b - cs.length + 1).toNat 0 := by unfold wsGrow; rw [if_pos h]
theorem wsGrow_no {cs : List Int} {b : Int} (h : ¬ (cs.length : Int) ≤ b) : wsGrow cs b = cs := by unfold wsGrow; rw [if_neg h]
inductive WsR (w : World) (l : List Nat) (raw : Str) (rt : Tok) (x d : Addr) (news : List (Addr × Obj)) (gens : Array GenState) (i : Nat) (ps : List (Str × Value)) (nx : List (Addr × Obj)) (gg : Array GenState) : Prop where
  | mk (f0 : gg = gens) (f1 : i ≤ l.length) (lc : _) (vs : _) (k : _) (ns : _) (b : _) (n : _) (nt : _) (tb : _) (tn : _) (tt : _) (kt : _) (f2 : ps = [(Str.ofString "count", .ref lc), (Str.ofString "b", .int b tb), (Str.ofString "n", .int n tn), (Str.ofString "nt", .int nt tt)]) (f3 : nx = (lc, listOf vs.toArray k) :: (x, instObj 83 d) :: (d, dictOf [⟨PyData.keyHash w.params (Str.ofString "raw"), .str (Str.ofString "raw") kt, .str raw rt⟩] 1) :: news) (f4 : IntsAre vs ns) (f5 : (ns, b, n, nt) = wsRun (l.take i)) (f6 : @Ne Nat lc x) (f7 : @Ne Nat lc d) (f8 : ∀ p ∈ news, p.1 ≠ lc) (f9 : 0 ≤ b) (f10 : b ≤ i) (f11 : ns.length ≤ i) : WsR w l raw rt x d news gens i ps nx gg
theorem WsR.le9 {w : World} {l : List Nat} {raw : Str} {rt : Tok} {x d : Addr} {news : List (Addr × Obj)} {gens : Array GenState} {i : Nat} {ps : List (Str × Value)} {nx : List (Addr × Obj)} {gg : Array GenState} (h : WsR w l raw rt x d news gens i ps nx gg) : i ≤ l.length := by
  obtain ⟨_, h9, _⟩ := h
  exact h9
section
variable {w : World} {pv : Program} {LSv : List Str} {mean : ExcName → Option Value} {mg mb : Str → Option Value}
    {dp un : Nat} {gd : Option (List Code)} {cn : Str} {cs : Scope} {a : Addr} {ccd : Value} {cl : List (Str × Addr)} {outer : List Env} {A₀ : Around} {base h₀ : Heap} {L : Addr} {m : Str → Option Value} {news : List (Addr × Obj)} {s : Shared}
    {Q E : Value → Shared → Prop}
theorem rows_C6_0 : True := by
  k_with_none
  k_with "PostM" => (dsimp only [PostM])
  k_with "exec For Name Attribute cons nil" => refine hold_out ?_
  k_with "call builtin:len" => (k_here; (with_reducible show wpAny _ _ (call (Value.builtin "len") [Value.ref _]) _ _ _); k_dflt (refine' len_listN ?k1 ?k2 ?k3 ?k4 ?_; (case k1 => k_asm); (case k2 => k_mem); (case k3 => assumption); (case k4 => (first | omega | (simp only [List.length_append, List.length_replicate, List.length_set]; omega))); k_whole); intro tQq7 tkQq7)
  k_with "binaryOp Mult ref int" => (k_here; k_dflt (refine' rep_list1 ?k1 ?k2 ?k3 ?k4 ?k5 ?_; (case k1 => k_asm); (case k2 => k_asm); (case k3 => k_mem); (case k4 => omega); (case k5 => omega); k_whole); intro DQq7 usQq7 hQq7 FQq7 NQq7 l1Qq7 hIQq7; (try k_lt l1Qq7); (try k_sweep))
  k_with "binaryOp Add ref ref" => (k_here; k_dflt (refine' add_listN ?k1 ?k2 ?k3 ?k4 ?k5 ?k6 ?k7 ?_; (case k1 => k_asm); (case k2 => k_asm); (case k3 => k_mem); (case k4 => k_mem); (case k5 => assumption); (case k6 => assumption); (case k7 => (simp only [List.length_replicate]; omega)); k_whole); intro DQq7 usQq7 hQq7 FQq7 NQq7 l1Qq7 hIQq7; (try k_lt l1Qq7); (try k_sweep))
  k_with "subscriptTail" => (k_here; (with_reducible show wpAny _ _ (subscriptTail _ _ (Value.ref _) (Value.int _ _)) _ _ _); k_dflt (refine' ksa_sub ?k1 ?k2 ?k3 ?k4 ?k5 ?k6 ?_ ?k7; (case k1 => k_asm); (case k2 => k_mem); (case k3 => assumption); (case k4 => omega); (case k5 => (first | omega | (simp only [List.length_append, List.length_replicate]; omega))); (case k6 => omega); (case k7 => with_unfolding_all rfl); k_whole); intro tQq7)
  k_with "subscriptTail Name Name ref int" => (k_here; (with_reducible show wpAny _ _ (subscriptTail _ _ (Value.ref _) (Value.int _ _)) _ _ _); k_dflt (refine' ksa_sub ?k1 ?k2 ?k3 ?k4 ?k5 ?k6 ?_ ?k7; (case k1 => k_asm); (case k2 => k_mem); (case k3 => assumption); (case k4 => omega); (case k5 => (first | omega | (simp only [List.length_append, List.length_replicate]; omega))); (case k6 => omega); (case k7 => with_unfolding_all rfl); k_whole); intro tQq7)
  k_with "setItem ref int" => (k_here; (with_reducible show wpAny _ _ (setItem (Value.ref _) (Value.int _ _) (Value.int _ _)) _ _ _); k_dflt (refine' ksa_set ?k1 ?k2 ?k3 ?k4 ?k5 ?k6 ?k7 ?_; (case k1 => k_asm); (case k2 => k_asm); (case k3 => k_upd); (case k4 => assumption); (case k5 => omega); (case k6 => (first | omega | (simp only [List.length_append, List.length_replicate]; omega))); (case k7 => omega); k_whole); intro hQq7 FQq7 NQq7 hiQq7 hlQq7 hsQq7; (try k_sweep))
  k_with "call type:tuple" => (k_here; (with_reducible show wpAny _ _ (call (Value.type _) [Value.ref _]) _ _ _); k_dflt (refine' tuple_listN ?k1 ?k2 ?k3 ?k4 ?k5 ?_; (case k1 => k_asm); (case k2 => k_asm); (case k3 => k_mem); (case k4 => assumption); (case k5 => omega); k_whole); intro DQq7 hQq7 FQq7 NQq7 l1Qq7; (try k_lt l1Qq7); (try k_sweep))
  k_with "newList" => (k_here; k_dflt (refine' newList_K ?k1 ?k2 ?_ (hsz := ?k3); (case k1 => k_asm); (case k2 => k_asm); (case k3 => first | exact Nat.le_of_ble_eq_true rfl | size_fits); k_whole); intro lQq7 hQq7 FQq7 NQq7 l1Qq7; (try k_lt l1Qq7); (try k_sweep); run_tac hq)
  exact True.intro
theorem wsn_spec {raw : Str} {rt : Tok} {l : List Nat} (B : Below A₀ base outer h₀) (F : Fr h₀ L s.heap m) (X : (hd.heap_39 w.params).In h₀) (N : News h₀ L s.heap news) (T : Top pv LSv mean mg mb h₀) (hk : cs.kind = .function)
    (hd1 : dp + 3 < recursionLimit) (hu : un + 300 < cLine) (hraw : raw.cps.toList = l ++ [120]) (hl : ∀ c ∈ l, c = 32 ∨ c = 9) (hll : l.length ≤ 200)
    (hret : ∀ x dx tn tc vs ns b n nt g1 g2 g3 g4 g5 k1 k2 k3 k4 k5 q2 q3 q5 h' tk', Fr h₀ L h' m →
      News h₀ L h' ((tn, tupO [.ref tc, .int b q5]) :: (tc, tupO vs) :: (x, instObj 83 dx) :: (dx, dictOf [⟨g1, .str (Str.ofString "raw") k1, .str raw rt⟩, ⟨g2, .str (Str.ofString "n") k2, .int n q2⟩, ⟨g3, .str (Str.ofString "nt") k3, .int nt q3⟩, ⟨g4, .str (Str.ofString "norm") k4, .ref tn⟩, ⟨g5, .str (Str.ofString "is_simple") k5, .bool (decide ((ns.length : Int) ≤ 1))⟩] 5) :: news) → IntsAre vs ns → (ns, b, n, nt) = wsRun l → (∀ q ∈ news, q.1 < dx) → @LT.lt Nat _ dx x → @LT.lt Nat _ x tc → @LT.lt Nat _ tc tn → Q (.ref x) { s with heap := h', toks := tk' }) :
    wpAny (model PySem.Challenge.rw_rl0132_01.prog w) (ktrTop dp un gd cn cs L a ccd cl outer) (call (.ref 83) [.str raw rt]) Q E s := by
  revert w pv LSv mean mg mb dp un gd cn cs a ccd cl outer A₀ base h₀ L m news s Q E raw rt l
  refine (?zh : ∀ w pv LSv mean mg mb dp un gd cn cs a ccd cl outer A₀ base h₀ L m news s Q E raw rt l, (?zP : _ → _ → _ → _ → _ → _ → _ → _ → _ → _ → _ → _ → _ → _ → _ → _ → _ → _ → _ → _ → _ → _ → _ → _ → _ → _ → _ → Prop) w pv LSv mean mg mb dp un gd cn cs a ccd cl outer A₀ base h₀ L m news s Q E raw rt l)
  refine fun w pv LSv mean mg mb dp un gd cn cs a ccd cl outer A₀ base h₀ L m news s Q E raw rt l => allE (P := un2 fun w => un2 fun pv => un2 fun LSv => un2 fun mean => un2 fun mg => un2 fun mb => un2 fun dp => un2 fun un => un2 fun gd => un2 fun cn => un2 fun cs => un2 fun a => un2 fun ccd => un2 fun cl => un2 fun outer => un2 fun A₀ => un2 fun base => un2 fun h₀ => un2 fun L => un2 fun m => un2 fun news => un2 fun s => un2 fun Q => un2 fun E => un2 fun raw => un2 fun rt l => ?zP w pv LSv mean mg mb dp un gd cn cs a ccd cl outer A₀ base h₀ L m news s Q E raw rt l) ?zn ?zk (w, pv, LSv, mean, mg, mb, dp, un, gd, cn, cs, a, ccd, cl, outer, A₀, base, h₀, L, m, news, s, Q, E, raw, rt, l)
  case zn => walk_at "ne"
  clear w pv LSv mean mg mb dp un gd cn cs a ccd cl outer A₀ base h₀ L m news s Q E raw rt l
  refine (?zj : AtE _ ?zE)
  refine (?zF : ∀ w pv LSv mean mg mb dp un gd cn cs a ccd cl outer A₀ base h₀ L m news s Q E raw rt l, ?zP w pv LSv mean mg mb dp un gd cn cs a ccd cl outer A₀ base h₀ L m news s Q E raw rt l) ?zE.1 ?zE.2.1 ?zE.2.2.1 ?zE.2.2.2.1 ?zE.2.2.2.2.1 ?zE.2.2.2.2.2.1 ?zE.2.2.2.2.2.2.1 ?zE.2.2.2.2.2.2.2.1 ?zE.2.2.2.2.2.2.2.2.1 ?zE.2.2.2.2.2.2.2.2.2.1 ?zE.2.2.2.2.2.2.2.2.2.2.1 ?zE.2.2.2.2.2.2.2.2.2.2.2.1 ?zE.2.2.2.2.2.2.2.2.2.2.2.2.1 ?zE.2.2.2.2.2.2.2.2.2.2.2.2.2.1 ?zE.2.2.2.2.2.2.2.2.2.2.2.2.2.2.1 ?zE.2.2.2.2.2.2.2.2.2.2.2.2.2.2.2.1 ?zE.2.2.2.2.2.2.2.2.2.2.2.2.2.2.2.2.1 ?zE.2.2.2.2.2.2.2.2.2.2.2.2.2.2.2.2.2.1 ?zE.2.2.2.2.2.2.2.2.2.2.2.2.2.2.2.2.2.2.1 ?zE.2.2.2.2.2.2.2.2.2.2.2.2.2.2.2.2.2.2.2.1 ?zE.2.2.2.2.2.2.2.2.2.2.2.2.2.2.2.2.2.2.2.2.1 ?zE.2.2.2.2.2.2.2.2.2.2.2.2.2.2.2.2.2.2.2.2.2.1 ?zE.2.2.2.2.2.2.2.2.2.2.2.2.2.2.2.2.2.2.2.2.2.2.1 ?zE.2.2.2.2.2.2.2.2.2.2.2.2.2.2.2.2.2.2.2.2.2.2.2.1 ?zE.2.2.2.2.2.2.2.2.2.2.2.2.2.2.2.2.2.2.2.2.2.2.2.2.1 ?zE.2.2.2.2.2.2.2.2.2.2.2.2.2.2.2.2.2.2.2.2.2.2.2.2.2.1 ?zE.2.2.2.2.2.2.2.2.2.2.2.2.2.2.2.2.2.2.2.2.2.2.2.2.2.2
  intros w pv LSv mean mg mb dp un gd cn cs a ccd cl outer A₀ base h₀ L m news s Q E raw rt l
  intro B F X N T hk hd1 hu hraw hl hll hret
  revert X; k_fill; intro X
  k_dflt (refine' call_cls ?k1 ?k2 ?k3 ?k4 ?k5 ?k6 ?_; (case k1 => k_asm); (case k2 => k_asm); (case k3 => k_asm); (case k4 => k_is); (case k5 => k_is); (case k6 => k_is); k_whole; walk_at "e3"; intro x' d' h' F' N' l1 l2; (try k_lt2 l2); (try k_sweep); walk_at "en")
  k_steps
  refine hold_in ?_
  (rename Fr _ _ _ _ => lF'); (rename News _ _ _ _ => lN')
  k_dflt (refine For_str lF' [] (WsR w l raw rt x' d' news s.gens) rfl rfl rfl ?_)
  k_steps
  (rename Fr _ _ _ _ => lF'); (rename News _ _ _ _ => lN')
  have hasc : raw.cps.all (· < 128) = true := by
    rw [← Array.all_toList, hraw, List.all_append, List.all_eq_true.mpr]
    · rfl
    · intro c hc; rcases hl c hc with rfl | rfl <;> rfl
  have lN2 : News _ _ _ ((_, listOf (List.toArray []) 0) :: (x', instObj 83 d') :: (d', _) :: news) := fun p hp => lN' p (by
    rcases List.mem_cons.mp hp with rfl | hp
    · exact .head _
    · exact .tail _ (.tail _ hp))
  k_dflt (refine' str_intro4 (Str.ofString "count") (Str.ofString "b") (Str.ofString "n") (Str.ofString "nt") ?hF ?hN ?z1 ?z2 ?z3 ?z4 ?ha ?hR ?turn ?done; (case hF => exact lF'); (case hN => exact lN2); (case z1 => exact rfl); (case z2 => exact rfl); (case z3 => exact rfl); (case z4 => exact rfl); (case ha => exact hasc))
  case hR => exact ⟨rfl, Nat.zero_le _, _, [], _, [], 0, 0, 0, _, _, _, _, rfl, rfl, .nil, rfl, by omega, by omega, by k_all, by omega, by omega, by simp⟩
  case turn =>
    intro i c t ps nx u h g tk I oI hi hlt hne hR F' N'
    (change (let G9 : Prop := _; G9)); intro G9
    obtain ⟨rfl, hil, lc, vs, k, ns, b, n, nt, tb, tn, tt, kt, rfl, rfl, hI, hrun, hlx, hld, hln, hb0, hbi, hnsl⟩ := hR
    unfold G9; (try clear G9)
    have hIl : @Ne Nat lc I := hne _ (List.Mem.head _)
    have hIx : @Ne Nat x' I := hne _ (List.Mem.tail _ (List.Mem.head _))
    have hId : @Ne Nat d' I := hne _ (List.Mem.tail _ (List.Mem.tail _ (List.Mem.head _)))
    have hc' : (l ++ [120])[i]? = some c := by rw [← hraw]; simpa using hi
    by_cases hii : i < l.length
    · have hcl : c ∈ l := by
        rw [List.getElem?_append_left hii] at hc'
        exact List.mem_of_getElem? hc'
      rcases hl c hcl with rfl | rfl
      · have hli : l[i]? = some 32 := by rw [List.getElem?_append_left hii] at hc'; exact hc'
        k_steps
        (rename Fr _ _ _ _ => lF'); (rename News _ _ _ _ => lN')
        exact end_intro4 (Str.ofString "count") (Str.ofString "b") (Str.ofString "n") (Str.ofString "nt") lF' lN' (by k_mem) rfl rfl rfl rfl (by intro z h1 h2 h3 h4 h5 h6; simp [h1, h3, h4, h5, h6, upd]) ⟨rfl, by omega, lc, vs, k, ns, b + 1, n + 1, nt, _, _, _, kt, rfl, rfl, hI, by rw [wsRun_succ hli, ← hrun]; rfl, hlx, hld, hln, by omega, by omega, by omega⟩ (by intro p hp; k_mem) hne
      · have hli : l[i]? = some 9 := by rw [List.getElem?_append_left hii] at hc'; exact hc'
        k_steps
        · (rename Fr _ _ _ _ => lF'); (rename News _ _ _ _ => lN')
          refine end_intro4 (Str.ofString "count") (Str.ofString "b") (Str.ofString "n") (Str.ofString "nt") lF' lN' (by k_mem) rfl rfl rfl rfl (by intro z h1 h2 h3 h4 h5 h6; simp [h1, h3, h4, h5, h6, upd]) ⟨rfl, by omega, _, _, _, _, 0, n + 1, nt + 1, _, _, _, kt, rfl, rfl, (by assumption), by rw [wsRun_succ hli, ← hrun]; simp only [wsStep]; rw [wsGrow_yes (by assumption)]; rfl, ?_, ?_, ?_, by omega, by omega, ?_⟩ (by intro p hp; rcases List.mem_cons.mp hp with rfl | hp <;> k_mem) ?_
          · omega
          · omega
          · k_all
          · simp; omega
          · intro p hp; rcases List.mem_cons.mp hp with rfl | hp
            · show @Ne Nat _ _; omega
            · exact hne p (.tail _ hp)
        · (rename Fr _ _ _ _ => lF'); (rename News _ _ _ _ => lN')
          exact end_intro4 (Str.ofString "count") (Str.ofString "b") (Str.ofString "n") (Str.ofString "nt") lF' lN' (by k_mem) rfl rfl rfl rfl (by intro z h1 h2 h3 h4 h5 h6; simp [h1, h3, h4, h5, h6, upd]) ⟨rfl, by omega, lc, _, _, _, 0, n + 1, nt + 1, _, _, _, kt, rfl, rfl, (by assumption), by rw [wsRun_succ hli, ← hrun]; simp only [wsStep]; rw [wsGrow_no (by assumption)]; rfl, hlx, hld, hln, by omega, by omega, by simp; omega⟩ (by intro p hp; k_mem) (by intro p hp; rcases List.mem_cons.mp hp with rfl | hp; exact hIl; exact hne p (.tail _ hp))
    · have hie : i = l.length := by omega
      (change (let G9 : Prop := _; G9)); intro G9
      subst hie
      unfold G9; (try clear G9)
      have hc2 : c = 120 := by simpa using hc'.symm
      (change (let G9 : Prop := _; G9)); intro G9
      subst hc2
      unfold G9; (try clear G9)
      k_steps
      rw [List.take_length] at hrun
      (rename News h₀ L _ _ => kN9)
      exact hret x' d' _ _ vs ns b n nt _ _ _ _ _ _ _ _ _ _ _ _ _ _ _ (by assumption) (news_pick kN9) hI hrun l1 l2 (by omega) (by omega)
  case done =>
    intro ps nx u h g tk hR F' N'
    exfalso
    have e : raw.cps.size = l.length + 1 := by rw [← Array.length_toList, hraw]; simp
    have := hR.le9
    omega
  run_tac fin
end
end
section
local macro_rules | `(tactic| walk_at "my lit") => `(tactic| first | assumption | exact lit_x | exact lit_t | exact lit_tt | exact lit_sp | exact lit_e)
section
local macro_rules | `(tactic| walk_at "my len") => `(tactic| first | assumption | omega | (simp only [List.length_append, List.length_replicate, List.length_cons, List.length_nil]; omega))
section
theorem fresh_C7 : True := by w_top off; exact True.intro
set_option maxHeartbeats 8000000
noncomputable def seg (x : Int) : List Nat := List.replicate (x.natAbs - 1) 32 ++ (if x < 0 then [9, 9] else [9])
noncomputable def inn (ms : List Int) (j i : Nat) : List Nat := (List.range i).flatMap fun k => seg (ms.getD j 0 - ms.getD k 0)
noncomputable def outl (ms : List Int) (j : Nat) : List Nat := (List.range j).flatMap fun k => inn ms k k
theorem seg_len (x : Int) (h : x.natAbs ≤ 9) : (seg x).length ≤ 10 := by
  unfold seg; split <;> simp <;> omega
theorem inn_succ (ms : List Int) (j i : Nat) : inn ms j (i + 1) = inn ms j i ++ seg (ms.getD j 0 - ms.getD i 0) := by
  unfold inn; rw [List.range_succ, List.flatMap_append]; simp
theorem outl_succ (ms : List Int) (j : Nat) : outl ms (j + 1) = outl ms j ++ inn ms j j := by
  unfold outl; rw [List.range_succ, List.flatMap_append]; simp
theorem seg_neg {d r : Int} (hr : AbsIs r d) (h : d < 0) : List.replicate (r - 1).toNat 32 ++ [9, 9] = seg d := by
  unfold AbsIs at hr; subst hr
  unfold seg; rw [if_pos h]; congr 2; omega
theorem seg_pos {d r : Int} (hr : AbsIs r d) (h : ¬ d < 0) : List.replicate (r - 1).toNat 32 ++ [9] = seg d := by
  unfold AbsIs at hr; subst hr
  unfold seg; rw [if_neg h]; congr 2; omega
theorem z_add' (j : Nat) : (0 + (j : Int) - 0).toNat = j := by omega
theorem z_add (j : Nat) : (0 + (j : Int)).toNat = j := by omega
theorem tmp1 {a z : Str} (h : [a].contains z = false) : z ≠ a := by
  intro e; subst e; simp at h
theorem tmp2 {a b z : Str} (h : [a, b].contains z = false) : z ≠ a ∧ z ≠ b := by
  constructor <;> (intro e; subst e; simp at h)
theorem seg_chars (x : Int) : ∀ c ∈ seg x, c = 32 ∨ c = 9 := by
  unfold seg
  intro c hc
  rcases List.mem_append.mp hc with h | h
  · exact .inl (List.eq_of_mem_replicate h)
  · right; split at h <;> simp at h <;> exact h
theorem inn_chars (ms : List Int) (j i : Nat) : ∀ c ∈ inn ms j i, c = 32 ∨ c = 9 := by
  intro c hc
  (change (let G9 : Prop := _; G9)); intro G9
  obtain ⟨k, _, hk⟩ := List.mem_flatMap.mp hc
  unfold G9; (try clear G9)
  exact seg_chars _ c hk
theorem outl_chars (ms : List Int) (j : Nat) : ∀ c ∈ outl ms j, c = 32 ∨ c = 9 := by
  intro c hc
  (change (let G9 : Prop := _; G9)); intro G9
  obtain ⟨k, _, hk⟩ := List.mem_flatMap.mp hc
  unfold G9; (try clear G9)
  exact inn_chars ms k k c hk
theorem lead_neg {ms : List Int} {j i : Nat} {r : Int} {x : Str} (hr : AbsIs r (ms.getD (0 + (j : Int)).toNat 0 - ms.getD (0 + (i : Int)).toNat 0)) (h : ms.getD (0 + (j : Int)).toNat 0 - ms.getD (0 + (i : Int)).toNat 0 < 0)
    (hx : x.cps.toList = outl ms j ++ inn ms j i ++ (List.replicate (r - 1).toNat 32 ++ [9, 9])) : x.cps.toList = outl ms j ++ inn ms j (i + 1) := by
  rw [z_add, z_add] at hr h
  rw [hx, inn_succ, seg_neg hr h, List.append_assoc]
theorem lead_pos {ms : List Int} {j i : Nat} {r : Int} {x : Str} (hr : AbsIs r (ms.getD (0 + (j : Int)).toNat 0 - ms.getD (0 + (i : Int)).toNat 0)) (h : ¬ ms.getD (0 + (j : Int)).toNat 0 - ms.getD (0 + (i : Int)).toNat 0 < 0)
    (hx : x.cps.toList = outl ms j ++ inn ms j i ++ (List.replicate (r - 1).toNat 32 ++ [9])) : x.cps.toList = outl ms j ++ inn ms j (i + 1) := by
  rw [z_add, z_add] at hr h
  rw [hx, inn_succ, seg_pos hr h, List.append_assoc]
theorem inn_len {ms : List Int} (hbd : ∀ i j, (ms.getD i 0 - ms.getD j 0).natAbs ≤ 9) (j i : Nat) : (inn ms j i).length ≤ 10 * i := by
  induction i with
  | zero => simp [inn]
  | succ i ih =>
    rw [inn_succ, List.length_append]
    have := seg_len _ (hbd j i)
    omega
theorem outl_len {ms : List Int} (hbd : ∀ i j, (ms.getD i 0 - ms.getD j 0).natAbs ≤ 9) (j : Nat) (hj : j ≤ 4) : (outl ms j).length ≤ 40 * j := by
  induction j with
  | zero => simp [outl]
  | succ j ih =>
    rw [outl_succ, List.length_append]
    have := inn_len hbd j j
    have := ih (by omega)
    omega
section
variable {w : World} {pv : Program} {LSv : List Str} {mean : ExcName → Option Value} {mg mb : Str → Option Value}
    {dp un : Nat} {gd : Option (List Code)} {cn : Str} {cs : Scope} {a : Addr} {ccd : Value} {cl : List (Str × Addr)} {outer : List Env} {A₀ : Around} {base h₀ : Heap} {L : Addr} {m : Str → Option Value} {news : List (Addr × Obj)} {s : Shared}
    {Q E : Value → Shared → Prop}
theorem rows_C7_0 : True := by
  k_with_none
  k_with "execs cons" => (k_here; (first | with_reducible refine gen_toks_add ?_ | with_reducible refine gen_toks_proj ?_); intro tkQq7)
  k_with "execs nil" => (k_here; (first | with_reducible refine gen_toks_add ?_ | with_reducible refine gen_toks_proj ?_); intro tkQq7)
  k_with "PostM" => (dsimp only [PostM])
  k_with "exec For Name Call cons nil" => refine hold_out ?_
  k_with "exec For Name Call cons nil" => refine hold_out ?_
  k_with "subscriptTail" => (k_here; (with_reducible show wpAny _ _ (subscriptTail _ _ (Value.ref _) (Value.int _ _)) _ _ _); k_dflt (refine' ksa_sub ?k1 ?k2 ?k3 ?k4 ?k5 ?k6 ?_ ?k7; (case k1 => k_asm); (case k2 => k_mem); (case k3 => assumption); (case k4 => omega); (case k5 => omega); (case k6 => omega); (case k7 => with_unfolding_all rfl); k_whole); intro tQq7)
  k_with "binaryOp Add str str" => (k_here; k_dflt (refine' addS ?k1 ?k2 ?k3 ?k4 ?_; (case k1 => walk_at "my lit"); (case k2 => walk_at "my lit"); (case k3 => walk_at "my len"); (case k4 => walk_at "my len"); k_whole); intro rQq7 tQq7 tkQq7 hrQq7)
  k_with "inplaceOp Add str str" => (k_here; k_dflt (refine' iaddS ?k1 ?k2 ?k3 ?k4 ?_; (case k1 => walk_at "my lit"); (case k2 => walk_at "my lit"); (case k3 => walk_at "my len"); (case k4 => walk_at "my len"); k_whole); intro rQq7 tQq7 tkQq7 hrQq7)
  k_with "call builtin:abs" => (k_here; k_dflt (refine' absB ?k1 ?_; (case k1 => assumption); k_whole); intro rQq7 tQq7 tkQq7 haQq7 hlQq7 hhQq7)
  k_with "binaryOp Mult str int" => (k_here; k_dflt (refine' mul_sp ?k1 ?k2 ?_; (case k1 => omega); (case k2 => omega); k_whole); intro rQq7 tQq7 tkQq7 hrQq7)
  k_with "call ref" => (k_here; (with_reducible show wpAny _ _ (call (Value.ref 83) _) _ _ _); k_dflt (refine' wsn_spec ?k1 ?k2 ?k3 ?k4 ?k5 ?k6 ?k7 ?k8 ?p1 ?p2 ?p3 ?_; (case k1 => k_asm); (case k2 => k_asm); (case k3 => k_asm); (case k4 => k_asm); (case k5 => k_asm); (case k6 => first | rfl | assumption); (case k7 => ktr_room); (case k8 => ktr_units); (case p1 => assumption); (case p2 => assumption); (case p3 => walk_at "my len"); k_whole); intro xQq7 dxQq7 tnQq7 tcQq7 vsQq7 nsQq7 bQq7 nQq7 ntQq7 g1Qq7 g2Qq7 g3Qq7 g4Qq7 g5Qq7 k1Qq7 k2Qq7 k3Qq7 k4Qq7 k5Qq7 q2Qq7 q3Qq7 q5Qq7 hQq7 tkQq7 FQq7 NQq7 hIQq7 hrunQq7 l1Qq7 l2Qq7 l3Qq7 l4Qq7; (try k_sweep))
  exact True.intro
theorem lead_spec {lm : Addr} {vs : List Value} {k : Nat} {ms : List Int} (B : Below A₀ base outer h₀) (F : Fr h₀ L s.heap m) (X : (hd.heap_39 w.params).In h₀) (N : News h₀ L s.heap news) (T : Top pv LSv mean mg mb h₀) (hk : cs.kind = .function)
    (hd1 : dp + 4 < recursionLimit) (hu : un + 400 < cLine) (hlm : (lm, listOf vs.toArray k) ∈ news) (hi : IntsAre vs ms) (hml : ms.length = 4) (hbd : ∀ i j, (ms.getD i 0 - ms.getD j 0).natAbs ≤ 9)
    (hret : ∀ x dx tn tc vs ns b n nt raw rt g1 g2 g3 g4 g5 k1 k2 k3 k4 k5 q2 q3 q5 h' tk', Fr h₀ L h' m →
      News h₀ L h' ((tn, tupO [.ref tc, .int b q5]) :: (tc, tupO vs) :: (x, instObj 83 dx) :: (dx, dictOf [⟨g1, .str (Str.ofString "raw") k1, .str raw rt⟩, ⟨g2, .str (Str.ofString "n") k2, .int n q2⟩, ⟨g3, .str (Str.ofString "nt") k3, .int nt q3⟩, ⟨g4, .str (Str.ofString "norm") k4, .ref tn⟩, ⟨g5, .str (Str.ofString "is_simple") k5, .bool (decide ((ns.length : Int) ≤ 1))⟩] 5) :: news) → IntsAre vs ns → (ns, b, n, nt) = wsRun (outl ms 4) → (∀ q ∈ news, q.1 < dx) → @LT.lt Nat _ dx x → @LT.lt Nat _ x tc → @LT.lt Nat _ tc tn → Q (.ref x) { s with heap := h', toks := tk' }) :
    wpAny (model PySem.Challenge.rw_rl0132_01.prog w) (ktrTop dp un gd cn cs L a ccd cl outer) (call (.ref 298) [.ref lm]) Q E s := by
  revert w pv LSv mean mg mb dp un gd cn cs a ccd cl outer A₀ base h₀ L m news s Q E lm vs k ms
  refine (?zh : ∀ w pv LSv mean mg mb dp un gd cn cs a ccd cl outer A₀ base h₀ L m news s Q E lm vs k ms, (?zP : _ → _ → _ → _ → _ → _ → _ → _ → _ → _ → _ → _ → _ → _ → _ → _ → _ → _ → _ → _ → _ → _ → _ → _ → _ → _ → _ → _ → Prop) w pv LSv mean mg mb dp un gd cn cs a ccd cl outer A₀ base h₀ L m news s Q E lm vs k ms)
  refine fun w pv LSv mean mg mb dp un gd cn cs a ccd cl outer A₀ base h₀ L m news s Q E lm vs k ms => allE (P := un2 fun w => un2 fun pv => un2 fun LSv => un2 fun mean => un2 fun mg => un2 fun mb => un2 fun dp => un2 fun un => un2 fun gd => un2 fun cn => un2 fun cs => un2 fun a => un2 fun ccd => un2 fun cl => un2 fun outer => un2 fun A₀ => un2 fun base => un2 fun h₀ => un2 fun L => un2 fun m => un2 fun news => un2 fun s => un2 fun Q => un2 fun E => un2 fun lm => un2 fun vs => un2 fun k ms => ?zP w pv LSv mean mg mb dp un gd cn cs a ccd cl outer A₀ base h₀ L m news s Q E lm vs k ms) ?zn ?zk (w, pv, LSv, mean, mg, mb, dp, un, gd, cn, cs, a, ccd, cl, outer, A₀, base, h₀, L, m, news, s, Q, E, lm, vs, k, ms)
  case zn => walk_at "ne"
  clear w pv LSv mean mg mb dp un gd cn cs a ccd cl outer A₀ base h₀ L m news s Q E lm vs k ms
  refine (?zj : AtE _ ?zE)
  refine (?zF : ∀ w pv LSv mean mg mb dp un gd cn cs a ccd cl outer A₀ base h₀ L m news s Q E lm vs k ms, ?zP w pv LSv mean mg mb dp un gd cn cs a ccd cl outer A₀ base h₀ L m news s Q E lm vs k ms) ?zE.1 ?zE.2.1 ?zE.2.2.1 ?zE.2.2.2.1 ?zE.2.2.2.2.1 ?zE.2.2.2.2.2.1 ?zE.2.2.2.2.2.2.1 ?zE.2.2.2.2.2.2.2.1 ?zE.2.2.2.2.2.2.2.2.1 ?zE.2.2.2.2.2.2.2.2.2.1 ?zE.2.2.2.2.2.2.2.2.2.2.1 ?zE.2.2.2.2.2.2.2.2.2.2.2.1 ?zE.2.2.2.2.2.2.2.2.2.2.2.2.1 ?zE.2.2.2.2.2.2.2.2.2.2.2.2.2.1 ?zE.2.2.2.2.2.2.2.2.2.2.2.2.2.2.1 ?zE.2.2.2.2.2.2.2.2.2.2.2.2.2.2.2.1 ?zE.2.2.2.2.2.2.2.2.2.2.2.2.2.2.2.2.1 ?zE.2.2.2.2.2.2.2.2.2.2.2.2.2.2.2.2.2.1 ?zE.2.2.2.2.2.2.2.2.2.2.2.2.2.2.2.2.2.2.1 ?zE.2.2.2.2.2.2.2.2.2.2.2.2.2.2.2.2.2.2.2.1 ?zE.2.2.2.2.2.2.2.2.2.2.2.2.2.2.2.2.2.2.2.2.1 ?zE.2.2.2.2.2.2.2.2.2.2.2.2.2.2.2.2.2.2.2.2.2.1 ?zE.2.2.2.2.2.2.2.2.2.2.2.2.2.2.2.2.2.2.2.2.2.2.1 ?zE.2.2.2.2.2.2.2.2.2.2.2.2.2.2.2.2.2.2.2.2.2.2.2.1 ?zE.2.2.2.2.2.2.2.2.2.2.2.2.2.2.2.2.2.2.2.2.2.2.2.2.1 ?zE.2.2.2.2.2.2.2.2.2.2.2.2.2.2.2.2.2.2.2.2.2.2.2.2.2.1 ?zE.2.2.2.2.2.2.2.2.2.2.2.2.2.2.2.2.2.2.2.2.2.2.2.2.2.2.1 ?zE.2.2.2.2.2.2.2.2.2.2.2.2.2.2.2.2.2.2.2.2.2.2.2.2.2.2.2
  intros w pv LSv mean mg mb dp un gd cn cs a ccd cl outer A₀ base h₀ L m news s Q E lm vs k ms
  intro B F X N T hk hd1 hu hlm hi hml hbd hret
  revert X; k_fill; intro X
  refine wpAny_call ?_
  k_dflt walk_at "en"
  k_steps
  refine hold_in ?_
  (rename Fr _ _ _ _ => lF'); (rename News _ _ _ _ => lN')
  k_dflt (refine For_rng lF' [Str.ofString "i", Str.ofString "way"] (fun j ps nx g => news = nx ∧ g = s.gens ∧ ∃ st t, ps = [(Str.ofString "lead", .str st t)] ∧ st.cps.toList = outl ms j) rfl rfl rfl ?_)
  k_steps
  (rename Fr _ _ _ _ => lF'); (rename News _ _ _ _ => lN'); (rename IsRange _ _ _ _ _ _ _ _ => rgX)
  k_dflt (refine' rng_intro1 (Str.ofString "lead") ?hr ?hF ?hN ?hz ?hb ?hR ?turn ?done; (case hr => exact rgX); (case hF => exact lF'); (case hN => exact lN'); (case hz => exact rfl); (case hb => exact ⟨by omega, by omega, by omega, by omega⟩); (case hR => exact ⟨rfl, rfl, _, _, rfl, rfl⟩))
  case turn =>
    intro j t ps nx u h g tk I oI hj hlt hne hR F' N'
    (change (let G9 : Prop := _; G9)); intro G9
    obtain ⟨rfl, rfl, st, t, rfl, hst⟩ := hR
    unfold G9; (try clear G9)
    have hol := outl_len hbd j (by omega)
    k_steps
    refine hold_in ?_
    (rename Fr _ _ _ _ => lF'); (rename News _ _ _ _ => lN')
    k_dflt (refine For_rng lF' [Str.ofString "way"] (fun i ps nx g => nx = (I, oI) :: news ∧ g = s.gens ∧ ∃ st t, ps = [(Str.ofString "lead", .str st t)] ∧ st.cps.toList = outl ms j ++ inn ms j i) rfl rfl rfl ?_)
    k_steps
    (rename Fr _ _ _ _ => lF'); (rename News _ _ _ _ => lN'); (rename IsRange _ _ _ _ _ _ _ _ => rgX)
    k_dflt (refine' rng_intro1 (Str.ofString "lead") ?hr2 ?hF2 ?hN2 ?hz2 ?hb2 ?hR2 ?turn2 ?done2; (case hr2 => exact rgX); (case hF2 => exact lF'); (case hN2 => exact lN'); (case hz2 => exact rfl); (case hb2 => exact ⟨by omega, by omega, by omega, by omega⟩); (case hR2 => exact ⟨rfl, rfl, _, _, rfl, by simpa [inn] using hst⟩))
    case turn2 =>
      intro i t ps nx u h g tk I2 oI2 hi2 hlt2 hne2 hR F' N'
      (change (let G9 : Prop := _; G9)); intro G9
      obtain ⟨rfl, rfl, st, t, rfl, hst⟩ := hR
      unfold G9; (try clear G9)
      have hil := inn_len hbd j i
      have hb9 : Nine (ms.getD (0 + (j : Int)).toNat 0 - ms.getD (0 + (i : Int)).toNat 0) := hbd (0 + (j : Int)).toNat (0 + (i : Int)).toNat
      have hll : (outl ms j ++ inn ms j i).length ≤ 1000 := by rw [List.length_append]; omega
      k_steps
      · (rename Fr _ _ _ _ => lF'); (rename News _ _ _ _ => lN')
        refine end_intro1 (Str.ofString "lead") lF' lN' (by k_mem) rfl (by intro z h1 h2 h3; have h4 := tmp1 h2; simp only [if_neg h1, if_neg h3, if_neg h4, h2, upd, Bool.false_eq_true, if_false]) ⟨rfl, rfl, _, _, rfl, ?_⟩ (by intro p hp; k_mem) (by assumption)
        exact lead_neg (by assumption) (by assumption) (by assumption)
      · (rename Fr _ _ _ _ => lF'); (rename News _ _ _ _ => lN')
        refine end_intro1 (Str.ofString "lead") lF' lN' (by k_mem) rfl (by intro z h1 h2 h3; have h4 := tmp1 h2; simp only [if_neg h1, if_neg h3, if_neg h4, h2, upd, Bool.false_eq_true, if_false]) ⟨rfl, rfl, _, _, rfl, ?_⟩ (by intro p hp; k_mem) (by assumption)
        exact lead_pos (by assumption) (by assumption) (by assumption)
    case done2 =>
      intro ps nx u h g tk hR F' N'
      (change (let G9 : Prop := _; G9)); intro G9
      obtain ⟨rfl, rfl, st, t, rfl, hst⟩ := hR
      unfold G9; (try clear G9)
      k_steps
      (rename Fr _ _ _ _ => lF'); (rename News _ _ _ _ => lN')
      refine end_intro1 (Str.ofString "lead") lF' lN' (by k_mem) rfl (by intro z h1 h2 h3; have h4 := tmp2 h2; simp only [if_neg h1, if_neg h3, if_neg h4.1, if_neg h4.2, h2, upd, Bool.false_eq_true, if_false, List.contains_cons, List.contains_nil, Bool.or_false, beq_eq_false_iff_ne.mpr h4.2]) ⟨rfl, rfl, _, _, rfl, ?_⟩ (by intro p hp; k_mem) (by assumption)
      rw [hst, outl_succ, z_add']
  case done =>
    intro ps nx u h g tk hR F' N'
    (change (let G9 : Prop := _; G9)); intro G9
    obtain ⟨rfl, rfl, st, t, rfl, hst⟩ := hR
    unfold G9; (try clear G9)
    have hol := outl_len hbd 4 (by omega)
    have hst : st.cps.toList = outl ms 4 := hst
    have hch := outl_chars ms 4
    k_steps
    (rename News h₀ L _ _ => kN9)
    exact hret _ _ _ _ _ _ _ _ _ _ _ _ _ _ _ _ _ _ _ _ _ _ _ _ _ _ (by assumption) kN9 (by assumption) (by assumption) (by assumption) (by assumption) (by assumption) (by assumption)
  run_tac fin
end
end
end
end
section
theorem fresh_C8 : True := by w_top off; exact True.intro
set_option maxHeartbeats 8000000
noncomputable def vF (m1 m2 hue : UInt64) : UInt64 :=
  let h := (Float64.divmod hue 4607182418800017408).snd
  if (Float64.cmp h 4595172819793696085 == some .lt) = true then
    Float64.add m1 (Float64.mul (Float64.mul (Float64.sub m2 m1) h) 4618441417868443648)
  else if (Float64.cmp h 4602678819172646912 == some .lt) = true then m2
  else if (Float64.cmp h 4604180019048437077 == some .lt) = true then
    Float64.add m1 (Float64.mul (Float64.mul (Float64.sub m2 m1) (Float64.sub 4604180019048437077 h)) 4618441417868443648)
  else m1
noncomputable def hlsH (r g b : UInt64) : UInt64 :=
  let M := fmax2 (fmax2 r g) b
  let R := Float64.sub M (fmin2 (fmin2 r g) b)
  let rc := Float64.div (Float64.sub M r) R
  let gc := Float64.div (Float64.sub M g) R
  let bc := Float64.div (Float64.sub M b) R
  let h := if (Float64.cmp r M == some .eq) = true then Float64.sub bc gc
    else if (Float64.cmp g M == some .eq) = true then Float64.sub (Float64.add 4611686018427387904 rc) bc
    else Float64.sub (Float64.add 4616189618054758400 gc) rc
  (Float64.divmod (Float64.div h 4618441417868443648) 4607182418800017408).snd
theorem tf {b : Bool} (h : b = false) (h' : b = true) : False := by rw [h] at h'; exact Bool.false_ne_true h'
theorem hlsH_1 {r g b : UInt64} (h : (Float64.cmp r (fmax2 (fmax2 r g) b) == some Ordering.eq) = true) : (Float64.divmod (Float64.div (Float64.sub (Float64.div (Float64.sub (fmax2 (fmax2 r g) b) b) (Float64.sub (fmax2 (fmax2 r g) b) (fmin2 (fmin2 r g) b))) (Float64.div (Float64.sub (fmax2 (fmax2 r g) b) g) (Float64.sub (fmax2 (fmax2 r g) b) (fmin2 (fmin2 r g) b)))) 4618441417868443648) 4607182418800017408).snd = hlsH r g b := by
  unfold hlsH; simp only [h, if_true]
theorem hlsH_2 {r g b : UInt64} (h : (Float64.cmp r (fmax2 (fmax2 r g) b) == some Ordering.eq) = false) (h2 : (Float64.cmp g (fmax2 (fmax2 r g) b) == some Ordering.eq) = true) : (Float64.divmod (Float64.div (Float64.sub (Float64.add 4611686018427387904 (Float64.div (Float64.sub (fmax2 (fmax2 r g) b) r) (Float64.sub (fmax2 (fmax2 r g) b) (fmin2 (fmin2 r g) b)))) (Float64.div (Float64.sub (fmax2 (fmax2 r g) b) b) (Float64.sub (fmax2 (fmax2 r g) b) (fmin2 (fmin2 r g) b)))) 4618441417868443648) 4607182418800017408).snd = hlsH r g b := by
  unfold hlsH; simp only [h, h2, if_true, Bool.false_eq_true, if_false]
theorem hlsH_3 {r g b : UInt64} (h : (Float64.cmp r (fmax2 (fmax2 r g) b) == some Ordering.eq) = false) (h2 : (Float64.cmp g (fmax2 (fmax2 r g) b) == some Ordering.eq) = false) : (Float64.divmod (Float64.div (Float64.sub (Float64.add 4616189618054758400 (Float64.div (Float64.sub (fmax2 (fmax2 r g) b) g) (Float64.sub (fmax2 (fmax2 r g) b) (fmin2 (fmin2 r g) b)))) (Float64.div (Float64.sub (fmax2 (fmax2 r g) b) r) (Float64.sub (fmax2 (fmax2 r g) b) (fmin2 (fmin2 r g) b)))) 4618441417868443648) 4607182418800017408).snd = hlsH r g b := by
  unfold hlsH; simp only [h, h2, Bool.false_eq_true, if_false]
theorem mem3 {h₀ h' : Heap} {L : Addr} {x : Addr} {a a' b b' c c' : UInt64} {t1 t2 t3 : Tok} {news : List (Addr × Obj)} (e : a = a') (e2 : b = b') (e3 : c = c') (h : News h₀ L h' ((x, tupO [.float a t1, .float b t2, .float c t3]) :: news)) : News h₀ L h' ((x, tupO [.float a' t1, .float b' t2, .float c' t3]) :: news) := e ▸ e2 ▸ e3 ▸ h
theorem hf0 : Float64.div (Float64.ofInt (max (max 0 0) 1 + min (min 0 0) 1)) 4611686018427387904 = 4602678819172646912 := by decide +kernel
theorem cz : (Float64.cmpInt 0 1 == some Ordering.eq) = false := by decide +kernel
theorem e_m2 : Float64.mul 4602678819172646912 (Float64.add 4607182418800017408 (Float64.ofInt 1)) = 4607182418800017408 := by decide +kernel
theorem e_m2' : Float64.sub (Float64.add 4602678819172646912 (Float64.ofInt 1)) (Float64.mul 4602678819172646912 (Float64.ofInt 1)) = 4607182418800017408 := by decide +kernel
theorem e_m1 : Float64.sub (Float64.mul 4611686018427387904 4602678819172646912) 4607182418800017408 = 0 := by decide +kernel
noncomputable def shareF (k : Int) : UInt64 := Float64.ofFrac (decide (k - (k - 1) < 0) != decide (k < 0)) (k - (k - 1)).natAbs k.natAbs
section
variable {w : World} {pv : Program} {LSv : List Str} {mean : ExcName → Option Value} {mg mb : Str → Option Value}
    {dp un : Nat} {gd : Option (List Code)} {cn : Str} {cs : Scope} {a : Addr} {ccd : Value} {cl : List (Str × Addr)} {outer : List Env} {A₀ : Around} {base h₀ : Heap} {L : Addr} {m : Str → Option Value} {news : List (Addr × Obj)} {s : Shared}
    {Q E : Value → Shared → Prop}
theorem rows_C8_0 : True := by
  k_with_none
  k_with "call builtin:max" => (k_here; (with_reducible show wpAny _ _ (call (Value.builtin "max") [Value.float _ _, Value.float _ _, Value.float _ _]) _ _ _); k_dflt (refine' max3_f ?k1 ?k2 ?k3 ?_; (case k1 => rfl); (case k2 => k_asm); (case k3 => k_asm); k_whole); intro hQq7 tkQq7 tQq7 FQq7 NQq7; (try k_sweep))
  k_with "call builtin:min" => (k_here; (with_reducible show wpAny _ _ (call (Value.builtin "min") [Value.float _ _, Value.float _ _, Value.float _ _]) _ _ _); k_dflt (refine' min3_f ?k1 ?k2 ?k3 ?_; (case k1 => rfl); (case k2 => k_asm); (case k3 => k_asm); k_whole); intro hQq7 tkQq7 tQq7 FQq7 NQq7; (try k_sweep))
  k_with "call builtin:max" => (k_here; (with_reducible show wpAny _ _ (call (Value.builtin "max") [Value.int _ _, Value.int _ _, Value.int _ _]) _ _ _); k_dflt (refine' max3_i ?k1 ?k2 ?k3 ?k4 ?_; (case k1 => rfl); (case k2 => k_asm); (case k3 => k_asm); (case k4 => first | assumption | rfl); k_whole); intro hQq7 tkQq7 tQq7 FQq7 NQq7; (try k_sweep))
  k_with "call builtin:min" => (k_here; (with_reducible show wpAny _ _ (call (Value.builtin "min") [Value.int _ _, Value.int _ _, Value.int _ _]) _ _ _); k_dflt (refine' min3_i ?k1 ?k2 ?k3 ?k4 ?_; (case k1 => rfl); (case k2 => k_asm); (case k3 => k_asm); (case k4 => first | assumption | rfl); k_whole); intro hQq7 tkQq7 tQq7 FQq7 NQq7; (try k_sweep))
  exact True.intro
theorem v_spec {b1 b2 b3 : UInt64} {t1 t2 t3 : Tok} (B : Below A₀ base outer h₀) (F : Fr h₀ L s.heap m) (X : (hd.heap_39 w.params).In h₀) (N : News h₀ L s.heap news) (T : Top pv LSv mean mg mb h₀) (hk : cs.kind = .function)
    (hd1 : dp + 1 < recursionLimit) (hu : un + 100 < cLine) 
    (hret : ∀ r tk h' tk', r = vF b1 b2 b3 → Fr h₀ L h' m → News h₀ L h' news → Q (.float r tk) { s with heap := h', toks := tk' }) :
    wpAny (model PySem.Challenge.rw_rl0132_01.prog w) (ktrTop dp un gd cn cs L a ccd cl outer) (call (.ref 108) [.float b1 t1, .float b2 t2, .float b3 t3]) Q E s := by
  revert w pv LSv mean mg mb dp un gd cn cs a ccd cl outer A₀ base h₀ L m news s Q E b1 b2 b3 t1 t2 t3
  refine (?zh : ∀ w pv LSv mean mg mb dp un gd cn cs a ccd cl outer A₀ base h₀ L m news s Q E b1 b2 b3 t1 t2 t3, (?zP : _ → _ → _ → _ → _ → _ → _ → _ → _ → _ → _ → _ → _ → _ → _ → _ → _ → _ → _ → _ → _ → _ → _ → _ → _ → _ → _ → _ → _ → _ → Prop) w pv LSv mean mg mb dp un gd cn cs a ccd cl outer A₀ base h₀ L m news s Q E b1 b2 b3 t1 t2 t3)
  refine fun w pv LSv mean mg mb dp un gd cn cs a ccd cl outer A₀ base h₀ L m news s Q E b1 b2 b3 t1 t2 t3 => allE (P := un2 fun w => un2 fun pv => un2 fun LSv => un2 fun mean => un2 fun mg => un2 fun mb => un2 fun dp => un2 fun un => un2 fun gd => un2 fun cn => un2 fun cs => un2 fun a => un2 fun ccd => un2 fun cl => un2 fun outer => un2 fun A₀ => un2 fun base => un2 fun h₀ => un2 fun L => un2 fun m => un2 fun news => un2 fun s => un2 fun Q => un2 fun E => un2 fun b1 => un2 fun b2 => un2 fun b3 => un2 fun t1 => un2 fun t2 t3 => ?zP w pv LSv mean mg mb dp un gd cn cs a ccd cl outer A₀ base h₀ L m news s Q E b1 b2 b3 t1 t2 t3) ?zn ?zk (w, pv, LSv, mean, mg, mb, dp, un, gd, cn, cs, a, ccd, cl, outer, A₀, base, h₀, L, m, news, s, Q, E, b1, b2, b3, t1, t2, t3)
  case zn => walk_at "ne"
  clear w pv LSv mean mg mb dp un gd cn cs a ccd cl outer A₀ base h₀ L m news s Q E b1 b2 b3 t1 t2 t3
  refine (?zj : AtE _ ?zE)
  refine (?zF : ∀ w pv LSv mean mg mb dp un gd cn cs a ccd cl outer A₀ base h₀ L m news s Q E b1 b2 b3 t1 t2 t3, ?zP w pv LSv mean mg mb dp un gd cn cs a ccd cl outer A₀ base h₀ L m news s Q E b1 b2 b3 t1 t2 t3) ?zE.1 ?zE.2.1 ?zE.2.2.1 ?zE.2.2.2.1 ?zE.2.2.2.2.1 ?zE.2.2.2.2.2.1 ?zE.2.2.2.2.2.2.1 ?zE.2.2.2.2.2.2.2.1 ?zE.2.2.2.2.2.2.2.2.1 ?zE.2.2.2.2.2.2.2.2.2.1 ?zE.2.2.2.2.2.2.2.2.2.2.1 ?zE.2.2.2.2.2.2.2.2.2.2.2.1 ?zE.2.2.2.2.2.2.2.2.2.2.2.2.1 ?zE.2.2.2.2.2.2.2.2.2.2.2.2.2.1 ?zE.2.2.2.2.2.2.2.2.2.2.2.2.2.2.1 ?zE.2.2.2.2.2.2.2.2.2.2.2.2.2.2.2.1 ?zE.2.2.2.2.2.2.2.2.2.2.2.2.2.2.2.2.1 ?zE.2.2.2.2.2.2.2.2.2.2.2.2.2.2.2.2.2.1 ?zE.2.2.2.2.2.2.2.2.2.2.2.2.2.2.2.2.2.2.1 ?zE.2.2.2.2.2.2.2.2.2.2.2.2.2.2.2.2.2.2.2.1 ?zE.2.2.2.2.2.2.2.2.2.2.2.2.2.2.2.2.2.2.2.2.1 ?zE.2.2.2.2.2.2.2.2.2.2.2.2.2.2.2.2.2.2.2.2.2.1 ?zE.2.2.2.2.2.2.2.2.2.2.2.2.2.2.2.2.2.2.2.2.2.2.1 ?zE.2.2.2.2.2.2.2.2.2.2.2.2.2.2.2.2.2.2.2.2.2.2.2.1 ?zE.2.2.2.2.2.2.2.2.2.2.2.2.2.2.2.2.2.2.2.2.2.2.2.2.1 ?zE.2.2.2.2.2.2.2.2.2.2.2.2.2.2.2.2.2.2.2.2.2.2.2.2.2.1 ?zE.2.2.2.2.2.2.2.2.2.2.2.2.2.2.2.2.2.2.2.2.2.2.2.2.2.2.1 ?zE.2.2.2.2.2.2.2.2.2.2.2.2.2.2.2.2.2.2.2.2.2.2.2.2.2.2.2.1 ?zE.2.2.2.2.2.2.2.2.2.2.2.2.2.2.2.2.2.2.2.2.2.2.2.2.2.2.2.2.1 ?zE.2.2.2.2.2.2.2.2.2.2.2.2.2.2.2.2.2.2.2.2.2.2.2.2.2.2.2.2.2
  intros w pv LSv mean mg mb dp un gd cn cs a ccd cl outer A₀ base h₀ L m news s Q E b1 b2 b3 t1 t2 t3
  intro B F X N T hk hd1 hu hret
  revert X; k_fill; intro X
  refine wpAny_call ?_
  k_dflt walk_at "en"
  k_steps
  all_goals (refine hret _ _ _ _ ?_ (by assumption) (by assumption); simp_all [vF])
  run_tac fin
theorem hls0_spec {t1 t2 t3 : Tok} (B : Below A₀ base outer h₀) (F : Fr h₀ L s.heap m) (X : (hd.heap_39 w.params).In h₀) (N : News h₀ L s.heap news) (T : Top pv LSv mean mg mb h₀) (hk : cs.kind = .function)
    (hd1 : dp + 1 < recursionLimit) (hu : un + 100 < cLine) 
    (hret : ∀ x a t1 c t2 t3 h' tk', Fr h₀ L h' m → News h₀ L h' ((x, tupO [.float a t1, .float 4602678819172646912 t2, .float c t3]) :: news) → (∀ q ∈ news, q.1 < x) → Q (.ref x) { s with heap := h', toks := tk' }) :
    wpAny (model PySem.Challenge.rw_rl0132_01.prog w) (ktrTop dp un gd cn cs L a ccd cl outer) (call (.ref 94) [.int 0 t1, .int 0 t2, .int 1 t3]) Q E s := by
  revert w pv LSv mean mg mb dp un gd cn cs a ccd cl outer A₀ base h₀ L m news s Q E t1 t2 t3
  refine (?zh : ∀ w pv LSv mean mg mb dp un gd cn cs a ccd cl outer A₀ base h₀ L m news s Q E t1 t2 t3, (?zP : _ → _ → _ → _ → _ → _ → _ → _ → _ → _ → _ → _ → _ → _ → _ → _ → _ → _ → _ → _ → _ → _ → _ → _ → _ → _ → _ → Prop) w pv LSv mean mg mb dp un gd cn cs a ccd cl outer A₀ base h₀ L m news s Q E t1 t2 t3)
  refine fun w pv LSv mean mg mb dp un gd cn cs a ccd cl outer A₀ base h₀ L m news s Q E t1 t2 t3 => allE (P := un2 fun w => un2 fun pv => un2 fun LSv => un2 fun mean => un2 fun mg => un2 fun mb => un2 fun dp => un2 fun un => un2 fun gd => un2 fun cn => un2 fun cs => un2 fun a => un2 fun ccd => un2 fun cl => un2 fun outer => un2 fun A₀ => un2 fun base => un2 fun h₀ => un2 fun L => un2 fun m => un2 fun news => un2 fun s => un2 fun Q => un2 fun E => un2 fun t1 => un2 fun t2 t3 => ?zP w pv LSv mean mg mb dp un gd cn cs a ccd cl outer A₀ base h₀ L m news s Q E t1 t2 t3) ?zn ?zk (w, pv, LSv, mean, mg, mb, dp, un, gd, cn, cs, a, ccd, cl, outer, A₀, base, h₀, L, m, news, s, Q, E, t1, t2, t3)
  case zn => walk_at "ne"
  clear w pv LSv mean mg mb dp un gd cn cs a ccd cl outer A₀ base h₀ L m news s Q E t1 t2 t3
  refine (?zj : AtE _ ?zE)
  refine (?zF : ∀ w pv LSv mean mg mb dp un gd cn cs a ccd cl outer A₀ base h₀ L m news s Q E t1 t2 t3, ?zP w pv LSv mean mg mb dp un gd cn cs a ccd cl outer A₀ base h₀ L m news s Q E t1 t2 t3) ?zE.1 ?zE.2.1 ?zE.2.2.1 ?zE.2.2.2.1 ?zE.2.2.2.2.1 ?zE.2.2.2.2.2.1 ?zE.2.2.2.2.2.2.1 ?zE.2.2.2.2.2.2.2.1 ?zE.2.2.2.2.2.2.2.2.1 ?zE.2.2.2.2.2.2.2.2.2.1 ?zE.2.2.2.2.2.2.2.2.2.2.1 ?zE.2.2.2.2.2.2.2.2.2.2.2.1 ?zE.2.2.2.2.2.2.2.2.2.2.2.2.1 ?zE.2.2.2.2.2.2.2.2.2.2.2.2.2.1 ?zE.2.2.2.2.2.2.2.2.2.2.2.2.2.2.1 ?zE.2.2.2.2.2.2.2.2.2.2.2.2.2.2.2.1 ?zE.2.2.2.2.2.2.2.2.2.2.2.2.2.2.2.2.1 ?zE.2.2.2.2.2.2.2.2.2.2.2.2.2.2.2.2.2.1 ?zE.2.2.2.2.2.2.2.2.2.2.2.2.2.2.2.2.2.2.1 ?zE.2.2.2.2.2.2.2.2.2.2.2.2.2.2.2.2.2.2.2.1 ?zE.2.2.2.2.2.2.2.2.2.2.2.2.2.2.2.2.2.2.2.2.1 ?zE.2.2.2.2.2.2.2.2.2.2.2.2.2.2.2.2.2.2.2.2.2.1 ?zE.2.2.2.2.2.2.2.2.2.2.2.2.2.2.2.2.2.2.2.2.2.2.1 ?zE.2.2.2.2.2.2.2.2.2.2.2.2.2.2.2.2.2.2.2.2.2.2.2.1 ?zE.2.2.2.2.2.2.2.2.2.2.2.2.2.2.2.2.2.2.2.2.2.2.2.2.1 ?zE.2.2.2.2.2.2.2.2.2.2.2.2.2.2.2.2.2.2.2.2.2.2.2.2.2.1 ?zE.2.2.2.2.2.2.2.2.2.2.2.2.2.2.2.2.2.2.2.2.2.2.2.2.2.2
  intros w pv LSv mean mg mb dp un gd cn cs a ccd cl outer A₀ base h₀ L m news s Q E t1 t2 t3
  intro B F X N T hk hd1 hu hret
  revert X; k_fill; intro X
  refine wpAny_call ?_
  k_dflt walk_at "en"
  k_steps
  all_goals (rename News h₀ L _ _ => kN9)
  all_goals exact hret _ _ _ _ _ _ _ _ (by assumption) (mem3 rfl hf0 rfl kN9) (by assumption)
  run_tac fin
inductive JoinF (x : Str) (V : UInt64 → Prop) (h₀ : Heap) (L : Addr) (m : Str → Option Value) (news : List (Addr × Obj)) (s : Shared) (f : Flow) (s' : Shared) : Prop where
  | mk (e : f = .next) (a : UInt64) (t : Tok) (h' : Heap) (tk' : Nat) (hV : V a) (e2 : s' = { s with heap := h', toks := tk' }) (F : Fr h₀ L h' (fun y => if y = x then some (.float a t) else m y)) (N : News h₀ L h' news) : JoinF x V h₀ L m news s f s'
theorem if_joinF {prog : Program} {w : World} {A : Around} {st : Stmt} {rest : List Stmt} {env : Env} {Q : Flow → Shared → Prop} {E : Value → Shared → Prop} {s : Shared} {h₀ : Heap} {L : Addr} {m : Str → Option Value} {news : List (Addr × Obj)} (x : Str) (V : UInt64 → Prop) (_F : Fr h₀ L s.heap m) (_N : News h₀ L s.heap news)
    (h1 : wpAny (model prog w) A (exec st env) (JoinF x V h₀ L m news s) E s)
    (h2 : ∀ a t h' tk', V a → Fr h₀ L h' (fun y => if y = x then some (.float a t) else m y) → News h₀ L h' news → wpAny (model prog w) A (execs rest env) Q E { s with heap := h', toks := tk' }) :
    wpAny (model prog w) A (execs (st :: rest) env) Q E s :=
  wpAny_execs_cons (wpAny_mono h1 (fun f s' ⟨e, a, t, h', tk', hV, e2, F, N⟩ => by subst e; subst e2; exact h2 a t h' tk' hV F N) fun _ _ h => h)
section
theorem rows_C8_1 : True := by
  k_with "execs cons If" => ((try k_gentoks); refine hold_out ?_)
  exact True.intro
theorem hls_spec {b1 b2 b3 : UInt64} {t1 t2 t3 : Tok} (B : Below A₀ base outer h₀) (F : Fr h₀ L s.heap m) (X : (hd.heap_39 w.params).In h₀) (N : News h₀ L s.heap news) (T : Top pv LSv mean mg mb h₀) (hk : cs.kind = .function)
    (hd1 : dp + 1 < recursionLimit) (hu : un + 100 < cLine) (z0 : (Float64.cmp (fmin2 (fmin2 b1 b2) b3) (fmax2 (fmax2 b1 b2) b3) == some Ordering.eq) = false) (z1 : Float64.isZero (Float64.add (fmax2 (fmax2 b1 b2) b3) (fmin2 (fmin2 b1 b2) b3)) = false) (z2 : Float64.isZero (Float64.sub (fmax2 (fmax2 b1 b2) b3) (fmin2 (fmin2 b1 b2) b3)) = false) (z3 : Float64.isZero (Float64.sub (Float64.sub 4611686018427387904 (fmax2 (fmax2 b1 b2) b3)) (fmin2 (fmin2 b1 b2) b3)) = false)
    (hret : ∀ x t1 b t2 c t3 h' tk', Fr h₀ L h' m → News h₀ L h' ((x, tupO [.float (hlsH b1 b2 b3) t1, .float b t2, .float c t3]) :: news) → (∀ q ∈ news, q.1 < x) → Q (.ref x) { s with heap := h', toks := tk' }) :
    wpAny (model PySem.Challenge.rw_rl0132_01.prog w) (ktrTop dp un gd cn cs L a ccd cl outer) (call (.ref 94) [.float b1 t1, .float b2 t2, .float b3 t3]) Q E s := by
  revert w pv LSv mean mg mb dp un gd cn cs a ccd cl outer A₀ base h₀ L m news s Q E b1 b2 b3 t1 t2 t3
  refine (?zh : ∀ w pv LSv mean mg mb dp un gd cn cs a ccd cl outer A₀ base h₀ L m news s Q E b1 b2 b3 t1 t2 t3, (?zP : _ → _ → _ → _ → _ → _ → _ → _ → _ → _ → _ → _ → _ → _ → _ → _ → _ → _ → _ → _ → _ → _ → _ → _ → _ → _ → _ → _ → _ → _ → Prop) w pv LSv mean mg mb dp un gd cn cs a ccd cl outer A₀ base h₀ L m news s Q E b1 b2 b3 t1 t2 t3)
  refine fun w pv LSv mean mg mb dp un gd cn cs a ccd cl outer A₀ base h₀ L m news s Q E b1 b2 b3 t1 t2 t3 => allE (P := un2 fun w => un2 fun pv => un2 fun LSv => un2 fun mean => un2 fun mg => un2 fun mb => un2 fun dp => un2 fun un => un2 fun gd => un2 fun cn => un2 fun cs => un2 fun a => un2 fun ccd => un2 fun cl => un2 fun outer => un2 fun A₀ => un2 fun base => un2 fun h₀ => un2 fun L => un2 fun m => un2 fun news => un2 fun s => un2 fun Q => un2 fun E => un2 fun b1 => un2 fun b2 => un2 fun b3 => un2 fun t1 => un2 fun t2 t3 => ?zP w pv LSv mean mg mb dp un gd cn cs a ccd cl outer A₀ base h₀ L m news s Q E b1 b2 b3 t1 t2 t3) ?zn ?zk (w, pv, LSv, mean, mg, mb, dp, un, gd, cn, cs, a, ccd, cl, outer, A₀, base, h₀, L, m, news, s, Q, E, b1, b2, b3, t1, t2, t3)
  case zn => walk_at "ne"
  clear w pv LSv mean mg mb dp un gd cn cs a ccd cl outer A₀ base h₀ L m news s Q E b1 b2 b3 t1 t2 t3
  refine (?zj : AtE _ ?zE)
  refine (?zF : ∀ w pv LSv mean mg mb dp un gd cn cs a ccd cl outer A₀ base h₀ L m news s Q E b1 b2 b3 t1 t2 t3, ?zP w pv LSv mean mg mb dp un gd cn cs a ccd cl outer A₀ base h₀ L m news s Q E b1 b2 b3 t1 t2 t3) ?zE.1 ?zE.2.1 ?zE.2.2.1 ?zE.2.2.2.1 ?zE.2.2.2.2.1 ?zE.2.2.2.2.2.1 ?zE.2.2.2.2.2.2.1 ?zE.2.2.2.2.2.2.2.1 ?zE.2.2.2.2.2.2.2.2.1 ?zE.2.2.2.2.2.2.2.2.2.1 ?zE.2.2.2.2.2.2.2.2.2.2.1 ?zE.2.2.2.2.2.2.2.2.2.2.2.1 ?zE.2.2.2.2.2.2.2.2.2.2.2.2.1 ?zE.2.2.2.2.2.2.2.2.2.2.2.2.2.1 ?zE.2.2.2.2.2.2.2.2.2.2.2.2.2.2.1 ?zE.2.2.2.2.2.2.2.2.2.2.2.2.2.2.2.1 ?zE.2.2.2.2.2.2.2.2.2.2.2.2.2.2.2.2.1 ?zE.2.2.2.2.2.2.2.2.2.2.2.2.2.2.2.2.2.1 ?zE.2.2.2.2.2.2.2.2.2.2.2.2.2.2.2.2.2.2.1 ?zE.2.2.2.2.2.2.2.2.2.2.2.2.2.2.2.2.2.2.2.1 ?zE.2.2.2.2.2.2.2.2.2.2.2.2.2.2.2.2.2.2.2.2.1 ?zE.2.2.2.2.2.2.2.2.2.2.2.2.2.2.2.2.2.2.2.2.2.1 ?zE.2.2.2.2.2.2.2.2.2.2.2.2.2.2.2.2.2.2.2.2.2.2.1 ?zE.2.2.2.2.2.2.2.2.2.2.2.2.2.2.2.2.2.2.2.2.2.2.2.1 ?zE.2.2.2.2.2.2.2.2.2.2.2.2.2.2.2.2.2.2.2.2.2.2.2.2.1 ?zE.2.2.2.2.2.2.2.2.2.2.2.2.2.2.2.2.2.2.2.2.2.2.2.2.2.1 ?zE.2.2.2.2.2.2.2.2.2.2.2.2.2.2.2.2.2.2.2.2.2.2.2.2.2.2.1 ?zE.2.2.2.2.2.2.2.2.2.2.2.2.2.2.2.2.2.2.2.2.2.2.2.2.2.2.2.1 ?zE.2.2.2.2.2.2.2.2.2.2.2.2.2.2.2.2.2.2.2.2.2.2.2.2.2.2.2.2.1 ?zE.2.2.2.2.2.2.2.2.2.2.2.2.2.2.2.2.2.2.2.2.2.2.2.2.2.2.2.2.2
  intros w pv LSv mean mg mb dp un gd cn cs a ccd cl outer A₀ base h₀ L m news s Q E b1 b2 b3 t1 t2 t3
  intro B F X N T hk hd1 hu z0 z1 z2 z3 hret
  revert X; k_fill; intro X
  refine wpAny_call ?_
  k_dflt walk_at "en"
  k_steps
  refine hold_in ?_
  refine wpAny_execs_cons ?_
  k_steps
  refine hold_in ?_
  (rename Fr _ _ _ _ => kF); (rename News _ _ _ _ => kN)
  refine if_joinF (Str.ofString "s") (fun _ => True) kF kN ?_ ?_
  · k_steps
    all_goals exact JoinF.mk rfl _ _ _ _ trivial rfl (by assumption) (by assumption)
  clear kF kN
  intro a1 t1 h1 tk1 _ kF kN
  dsimp only
  k_steps
  refine hold_in ?_
  (rename Fr _ _ _ _ => kF2); (rename News _ _ _ _ => kN2)
  refine if_joinF (Str.ofString "h") (fun v => (Float64.divmod (Float64.div v 4618441417868443648) 4607182418800017408).snd = hlsH b1 b2 b3) kF2 kN2 ?_ ?_
  · k_steps
    all_goals (try (refine hold_in ?_; refine wpAny_execs_cons ?_; k_steps))
    all_goals first
      | exact JoinF.mk rfl _ _ _ _ (hlsH_1 (by assumption)) rfl (by assumption) (by assumption)
      | exact JoinF.mk rfl _ _ _ _ (hlsH_2 (by assumption) (by assumption)) rfl (by assumption) (by assumption)
      | exact JoinF.mk rfl _ _ _ _ (hlsH_3 (by assumption) (by assumption)) rfl (by assumption) (by assumption)
  clear kF2 kN2
  intro a2 t2 h2 tk2 hV2 kF2 kN2
  dsimp only
  k_steps
  (rename News h₀ L _ _ => kN9)
  exact hret _ _ _ _ _ _ _ _ (by assumption) (mem3 hV2 rfl rfl kN9) (by assumption)
  run_tac fin
end
theorem rows_C8_2 : True := by
  k_with_none
  k_with "call builtin:max" => (k_here; (with_reducible show wpAny _ _ (call (Value.builtin "max") [Value.float _ _, Value.float _ _, Value.float _ _]) _ _ _); k_dflt (refine' max3_f ?k1 ?k2 ?k3 ?_; (case k1 => rfl); (case k2 => k_asm); (case k3 => k_asm); k_whole); intro hQq7 tkQq7 tQq7 FQq7 NQq7; (try k_sweep))
  k_with "call builtin:min" => (k_here; (with_reducible show wpAny _ _ (call (Value.builtin "min") [Value.float _ _, Value.float _ _, Value.float _ _]) _ _ _); k_dflt (refine' min3_f ?k1 ?k2 ?k3 ?_; (case k1 => rfl); (case k2 => k_asm); (case k3 => k_asm); k_whole); intro hQq7 tkQq7 tQq7 FQq7 NQq7; (try k_sweep))
  k_with "call builtin:max" => (k_here; (with_reducible show wpAny _ _ (call (Value.builtin "max") [Value.int _ _, Value.int _ _, Value.int _ _]) _ _ _); k_dflt (refine' max3_i ?k1 ?k2 ?k3 ?k4 ?_; (case k1 => rfl); (case k2 => k_asm); (case k3 => k_asm); (case k4 => first | assumption | rfl); k_whole); intro hQq7 tkQq7 tQq7 FQq7 NQq7; (try k_sweep))
  k_with "call builtin:min" => (k_here; (with_reducible show wpAny _ _ (call (Value.builtin "min") [Value.int _ _, Value.int _ _, Value.int _ _]) _ _ _); k_dflt (refine' min3_i ?k1 ?k2 ?k3 ?k4 ?_; (case k1 => rfl); (case k2 => k_asm); (case k3 => k_asm); (case k4 => first | assumption | rfl); k_whole); intro hQq7 tkQq7 tQq7 FQq7 NQq7; (try k_sweep))
  exact True.intro
theorem hsv_spec {k : Int} {t1 t2 t3 : Tok} (B : Below A₀ base outer h₀) (F : Fr h₀ L s.heap m) (X : (hd.heap_39 w.params).In h₀) (N : News h₀ L s.heap news) (T : Top pv LSv mean mg mb h₀) (hk : cs.kind = .function)
    (hd1 : dp + 1 < recursionLimit) (hu : un + 100 < cLine) (hk1 : 1 ≤ k) (hk9 : k ≤ 9) (hmx : k = max (max (k - 1) k) k) (hmn : k - 1 = min (min (k - 1) k) k)
    (hret : ∀ x a t1 t2 t3 h' tk', Fr h₀ L h' m → News h₀ L h' ((x, tupO [.float a t1, .float (shareF k) t2, .int k t3]) :: news) → (∀ q ∈ news, q.1 < x) → Q (.ref x) { s with heap := h', toks := tk' }) :
    wpAny (model PySem.Challenge.rw_rl0132_01.prog w) (ktrTop dp un gd cn cs L a ccd cl outer) (call (.ref 115) [.int (k - 1) t1, .int k t2, .int k t3]) Q E s := by
  revert w pv LSv mean mg mb dp un gd cn cs a ccd cl outer A₀ base h₀ L m news s Q E k t1 t2 t3
  refine (?zh : ∀ w pv LSv mean mg mb dp un gd cn cs a ccd cl outer A₀ base h₀ L m news s Q E k t1 t2 t3, (?zP : _ → _ → _ → _ → _ → _ → _ → _ → _ → _ → _ → _ → _ → _ → _ → _ → _ → _ → _ → _ → _ → _ → _ → _ → _ → _ → _ → _ → Prop) w pv LSv mean mg mb dp un gd cn cs a ccd cl outer A₀ base h₀ L m news s Q E k t1 t2 t3)
  refine fun w pv LSv mean mg mb dp un gd cn cs a ccd cl outer A₀ base h₀ L m news s Q E k t1 t2 t3 => allE (P := un2 fun w => un2 fun pv => un2 fun LSv => un2 fun mean => un2 fun mg => un2 fun mb => un2 fun dp => un2 fun un => un2 fun gd => un2 fun cn => un2 fun cs => un2 fun a => un2 fun ccd => un2 fun cl => un2 fun outer => un2 fun A₀ => un2 fun base => un2 fun h₀ => un2 fun L => un2 fun m => un2 fun news => un2 fun s => un2 fun Q => un2 fun E => un2 fun k => un2 fun t1 => un2 fun t2 t3 => ?zP w pv LSv mean mg mb dp un gd cn cs a ccd cl outer A₀ base h₀ L m news s Q E k t1 t2 t3) ?zn ?zk (w, pv, LSv, mean, mg, mb, dp, un, gd, cn, cs, a, ccd, cl, outer, A₀, base, h₀, L, m, news, s, Q, E, k, t1, t2, t3)
  case zn => walk_at "ne"
  clear w pv LSv mean mg mb dp un gd cn cs a ccd cl outer A₀ base h₀ L m news s Q E k t1 t2 t3
  refine (?zj : AtE _ ?zE)
  refine (?zF : ∀ w pv LSv mean mg mb dp un gd cn cs a ccd cl outer A₀ base h₀ L m news s Q E k t1 t2 t3, ?zP w pv LSv mean mg mb dp un gd cn cs a ccd cl outer A₀ base h₀ L m news s Q E k t1 t2 t3) ?zE.1 ?zE.2.1 ?zE.2.2.1 ?zE.2.2.2.1 ?zE.2.2.2.2.1 ?zE.2.2.2.2.2.1 ?zE.2.2.2.2.2.2.1 ?zE.2.2.2.2.2.2.2.1 ?zE.2.2.2.2.2.2.2.2.1 ?zE.2.2.2.2.2.2.2.2.2.1 ?zE.2.2.2.2.2.2.2.2.2.2.1 ?zE.2.2.2.2.2.2.2.2.2.2.2.1 ?zE.2.2.2.2.2.2.2.2.2.2.2.2.1 ?zE.2.2.2.2.2.2.2.2.2.2.2.2.2.1 ?zE.2.2.2.2.2.2.2.2.2.2.2.2.2.2.1 ?zE.2.2.2.2.2.2.2.2.2.2.2.2.2.2.2.1 ?zE.2.2.2.2.2.2.2.2.2.2.2.2.2.2.2.2.1 ?zE.2.2.2.2.2.2.2.2.2.2.2.2.2.2.2.2.2.1 ?zE.2.2.2.2.2.2.2.2.2.2.2.2.2.2.2.2.2.2.1 ?zE.2.2.2.2.2.2.2.2.2.2.2.2.2.2.2.2.2.2.2.1 ?zE.2.2.2.2.2.2.2.2.2.2.2.2.2.2.2.2.2.2.2.2.1 ?zE.2.2.2.2.2.2.2.2.2.2.2.2.2.2.2.2.2.2.2.2.2.1 ?zE.2.2.2.2.2.2.2.2.2.2.2.2.2.2.2.2.2.2.2.2.2.2.1 ?zE.2.2.2.2.2.2.2.2.2.2.2.2.2.2.2.2.2.2.2.2.2.2.2.1 ?zE.2.2.2.2.2.2.2.2.2.2.2.2.2.2.2.2.2.2.2.2.2.2.2.2.1 ?zE.2.2.2.2.2.2.2.2.2.2.2.2.2.2.2.2.2.2.2.2.2.2.2.2.2.1 ?zE.2.2.2.2.2.2.2.2.2.2.2.2.2.2.2.2.2.2.2.2.2.2.2.2.2.2.1 ?zE.2.2.2.2.2.2.2.2.2.2.2.2.2.2.2.2.2.2.2.2.2.2.2.2.2.2.2
  intros w pv LSv mean mg mb dp un gd cn cs a ccd cl outer A₀ base h₀ L m news s Q E k t1 t2 t3
  intro B F X N T hk hd1 hu hk1 hk9 hmx hmn hret
  revert X; k_fill; intro X
  refine wpAny_call ?_
  k_dflt walk_at "en"
  k_steps
  all_goals first | (exfalso; omega) | skip
  all_goals (rename News h₀ L _ _ => kN9)
  all_goals exact hret _ _ _ _ _ _ _ (by assumption) kN9 (by assumption)
  run_tac fin
end
section
variable {w : World} {pv : Program} {LSv : List Str} {mean : ExcName → Option Value} {mg mb : Str → Option Value}
    {dp un : Nat} {gd : Option (List Code)} {cn : Str} {cs : Scope} {a : Addr} {ccd : Value} {cl : List (Str × Addr)} {outer : List Env} {A₀ : Around} {base h₀ : Heap} {L : Addr} {m : Str → Option Value} {news : List (Addr × Obj)} {s : Shared}
    {Q E : Value → Shared → Prop}
theorem rows_C8_3 : True := by
  k_with "call ref" => (k_here; (with_reducible show wpAny _ _ (call (Value.ref 108) _) _ _ _); k_dflt (refine' v_spec ?k1 ?k2 ?k3 ?k4 ?k5 ?k6 ?k7 ?k8 ?_; (case k1 => k_asm); (case k2 => k_asm); (case k3 => k_asm); (case k4 => k_asm); (case k5 => k_asm); (case k6 => first | rfl | assumption); (case k7 => ktr_room); (case k8 => ktr_units); k_whole); intro rQq7 tQq7 hQq7 tkQq7 eQq7 FQq7 NQq7; (try subst eQq7); (try k_sweep))
  exact True.intro
theorem h2r_spec {b1 : UInt64} {t1 t2 t3 : Tok} (B : Below A₀ base outer h₀) (F : Fr h₀ L s.heap m) (X : (hd.heap_39 w.params).In h₀) (N : News h₀ L s.heap news) (T : Top pv LSv mean mg mb h₀) (hk : cs.kind = .function)
    (hd1 : dp + 2 < recursionLimit) (hu : un + 200 < cLine) 
    (hret : ∀ x t1 t2 t3 h' tk', Fr h₀ L h' m → News h₀ L h' ((x, tupO [.float (vF 0 4607182418800017408 (Float64.add b1 4599676419421066581)) t1, .float (vF 0 4607182418800017408 b1) t2, .float (vF 0 4607182418800017408 (Float64.sub b1 4599676419421066581)) t3]) :: news) → (∀ q ∈ news, q.1 < x) → Q (.ref x) { s with heap := h', toks := tk' }) :
    wpAny (model PySem.Challenge.rw_rl0132_01.prog w) (ktrTop dp un gd cn cs L a ccd cl outer) (call (.ref 101) [.float b1 t1, .float 4602678819172646912 t2, .int 1 t3]) Q E s := by
  revert w pv LSv mean mg mb dp un gd cn cs a ccd cl outer A₀ base h₀ L m news s Q E b1 t1 t2 t3
  refine (?zh : ∀ w pv LSv mean mg mb dp un gd cn cs a ccd cl outer A₀ base h₀ L m news s Q E b1 t1 t2 t3, (?zP : _ → _ → _ → _ → _ → _ → _ → _ → _ → _ → _ → _ → _ → _ → _ → _ → _ → _ → _ → _ → _ → _ → _ → _ → _ → _ → _ → _ → Prop) w pv LSv mean mg mb dp un gd cn cs a ccd cl outer A₀ base h₀ L m news s Q E b1 t1 t2 t3)
  refine fun w pv LSv mean mg mb dp un gd cn cs a ccd cl outer A₀ base h₀ L m news s Q E b1 t1 t2 t3 => allE (P := un2 fun w => un2 fun pv => un2 fun LSv => un2 fun mean => un2 fun mg => un2 fun mb => un2 fun dp => un2 fun un => un2 fun gd => un2 fun cn => un2 fun cs => un2 fun a => un2 fun ccd => un2 fun cl => un2 fun outer => un2 fun A₀ => un2 fun base => un2 fun h₀ => un2 fun L => un2 fun m => un2 fun news => un2 fun s => un2 fun Q => un2 fun E => un2 fun b1 => un2 fun t1 => un2 fun t2 t3 => ?zP w pv LSv mean mg mb dp un gd cn cs a ccd cl outer A₀ base h₀ L m news s Q E b1 t1 t2 t3) ?zn ?zk (w, pv, LSv, mean, mg, mb, dp, un, gd, cn, cs, a, ccd, cl, outer, A₀, base, h₀, L, m, news, s, Q, E, b1, t1, t2, t3)
  case zn => walk_at "ne"
  clear w pv LSv mean mg mb dp un gd cn cs a ccd cl outer A₀ base h₀ L m news s Q E b1 t1 t2 t3
  refine (?zj : AtE _ ?zE)
  refine (?zF : ∀ w pv LSv mean mg mb dp un gd cn cs a ccd cl outer A₀ base h₀ L m news s Q E b1 t1 t2 t3, ?zP w pv LSv mean mg mb dp un gd cn cs a ccd cl outer A₀ base h₀ L m news s Q E b1 t1 t2 t3) ?zE.1 ?zE.2.1 ?zE.2.2.1 ?zE.2.2.2.1 ?zE.2.2.2.2.1 ?zE.2.2.2.2.2.1 ?zE.2.2.2.2.2.2.1 ?zE.2.2.2.2.2.2.2.1 ?zE.2.2.2.2.2.2.2.2.1 ?zE.2.2.2.2.2.2.2.2.2.1 ?zE.2.2.2.2.2.2.2.2.2.2.1 ?zE.2.2.2.2.2.2.2.2.2.2.2.1 ?zE.2.2.2.2.2.2.2.2.2.2.2.2.1 ?zE.2.2.2.2.2.2.2.2.2.2.2.2.2.1 ?zE.2.2.2.2.2.2.2.2.2.2.2.2.2.2.1 ?zE.2.2.2.2.2.2.2.2.2.2.2.2.2.2.2.1 ?zE.2.2.2.2.2.2.2.2.2.2.2.2.2.2.2.2.1 ?zE.2.2.2.2.2.2.2.2.2.2.2.2.2.2.2.2.2.1 ?zE.2.2.2.2.2.2.2.2.2.2.2.2.2.2.2.2.2.2.1 ?zE.2.2.2.2.2.2.2.2.2.2.2.2.2.2.2.2.2.2.2.1 ?zE.2.2.2.2.2.2.2.2.2.2.2.2.2.2.2.2.2.2.2.2.1 ?zE.2.2.2.2.2.2.2.2.2.2.2.2.2.2.2.2.2.2.2.2.2.1 ?zE.2.2.2.2.2.2.2.2.2.2.2.2.2.2.2.2.2.2.2.2.2.2.1 ?zE.2.2.2.2.2.2.2.2.2.2.2.2.2.2.2.2.2.2.2.2.2.2.2.1 ?zE.2.2.2.2.2.2.2.2.2.2.2.2.2.2.2.2.2.2.2.2.2.2.2.2.1 ?zE.2.2.2.2.2.2.2.2.2.2.2.2.2.2.2.2.2.2.2.2.2.2.2.2.2.1 ?zE.2.2.2.2.2.2.2.2.2.2.2.2.2.2.2.2.2.2.2.2.2.2.2.2.2.2.1 ?zE.2.2.2.2.2.2.2.2.2.2.2.2.2.2.2.2.2.2.2.2.2.2.2.2.2.2.2
  intros w pv LSv mean mg mb dp un gd cn cs a ccd cl outer A₀ base h₀ L m news s Q E b1 t1 t2 t3
  intro B F X N T hk hd1 hu hret
  revert X; k_fill; intro X
  refine wpAny_call ?_
  k_dflt walk_at "en"
  k_steps
  · exact (tf cz (by assumption)).elim
  all_goals (rename News h₀ L _ _ => kN9)
  all_goals (simp only [e_m2, e_m2', e_m1] at kN9)
  all_goals exact hret _ _ _ _ _ _ (by assumption) kN9 (by assumption)
  run_tac fin
end
end
section
noncomputable def spotR (mark size : Int) : UInt64 := vF 0 4607182418800017408 (Float64.add (Float64.mul (Float64.ofInt mark) (shareF size)) 4599676419421066581)
noncomputable def spotG (mark size : Int) : UInt64 := vF 0 4607182418800017408 (Float64.mul (Float64.ofInt mark) (shareF size))
noncomputable def spotB (mark size : Int) : UInt64 := vF 0 4607182418800017408 (Float64.sub (Float64.mul (Float64.ofInt mark) (shareF size)) 4599676419421066581)
noncomputable def spotX (mark size : Int) : UInt64 := Float64.add (Float64.mul (hlsH (spotR mark size) (spotG mark size) (spotB mark size)) (Float64.ofInt size)) 4602678819172646912
noncomputable def force (x : UInt64) (k : UInt64 → Bool) : Bool := match x.toNat with
  | 0 => k 0
  | m + 1 => k (UInt64.ofNat (m + 1))
theorem force_eq (x : UInt64) (k : UInt64 → Bool) : force x k = k x := by
  have e : UInt64.ofNat x.toNat = x := UInt64.ofNat_toNat
  unfold force
  split
  · rename_i h
    rw [h] at e
    rw [← e]; rfl
  · rename_i m h
    rw [h] at e
    rw [e]
noncomputable def vK (hue : UInt64) (k : UInt64 → Bool) : Bool :=
  force (Float64.divmod hue 4607182418800017408).snd fun h =>
  force (if (Float64.cmp h 4595172819793696085 == some .lt) = true then
    Float64.add 0 (Float64.mul (Float64.mul (Float64.sub 4607182418800017408 0) h) 4618441417868443648)
  else if (Float64.cmp h 4602678819172646912 == some .lt) = true then 4607182418800017408
  else if (Float64.cmp h 4604180019048437077 == some .lt) = true then
    Float64.add 0 (Float64.mul (Float64.mul (Float64.sub 4607182418800017408 0) (Float64.sub 4604180019048437077 h)) 4618441417868443648)
  else 0) k
theorem vK_eq (hue : UInt64) (k : UInt64 → Bool) : vK hue k = k (vF 0 4607182418800017408 hue) := by
  unfold vK; rw [force_eq, force_eq]; rfl
noncomputable def hK (r g b M m : UInt64) (k : UInt64 → Bool) : Bool :=
  force (Float64.sub M m) fun R => force (Float64.div (Float64.sub M r) R) fun rc => force (Float64.div (Float64.sub M g) R) fun gc => force (Float64.div (Float64.sub M b) R) fun bc =>
  force (if (Float64.cmp r M == some .eq) = true then Float64.sub bc gc
    else if (Float64.cmp g M == some .eq) = true then Float64.sub (Float64.add 4611686018427387904 rc) bc
    else Float64.sub (Float64.add 4616189618054758400 gc) rc) fun h =>
  force (Float64.div h 4618441417868443648) fun h6 => force (Float64.divmod h6 4607182418800017408).snd k
theorem hK_eq (r g b : UInt64) (k : UInt64 → Bool) : hK r g b (fmax2 (fmax2 r g) b) (fmin2 (fmin2 r g) b) k = k (hlsH r g b) := by
  unfold hK; simp only [force_eq]; rfl
noncomputable def spotTail (size mark : Int) (M m X : UInt64) : Bool :=
  !(Float64.cmp m M == some Ordering.eq) && !(Float64.isZero (Float64.add M m)) && !(Float64.isZero (Float64.sub M m)) && !(Float64.isZero (Float64.sub (Float64.sub 4611686018427387904 M) m)) &&
  Float64.isFinite X && !(Float64.isNaN X) && !(Float64.isInf X) && ((Flt.toInt Float64.truncOf X).fmod size == mark.fmod size)
noncomputable def spotOk (mark size : Int) : Bool :=
  force (shareF size) fun sh => force (Float64.mul (Float64.ofInt mark) sh) fun hue =>
  force (Float64.add hue 4599676419421066581) fun hr => force (Float64.sub hue 4599676419421066581) fun hb =>
  vK hr fun b1 => vK hue fun b2 => vK hb fun b3 =>
  force (fmax2 (fmax2 b1 b2) b3) fun M => force (fmin2 (fmin2 b1 b2) b3) fun m => hK b1 b2 b3 M m fun H =>
  force (Float64.add (Float64.mul H (Float64.ofInt size)) 4602678819172646912) fun X => spotTail size mark M m X
theorem spots_all : ((List.range 19).all fun i => (List.range 9).all fun j => spotOk ((i : Int) - 9) ((j : Int) + 1)) = true := by decide +kernel
theorem spot_ok {mark size : Int} (h1 : -9 ≤ mark) (h2 : mark ≤ 9) (h3 : 1 ≤ size) (h4 : size ≤ 9) : spotOk mark size = true := by
  have h := List.all_eq_true.mp (List.all_eq_true.mp spots_all (mark + 9).toNat (List.mem_range.mpr (by omega))) (size - 1).toNat (List.mem_range.mpr (by omega))
  have e1 : (((mark + 9).toNat : Nat) : Int) - 9 = mark := by omega
  have e2 : (((size - 1).toNat : Nat) : Int) + 1 = size := by omega
  rw [e1, e2] at h
  exact h
theorem spot_facts {mark size : Int} (h1 : -9 ≤ mark) (h2 : mark ≤ 9) (h3 : 1 ≤ size) (h4 : size ≤ 9) :
    (Float64.cmp (fmin2 (fmin2 (spotR mark size) (spotG mark size)) (spotB mark size)) (fmax2 (fmax2 (spotR mark size) (spotG mark size)) (spotB mark size)) == some Ordering.eq) = false ∧
    Float64.isZero (Float64.add (fmax2 (fmax2 (spotR mark size) (spotG mark size)) (spotB mark size)) (fmin2 (fmin2 (spotR mark size) (spotG mark size)) (spotB mark size))) = false ∧
    Float64.isZero (Float64.sub (fmax2 (fmax2 (spotR mark size) (spotG mark size)) (spotB mark size)) (fmin2 (fmin2 (spotR mark size) (spotG mark size)) (spotB mark size))) = false ∧
    Float64.isZero (Float64.sub (Float64.sub 4611686018427387904 (fmax2 (fmax2 (spotR mark size) (spotG mark size)) (spotB mark size))) (fmin2 (fmin2 (spotR mark size) (spotG mark size)) (spotB mark size))) = false ∧
    Float64.isFinite (spotX mark size) = true ∧ Float64.isNaN (spotX mark size) = false ∧ Float64.isInf (spotX mark size) = false ∧ (Flt.toInt Float64.truncOf (spotX mark size)).fmod size = mark.fmod size := by
  have h := spot_ok h1 h2 h3 h4
  simp only [spotOk, force_eq, vK_eq, hK_eq, spotTail, Bool.and_eq_true, Bool.not_eq_true', beq_iff_eq] at h
  obtain ⟨⟨⟨⟨⟨⟨⟨a, b⟩, c⟩, d⟩, e⟩, f⟩, g⟩, k⟩ := h
  refine ⟨?_, b, c, d, e, f, g, k⟩
  simpa [spotR, spotG, spotB] using a
end
section
theorem fresh_C9 : True := by w_top off; exact True.intro
set_option maxHeartbeats 8000000
theorem drop45 {h₀ h' : Heap} {L : Addr} {a b c d e : Addr × Obj} {news : List (Addr × Obj)} (h : News h₀ L h' (a :: b :: c :: d :: e :: news)) : News h₀ L h' (a :: b :: c :: news) := fun p hp => h p (by
  rcases List.mem_cons.mp hp with rfl | hp
  · exact .head _
  rcases List.mem_cons.mp hp with rfl | hp
  · exact .tail _ (.head _)
  rcases List.mem_cons.mp hp with rfl | hp
  · exact .tail _ (.tail _ (.head _))
  exact .tail _ (.tail _ (.tail _ (.tail _ (.tail _ hp)))))
noncomputable def Three (a : Int) : Prop := -3 ≤ a ∧ a ≤ 3
theorem three (c : Int) : Three (c.fmod 7 - 3) := by
  have h1 := Int.fmod_nonneg_of_pos c (b := 7) (by omega)
  have h2 := Int.fmod_lt_of_pos c (b := 7) (by omega)
  unfold Three; omega
section
variable {w : World} {pv : Program} {LSv : List Str} {mean : ExcName → Option Value} {mg mb : Str → Option Value}
    {dp un : Nat} {gd : Option (List Code)} {cn : Str} {cs : Scope} {a : Addr} {ccd : Value} {cl : List (Str × Addr)} {outer : List Env} {A₀ : Around} {base h₀ : Heap} {L : Addr} {m : Str → Option Value} {news : List (Addr × Obj)} {s : Shared}
    {Q E : Value → Shared → Prop}
theorem rows_C9_0 : True := by
  k_with_none
  k_with "CompEnd" => (k_here; k_dflt (refine end_gen (by k_asm) (by k_asm) (by assumption) (by lcg_src) ?_))
  k_with "PostM" => (dsimp only [PostM])
  k_with "exec For Name Call cons nil" => refine hold_out ?_
  k_with "getItem ref int" => (k_here; (with_reducible show wpAny _ _ (getItem (Value.ref _) (Value.int _ _)) _ _ _); k_dflt (refine' ksa_get ?k1 ?k2 ?k3 ?k4 ?k5 ?k6 ?_; (case k1 => k_asm); (case k2 => k_mem); (case k3 => assumption); (case k4 => omega); (case k5 => omega); (case k6 => omega); k_whole); intro tQq7)
  k_with "setItem ref int" => (k_here; (with_reducible show wpAny _ _ (setItem (Value.ref _) (Value.int _ _) (Value.int _ _)) _ _ _); k_dflt (refine' ksa_set ?k1 ?k2 ?k3 ?k4 ?k5 ?k6 ?k7 ?_; (case k1 => k_asm); (case k2 => k_asm); (case k3 => k_upd); (case k4 => assumption); (case k5 => omega); (case k6 => omega); (case k7 => omega); k_whole); intro hQq7 FQq7 NQq7 hiQq7 hlQq7 hsQq7; (try k_sweep))
  exact True.intro
theorem rings_spec {l : Addr} {vs : List Value} {ns : List Int} (B : Below A₀ base outer h₀) (F : Fr h₀ L s.heap m) (X : (hd.heap_39 w.params).In h₀) (N : News h₀ L s.heap news) (T : Top pv LSv mean mg mb h₀) (hk : cs.kind = .function)
    (hd1 : dp + 1 < recursionLimit) (hu : un + 100 < cLine) (hl : h₀.IsList l vs.toArray) (hi : IntsAre vs ns) (hn : ns.length ≤ 63)
    (hret : ∀ x y z a0 a1 a2 b0 b1 b2 t0 t1 t2 t3 t4 t5 h' tk', Fr h₀ L h' m → News h₀ L h' ((x, listOf #[.ref y, .ref z] 0) :: (z, listOf #[.int b0 t3, .int b1 t4, .int b2 t5] 0) :: (y, listOf #[.int a0 t0, .int a1 t1, .int a2 t2] 0) :: news) → Three a0 → Three a1 → Three a2 → Three b0 → Three b1 → Three b2 → @LT.lt Nat _ z x → @LT.lt Nat _ y z → (∀ q ∈ news, q.1 < y) → Q (.ref x) { s with heap := h', toks := tk' }) :
    wpAny (model PySem.Challenge.rw_rl0132_01.prog w) (ktrTop dp un gd cn cs L a ccd cl outer) (call (.ref 281) [.ref l]) Q E s := by
  revert w pv LSv mean mg mb dp un gd cn cs a ccd cl outer A₀ base h₀ L m news s Q E l vs ns
  refine (?zh : ∀ w pv LSv mean mg mb dp un gd cn cs a ccd cl outer A₀ base h₀ L m news s Q E l vs ns, (?zP : _ → _ → _ → _ → _ → _ → _ → _ → _ → _ → _ → _ → _ → _ → _ → _ → _ → _ → _ → _ → _ → _ → _ → _ → _ → _ → _ → Prop) w pv LSv mean mg mb dp un gd cn cs a ccd cl outer A₀ base h₀ L m news s Q E l vs ns)
  refine fun w pv LSv mean mg mb dp un gd cn cs a ccd cl outer A₀ base h₀ L m news s Q E l vs ns => allE (P := un2 fun w => un2 fun pv => un2 fun LSv => un2 fun mean => un2 fun mg => un2 fun mb => un2 fun dp => un2 fun un => un2 fun gd => un2 fun cn => un2 fun cs => un2 fun a => un2 fun ccd => un2 fun cl => un2 fun outer => un2 fun A₀ => un2 fun base => un2 fun h₀ => un2 fun L => un2 fun m => un2 fun news => un2 fun s => un2 fun Q => un2 fun E => un2 fun l => un2 fun vs ns => ?zP w pv LSv mean mg mb dp un gd cn cs a ccd cl outer A₀ base h₀ L m news s Q E l vs ns) ?zn ?zk (w, pv, LSv, mean, mg, mb, dp, un, gd, cn, cs, a, ccd, cl, outer, A₀, base, h₀, L, m, news, s, Q, E, l, vs, ns)
  case zn => walk_at "ne"
  clear w pv LSv mean mg mb dp un gd cn cs a ccd cl outer A₀ base h₀ L m news s Q E l vs ns
  refine (?zj : AtE _ ?zE)
  refine (?zF : ∀ w pv LSv mean mg mb dp un gd cn cs a ccd cl outer A₀ base h₀ L m news s Q E l vs ns, ?zP w pv LSv mean mg mb dp un gd cn cs a ccd cl outer A₀ base h₀ L m news s Q E l vs ns) ?zE.1 ?zE.2.1 ?zE.2.2.1 ?zE.2.2.2.1 ?zE.2.2.2.2.1 ?zE.2.2.2.2.2.1 ?zE.2.2.2.2.2.2.1 ?zE.2.2.2.2.2.2.2.1 ?zE.2.2.2.2.2.2.2.2.1 ?zE.2.2.2.2.2.2.2.2.2.1 ?zE.2.2.2.2.2.2.2.2.2.2.1 ?zE.2.2.2.2.2.2.2.2.2.2.2.1 ?zE.2.2.2.2.2.2.2.2.2.2.2.2.1 ?zE.2.2.2.2.2.2.2.2.2.2.2.2.2.1 ?zE.2.2.2.2.2.2.2.2.2.2.2.2.2.2.1 ?zE.2.2.2.2.2.2.2.2.2.2.2.2.2.2.2.1 ?zE.2.2.2.2.2.2.2.2.2.2.2.2.2.2.2.2.1 ?zE.2.2.2.2.2.2.2.2.2.2.2.2.2.2.2.2.2.1 ?zE.2.2.2.2.2.2.2.2.2.2.2.2.2.2.2.2.2.2.1 ?zE.2.2.2.2.2.2.2.2.2.2.2.2.2.2.2.2.2.2.2.1 ?zE.2.2.2.2.2.2.2.2.2.2.2.2.2.2.2.2.2.2.2.2.1 ?zE.2.2.2.2.2.2.2.2.2.2.2.2.2.2.2.2.2.2.2.2.2.1 ?zE.2.2.2.2.2.2.2.2.2.2.2.2.2.2.2.2.2.2.2.2.2.2.1 ?zE.2.2.2.2.2.2.2.2.2.2.2.2.2.2.2.2.2.2.2.2.2.2.2.1 ?zE.2.2.2.2.2.2.2.2.2.2.2.2.2.2.2.2.2.2.2.2.2.2.2.2.1 ?zE.2.2.2.2.2.2.2.2.2.2.2.2.2.2.2.2.2.2.2.2.2.2.2.2.2.1 ?zE.2.2.2.2.2.2.2.2.2.2.2.2.2.2.2.2.2.2.2.2.2.2.2.2.2.2
  intros w pv LSv mean mg mb dp un gd cn cs a ccd cl outer A₀ base h₀ L m news s Q E l vs ns
  intro B F X N T hk hd1 hu hl hi hn hret
  revert X; k_fill; intro X
  refine wpAny_call ?_
  k_dflt ktr_enter
  (rename Fr h₀ L _ _ => FG9)
  have hl2 := hl.at (fun o e => FG9.keep l o e)
  k_steps
  refine hold_in ?_
  (rename Fr _ _ _ _ => lF'); (rename News _ _ _ _ => lN')
  k_dflt (refine For_rng lF' [] (fun j ps nx g => g = s.gens ∧ ∃ D us k cs, ps = [(Str.ofString "cells", .ref D)] ∧ nx = (D, listOf us.toArray k) :: news ∧ IntsAre us cs ∧ cs.length = 6 ∧ ∀ q ∈ news, q.1 < D) rfl rfl rfl ?_)
  k_steps
  (rename Fr _ _ _ _ => lF'); (rename News _ _ _ _ => lN'); (rename IsRange _ _ _ _ _ _ _ _ => rgX)
  have hb9 : (ns.length : Int) ≤ 63 := by omega
  k_dflt (refine' rng_intro1 (Str.ofString "cells") ?hr ?hF ?hN ?hz ?hb ?hR ?turn ?done; (case hr => exact rgX); (case hF => exact lF'); (case hN => exact lN'); (case hz => exact rfl); (case hb => exact ⟨by omega, by omega, by omega, by omega⟩); (case hR => exact ⟨rfl, _, _, _, _, rfl, rfl, by l_ints, rfl, by assumption⟩))
  case turn =>
    intro j t ps nx u h g tk I oI hj hlt hne hR F' N'
    (change (let G9 : Prop := _; G9)); intro G9
    obtain ⟨rfl, D, us, k, cs, rfl, rfl, hus, hcs, hD⟩ := hR
    unfold G9; (try clear G9)
    have hDI : @Ne Nat D I := hne _ (List.Mem.head _)
    have e1 : 0 ≤ (0 + (j : Int)).fmod 6 := Int.fmod_nonneg (by omega) (by omega)
    have e2 : (0 + (j : Int)).fmod 6 < 6 := Int.fmod_lt_of_pos _ (by omega)
    k_steps
    (rename Fr _ _ _ _ => lF'); (rename News _ _ _ _ => lN')
    exact end_intro1 (Str.ofString "cells") lF' lN' (by k_mem) rfl (by intro z h1 h2 h3; simp only [if_neg h1, if_neg h3, upd, h2, Bool.false_eq_true, if_false]) ⟨rfl, D, _, _, _, rfl, rfl, by assumption, by omega, hD⟩ (by intro p hp; k_mem) (by intro p hp; rcases List.mem_cons.mp hp with rfl | hp; exact hDI; exact hne p (.tail _ hp))
  case done =>
    intro ps nx u h g tk hR F' N'
    (change (let G9 : Prop := _; G9)); intro G9
    obtain ⟨rfl, D, us, k, cs, rfl, rfl, hus, hcs, hD⟩ := hR
    unfold G9; (try clear G9)
    (change (let G9 : Prop := _; G9)); intro G9
    obtain ⟨c0, c1, c2, c3, c4, c5, t0, t1, t2, t3, t4, t5, rfl, rfl⟩ := ints6 hus hcs
    unfold G9; (try clear G9)
    clear hus hcs
    k_steps
    (rename News h₀ L _ _ => kN9); (rename Fr h₀ L _ _ => kF9)
    exact hret _ _ _ _ _ _ _ _ _ _ _ _ _ _ _ _ _ kF9 (drop45 kN9) (three c0) (three c1) (three c2) (three c3) (three c4) (three c5) (by omega) (by omega) (allLt_mem (And.right (And.right (by assumption))))
  run_tac fin
end
end
section
theorem fresh_C10 : True := by w_top off; exact True.intro
set_option maxHeartbeats 8000000
theorem offCell {L' : Addr} {l : List (Addr × Obj)} (h : ∀ p ∈ l, p.1 < L') : ∀ p ∈ l, p.1 ≠ L' + 1 := fun p hp e => by have := h p hp; rw [e] at this; exact absurd this (by show ¬ (@LT.lt Nat _ (L' + 1) L'); omega)
local macro_rules | `(tactic| k_all) => `(tactic| exact offCell (by assumption))
inductive Phase2 : Prop where
  | mk : Phase2
theorem drop3 {h₀ h' : Heap} {L : Addr} {a b c : Addr × Obj} {news : List (Addr × Obj)} (h : News h₀ L h' (a :: b :: c :: news)) : News h₀ L h' (a :: b :: news) := fun p hp => h p (by
  rcases List.mem_cons.mp hp with rfl | hp
  · exact .head _
  rcases List.mem_cons.mp hp with rfl | hp
  · exact .tail _ (.head _)
  exact .tail _ (.tail _ (.tail _ hp)))
noncomputable def belowL (rs : List Int) (i : Nat) : List Int := ((List.range i).filter fun k => decide (rs.getD k 0 < 0)).map Int.ofNat
theorem ints_snoc {ys : List Value} {ks : List Int} (h : IntsAre ys ks) (k : Int) (t : Tok) : IntsAre (ys ++ [.int k t]) (ks ++ [k]) := by
  induction h with
  | nil => exact .cons _ _ .nil
  | cons n t _ ih => exact .cons _ _ ih
theorem belowL_succ (rs : List Int) (i : Nat) : belowL rs (i + 1) = belowL rs i ++ (if rs.getD i 0 < 0 then [(i : Int)] else []) := by
  unfold belowL
  rw [List.range_succ, List.filter_append, List.map_append]
  congr 1
  by_cases h : rs.getD i 0 < 0
  · rw [if_pos h, List.filter_cons_of_pos (by simpa using h)]; rfl
  · rw [if_neg h, List.filter_cons_of_neg (by simpa using h)]; rfl
theorem below_yes {rs : List Int} {ys : List Value} {i : Nat} {t : Tok} (h : IntsAre ys (belowL rs i)) (k : rs.getD (0 + (i : Int)).toNat 0 < 0) : IntsAre (ys ++ [.int (0 + (i : Int)) t]) (belowL rs (i + 1)) := by
  rw [z_add] at k
  rw [belowL_succ, if_pos k, Int.zero_add]
  exact ints_snoc h _ _
theorem below_no {rs : List Int} {ys : List Value} {i : Nat} (h : IntsAre ys (belowL rs i)) (k : ¬ rs.getD (0 + (i : Int)).toNat 0 < 0) : IntsAre ys (belowL rs (i + 1)) := by
  rw [z_add] at k
  rw [belowL_succ, if_neg k, List.append_nil]
  exact h
noncomputable def Picked (k r0 r1 r2 r3 : Int) : Prop := (k = 0 ∧ r0 < 0) ∨ (k = 1 ∧ r1 < 0) ∨ (k = 2 ∧ r2 < 0) ∨ (k = 3 ∧ r3 < 0)
theorem below_len {r0 r1 r2 r3 : Int} {M : Int} (h : M ∈ [r0, r1, r2, r3]) (hM : M < 0) : 1 ≤ (belowL [r0, r1, r2, r3] 4).length ∧ (belowL [r0, r1, r2, r3] 4).length ≤ 4 := by
  simp only [List.mem_cons, List.not_mem_nil, or_false] at h
  simp only [belowL_succ, List.length_append, List.getD_cons_zero, List.getD_cons_succ]
  have : (belowL [r0, r1, r2, r3] 0).length = 0 := rfl
  rw [this]
  constructor
  · split <;> split <;> split <;> split <;> simp <;> omega
  · split <;> split <;> split <;> split <;> simp
theorem below_pick {r0 r1 r2 r3 : Int} {j : Nat} (h : j < (belowL [r0, r1, r2, r3] 4).length) : Picked ((belowL [r0, r1, r2, r3] 4).getD j 0) r0 r1 r2 r3 := by
  have hm : (belowL [r0, r1, r2, r3] 4).getD j 0 ∈ belowL [r0, r1, r2, r3] 4 := by
    rw [List.getD_eq_getElem?_getD, List.getElem?_eq_getElem h]
    exact List.getElem_mem h
  generalize (belowL [r0, r1, r2, r3] 4).getD j 0 = k at hm
  unfold belowL at hm
  (change (let G9 : Prop := _; G9)); intro G9
  obtain ⟨i, hi, rfl⟩ := List.mem_map.mp hm
  unfold G9; (try clear G9)
  (change (let G9 : Prop := _; G9)); intro G9
  obtain ⟨h1, h2⟩ := List.mem_filter.mp hi
  unfold G9; (try clear G9)
  have h3 : i < 4 := List.mem_range.mp h1
  have h4 := of_decide_eq_true h2
  unfold Picked
  match i, h3, h4 with
  | 0, _, h4 => exact .inl ⟨rfl, h4⟩
  | 1, _, h4 => exact .inr (.inl ⟨rfl, h4⟩)
  | 2, _, h4 => exact .inr (.inr (.inl ⟨rfl, h4⟩))
  | 3, _, h4 => exact .inr (.inr (.inr ⟨rfl, h4⟩))
theorem same9 {m₀ u : Str → Option Value} {z : Str} {vv w : Value} {a b c : Option Value} (h2 : ∀ p ∈ [(Str.ofString "turns", vv)], z ≠ p.1) (h3 : [Str.ofString "below", Str.ofString "k"].contains z = false) :
    (if z = Str.ofString "turns" then a else if z = Str.ofString "k" then b else if z = Str.ofString "below" then c else kstB (fun z => if [Str.ofString "below", Str.ofString "k"].contains z = true then u z else m₀ z) [(Str.ofString "turns", w)] z) = m₀ z := by
  have h4 : z ≠ Str.ofString "turns" := h2 _ (.head _)
  (change (let G9 : Prop := _; G9)); intro G9
  obtain ⟨h5, h6⟩ := tmp2 h3
  unfold G9; (try clear G9)
  rw [if_neg h4, if_neg h6, if_neg h5]
  simp only [kstB, if_neg h4, h3, Bool.false_eq_true, if_false]
structure PlaySt where
  n : Int
  r0 : Int
  r1 : Int
  r2 : Int
  r3 : Int
  u0 : Tok
  u1 : Tok
  u2 : Tok
  u3 : Tok
  tn : Tok
theorem dropX {h₀ h' : Heap} {L : Addr} {a b : Addr × Obj} {news : List (Addr × Obj)} (h : News h₀ L h' (a :: b :: news)) : News h₀ L h' (a :: news) := fun p hp => h p (by
  rcases List.mem_cons.mp hp with rfl | hp
  · exact .head _
  exact .tail _ (.tail _ hp))
theorem playW {prog : Program} {w : World} {A : Around} {E : Value → Shared → Prop} {Q : Flow → Shared → Prop} {s : Shared} {env : Env} {h₀ : Heap} {L : Addr} {D cA : Addr} {o : Obj} {X : Addr × Obj} {news : List (Addr × Obj)} {test : PySem.Expr} {body : List Stmt} {pos : Pos} {m₀ : Str → Option Value} (P : PlaySt → Prop) (μ : PlaySt → Nat)
    {n r0 r1 r2 r3 : Int} {u0 u1 u2 u3 tn : Tok} (F : Fr h₀ L s.heap m₀) (N : News h₀ L s.heap ((D, listOf #[.int r0 u0, .int r1 u1, .int r2 u2, .int r3 u3] 0) :: X :: (cA, o) :: news)) (hk : m₀ (Str.ofString "turns") = some (.int n tn)) (hp : P ⟨n, r0, r1, r2, r3, u0, u1, u2, u3, tn⟩)
    (turn : ∀ n r0 r1 r2 r3 u0 u1 u2 u3 tn (u : Str → Option Value) h tk, P ⟨n, r0, r1, r2, r3, u0, u1, u2, u3, tn⟩ → Fr h₀ L h (kstB (fun z => if [Str.ofString "below", Str.ofString "k"].contains z then u z else m₀ z) [(Str.ofString "turns", .int n tn)]) → News h₀ L h ((D, listOf #[.int r0 u0, .int r1 u1, .int r2 u2, .int r3 u3] 0) :: (cA, o) :: news) →
      wpAny (model prog w) A (isTrue test env (eval test env)) (fun b s₂ =>
        if b = true then wpAny (model prog w) A (execs body env) (KswPost h₀ L s (fun c : PlaySt => (D, listOf #[.int c.r0 c.u0, .int c.r1 c.u1, .int c.r2 c.u2, .int c.r3 c.u3] 0) :: (cA, o) :: news) (fun c : PlaySt => [(Str.ofString "turns", .int c.n c.tn)]) (fun _ => True) [Str.ofString "below", Str.ofString "k"] m₀ P μ Q ⟨n, r0, r1, r2, r3, u0, u1, u2, u3, tn⟩) E s₂ else Q .next s₂) E { s with heap := h, toks := tk })
    (hE : PassesOwn (model prog w) A env E := by passes_own) :
    wpAny (model prog w) A (exec (.While test body [] pos) env) Q E s :=
  ksw_while (fun c : PlaySt => (D, listOf #[.int c.r0 c.u0, .int c.r1 c.u1, .int c.r2 c.u2, .int c.r3 c.u3] 0) :: (cA, o) :: news) (fun c : PlaySt => [(Str.ofString "turns", .int c.n c.tn)]) (fun _ => True) [Str.ofString "below", Str.ofString "k"] P μ ⟨n, r0, r1, r2, r3, u0, u1, u2, u3, tn⟩
    F (dropX N) trivial (fun p hp => by rcases List.mem_singleton.mp hp with rfl; exact hk) hp (fun c u h tk _ hP F' N' => turn c.n c.r0 c.r1 c.r2 c.r3 c.u0 c.u1 c.u2 c.u3 c.tn u h tk hP F' N') hE
section
variable {w : World} {pv : Program} {LSv : List Str} {mean : ExcName → Option Value} {mg mb : Str → Option Value}
    {dp un : Nat} {gd : Option (List Code)} {cn : Str} {cs : Scope} {a : Addr} {ccd : Value} {cl : List (Str × Addr)} {outer : List Env} {A₀ : Around} {base h₀ : Heap} {L : Addr} {m : Str → Option Value} {news : List (Addr × Obj)} {s : Shared}
    {Q E : Value → Shared → Prop}
theorem rows_C10_0 : True := by
  k_with_none
  k_with "CompEnd" => (k_here; k_dflt (refine end_gen (by k_asm) (by k_asm) (by assumption) (by lcg_src) ?_))
  k_with "call builtin:sum" => (k_here; (with_reducible show wpAny _ _ (call (Value.builtin _) [Value.ref _]) _ _ _); k_dflt (refine' sum_N ?k0 ?k1 ?k2 ?k3 ?k4 ?_; (case k0 => rfl); (case k1 => k_asm); (case k2 => k_asm); (case k3 => k_mem); (case k4 => first | assumption | l_ints); k_whole); intro hQq7 tkQq7 tQq7 FQq7 NQq7; (try k_sweep))
  k_with "call builtin:min" => (k_here; (with_reducible show wpAny _ _ (call (Value.builtin _) [Value.ref _]) _ _ _); k_dflt (refine' min_N ?k0 ?k1 ?k2 ?k3 ?k4 ?k5 ?_; (case k0 => rfl); (case k1 => k_asm); (case k2 => k_asm); (case k3 => k_mem); (case k4 => first | assumption | l_ints); (case k5 => first | omega | exact Nat.zero_lt_succ _); k_whole); intro hQq7 MQq7 tQq7 tkQq7 FQq7 NQq7 aQq7 bQq7; (try k_sweep))
  k_with "exec While Compare" => refine hold_out ?_
  k_with "subscriptTail" => ((fail_if_success (have : Phase2 := by assumption)); k_here; (with_reducible show wpAny _ _ (subscriptTail _ _ (Value.ref _) (Value.int _ _)) _ _ _); k_dflt (refine' ksa_sub ?k1 ?k2 ?k3 ?k4 ?k5 ?k6 ?_ ?k7; (case k1 => k_asm); (case k2 => k_mem); (case k3 => assumption); (case k4 => omega); (case k5 => first | omega | (simp only [List.length_cons, List.length_nil]; omega)); (case k6 => omega); (case k7 => with_unfolding_all rfl); k_whole); intro tQq7)
  k_with "exec Assign cons ListComp" => refine hold_out ?_
  k_with "CompSrcT" => refine hold_out ?_
  k_with "exec AugAssign Subscript" => ((fail_if_success (have : Phase2 := by assumption)); refine hold_out ?_)
  k_with "call builtin:len" => (k_here; (with_reducible show wpAny _ _ (call (Value.builtin "len") [Value.ref _]) _ _ _); k_dflt (refine' len_listN ?k1 ?k2 ?k3 ?k4 ?_; (case k1 => k_asm); (case k2 => k_mem); (case k3 => assumption); (case k4 => omega); k_whole); intro tQq7 tkQq7)
  k_with "subscriptTail Name Name ref int" => ((fail_if_success (fail_if_success (have : Phase2 := by assumption))); k_here; (with_reducible show wpAny _ _ (subscriptTail _ _ (Value.ref _) (Value.int _ _)) _ _ _); k_dflt (refine' item_listL ?k1 ?k2 ?k3 ?k4 ?_; (case k1 => exact News.isList (by k_asm) (by k_mem)); (case k2 => decide); (case k3 => decide); (case k4 => rfl)))
  exact True.intro
theorem play_spec {l pk : Addr} {z : Int} {tz t0 t1 t2 : Tok} {k0 : Nat} {a0 a1 a2 : Int} {vs : List Value} {ns : List Int} (B : Below A₀ base outer h₀) (F : Fr h₀ L s.heap m) (X : (hd.heap_39 w.params).In h₀) (N : News h₀ L s.heap news) (T : Top pv LSv mean mg mb h₀) (hk : cs.kind = .function)
    (hd1 : dp + 1 < recursionLimit) (hu : un + 100 < cLine) (hl : (l, listOf #[.int a0 t0, .int a1 t1, .int a2 t2] 0) ∈ news) (hp : (pk, listOf vs.toArray k0) ∈ news) (hi : IntsAre vs ns) (hn : ns.length ≤ 64) (hn1 : 1 ≤ ns.length) (hz1 : 1 ≤ z) (hz9 : z ≤ 9)
    (hret : ∀ x D n r0 r1 r2 r3 tn u0 u1 u2 u3 h' tk', Fr h₀ L h' m → News h₀ L h' ((x, tupO [.int n tn, .ref D]) :: (D, listOf #[.int r0 u0, .int r1 u1, .int r2 u2, .int r3 u3] 0) :: news) → PlayEnd z a0 a1 a2 n r0 r1 r2 r3 → @LT.lt Nat _ D x → (∀ q ∈ news, q.1 < D) → Q (.ref x) { s with heap := h', toks := tk' }) :
    wpAny (model PySem.Challenge.rw_rl0132_01.prog w) (ktrTop dp un gd cn cs L a ccd cl outer) (call (.ref 286) [.ref l, .int z tz, .ref pk]) Q E s := by
  revert w pv LSv mean mg mb dp un gd cn cs a ccd cl outer A₀ base h₀ L m news s Q E l pk z tz t0 t1 t2 k0 a0 a1 a2 vs ns
  refine (?zh : ∀ w pv LSv mean mg mb dp un gd cn cs a ccd cl outer A₀ base h₀ L m news s Q E l pk z tz t0 t1 t2 k0 a0 a1 a2 vs ns, (?zP : _ → _ → _ → _ → _ → _ → _ → _ → _ → _ → _ → _ → _ → _ → _ → _ → _ → _ → _ → _ → _ → _ → _ → _ → _ → _ → _ → _ → _ → _ → _ → _ → _ → _ → _ → _ → _ → Prop) w pv LSv mean mg mb dp un gd cn cs a ccd cl outer A₀ base h₀ L m news s Q E l pk z tz t0 t1 t2 k0 a0 a1 a2 vs ns)
  refine fun w pv LSv mean mg mb dp un gd cn cs a ccd cl outer A₀ base h₀ L m news s Q E l pk z tz t0 t1 t2 k0 a0 a1 a2 vs ns => allE (P := un2 fun w => un2 fun pv => un2 fun LSv => un2 fun mean => un2 fun mg => un2 fun mb => un2 fun dp => un2 fun un => un2 fun gd => un2 fun cn => un2 fun cs => un2 fun a => un2 fun ccd => un2 fun cl => un2 fun outer => un2 fun A₀ => un2 fun base => un2 fun h₀ => un2 fun L => un2 fun m => un2 fun news => un2 fun s => un2 fun Q => un2 fun E => un2 fun l => un2 fun pk => un2 fun z => un2 fun tz => un2 fun t0 => un2 fun t1 => un2 fun t2 => un2 fun k0 => un2 fun a0 => un2 fun a1 => un2 fun a2 => un2 fun vs ns => ?zP w pv LSv mean mg mb dp un gd cn cs a ccd cl outer A₀ base h₀ L m news s Q E l pk z tz t0 t1 t2 k0 a0 a1 a2 vs ns) ?zn ?zk (w, pv, LSv, mean, mg, mb, dp, un, gd, cn, cs, a, ccd, cl, outer, A₀, base, h₀, L, m, news, s, Q, E, l, pk, z, tz, t0, t1, t2, k0, a0, a1, a2, vs, ns)
  case zn => walk_at "ne"
  clear w pv LSv mean mg mb dp un gd cn cs a ccd cl outer A₀ base h₀ L m news s Q E l pk z tz t0 t1 t2 k0 a0 a1 a2 vs ns
  refine (?zj : AtE _ ?zE)
  refine (?zF : ∀ w pv LSv mean mg mb dp un gd cn cs a ccd cl outer A₀ base h₀ L m news s Q E l pk z tz t0 t1 t2 k0 a0 a1 a2 vs ns, ?zP w pv LSv mean mg mb dp un gd cn cs a ccd cl outer A₀ base h₀ L m news s Q E l pk z tz t0 t1 t2 k0 a0 a1 a2 vs ns) ?zE.1 ?zE.2.1 ?zE.2.2.1 ?zE.2.2.2.1 ?zE.2.2.2.2.1 ?zE.2.2.2.2.2.1 ?zE.2.2.2.2.2.2.1 ?zE.2.2.2.2.2.2.2.1 ?zE.2.2.2.2.2.2.2.2.1 ?zE.2.2.2.2.2.2.2.2.2.1 ?zE.2.2.2.2.2.2.2.2.2.2.1 ?zE.2.2.2.2.2.2.2.2.2.2.2.1 ?zE.2.2.2.2.2.2.2.2.2.2.2.2.1 ?zE.2.2.2.2.2.2.2.2.2.2.2.2.2.1 ?zE.2.2.2.2.2.2.2.2.2.2.2.2.2.2.1 ?zE.2.2.2.2.2.2.2.2.2.2.2.2.2.2.2.1 ?zE.2.2.2.2.2.2.2.2.2.2.2.2.2.2.2.2.1 ?zE.2.2.2.2.2.2.2.2.2.2.2.2.2.2.2.2.2.1 ?zE.2.2.2.2.2.2.2.2.2.2.2.2.2.2.2.2.2.2.1 ?zE.2.2.2.2.2.2.2.2.2.2.2.2.2.2.2.2.2.2.2.1 ?zE.2.2.2.2.2.2.2.2.2.2.2.2.2.2.2.2.2.2.2.2.1 ?zE.2.2.2.2.2.2.2.2.2.2.2.2.2.2.2.2.2.2.2.2.2.1 ?zE.2.2.2.2.2.2.2.2.2.2.2.2.2.2.2.2.2.2.2.2.2.2.1 ?zE.2.2.2.2.2.2.2.2.2.2.2.2.2.2.2.2.2.2.2.2.2.2.2.1 ?zE.2.2.2.2.2.2.2.2.2.2.2.2.2.2.2.2.2.2.2.2.2.2.2.2.1 ?zE.2.2.2.2.2.2.2.2.2.2.2.2.2.2.2.2.2.2.2.2.2.2.2.2.2.1 ?zE.2.2.2.2.2.2.2.2.2.2.2.2.2.2.2.2.2.2.2.2.2.2.2.2.2.2.1 ?zE.2.2.2.2.2.2.2.2.2.2.2.2.2.2.2.2.2.2.2.2.2.2.2.2.2.2.2.1 ?zE.2.2.2.2.2.2.2.2.2.2.2.2.2.2.2.2.2.2.2.2.2.2.2.2.2.2.2.2.1 ?zE.2.2.2.2.2.2.2.2.2.2.2.2.2.2.2.2.2.2.2.2.2.2.2.2.2.2.2.2.2.1 ?zE.2.2.2.2.2.2.2.2.2.2.2.2.2.2.2.2.2.2.2.2.2.2.2.2.2.2.2.2.2.2.1 ?zE.2.2.2.2.2.2.2.2.2.2.2.2.2.2.2.2.2.2.2.2.2.2.2.2.2.2.2.2.2.2.2.1 ?zE.2.2.2.2.2.2.2.2.2.2.2.2.2.2.2.2.2.2.2.2.2.2.2.2.2.2.2.2.2.2.2.2.1 ?zE.2.2.2.2.2.2.2.2.2.2.2.2.2.2.2.2.2.2.2.2.2.2.2.2.2.2.2.2.2.2.2.2.2.1 ?zE.2.2.2.2.2.2.2.2.2.2.2.2.2.2.2.2.2.2.2.2.2.2.2.2.2.2.2.2.2.2.2.2.2.2.1 ?zE.2.2.2.2.2.2.2.2.2.2.2.2.2.2.2.2.2.2.2.2.2.2.2.2.2.2.2.2.2.2.2.2.2.2.2.1 ?zE.2.2.2.2.2.2.2.2.2.2.2.2.2.2.2.2.2.2.2.2.2.2.2.2.2.2.2.2.2.2.2.2.2.2.2.2
  intros w pv LSv mean mg mb dp un gd cn cs a ccd cl outer A₀ base h₀ L m news s Q E l pk z tz t0 t1 t2 k0 a0 a1 a2 vs ns
  intro B F X N T hk hd1 hu hl hp hi hn hn1 hz1 hz9 hret
  revert X; k_fill; intro X
  refine wpAny_call ?_
  k_dflt (refine' code_defC ?k1 ?k2 ?k3 ?k4 ?k5 ?kA ?kF ?kK ?k6 ?k7 ?k8 ?k9 ?kB ?kD ?_ ?c2 ?c3 ?c4; (case kA => exact rfl); (case kF => exact rfl); (case kK => assumption); (case k1 => k_asm); (case k2 => k_asm); (case k3 => k_asm); (case k4 => k_asm); (case k5 => k_asm); (case k6 => k_is); (case k7 => k_is); (case k8 => ktr_room); (case k9 => exact BindsTo.of_eq rfl); (case kB => exact rfl); (case kD => decide +kernel); (case c2 => exact rfl); (case c3 => exact rfl); (case c4 => exact rfl); k_whole; walk_at "e5"; intro g' L' h' tk' cells' FG' F' N' Y' B' X' T' l1; (try k_lt l1); k_cells Y'; (try simp only [List.cons_append, List.nil_append] at N'); (try dsimp only); (try k_fold))
  k_steps
  refine hold_in ?_
  (rename Fr _ _ _ _ => lF'); (rename News _ _ _ _ => lN')
  k_dflt (refine playW (fun c => PlayInv z a0 a1 a2 c.n c.r0 c.r1 c.r2 c.r3) (fun c => playMu z c.r0 c.r1 c.r2) lF' lN' rfl PlayInv.start ?_)
  clear lF' lN'
  intro n r0 r1 r2 r3 u0 u1 u2 u3 tn u h tk hP F' N'
  have hI9 : IntsAre [.int r0 u0, .int r1 u1, .int r2 u2, .int r3 u3] [r0, r1, r2, r3] := .cons _ _ (.cons _ _ (.cons _ _ (.cons _ _ .nil)))
  k_steps
  · refine hold_in ?_
    k_dflt (refine LCt.Assign_ListComp_T (F₀ := by k_asm) (by rfl) (by with_unfolding_all rfl) (by with_unfolding_all rfl) (by decide) (by rfl) (by decide) (by rfl) (by rfl) (by rfl) ?_)
    k_steps
    refine hold_in ?_
    k_dflt (refine LCt.CompSrcT.range (by rfl) (by k_asm) (by k_asm) (by assumption) (by first | decide | rfl) (n := 4) (by first | rfl | decide) (by first | size_fits | exact Nat.le_of_ble_eq_true rfl) ?_)
    intro g'
    k_dflt (refine compT_inv (fun i ys => IntsAre ys (belowL [r0, r1, r2, r3] i)) .nil ?fin ?turn)
    case turn =>
      intro i ys v I oI C oC D m₂ h tk E' hi4 hJ hv hC hx F' N' off' ne'
      (change (let G9 : Prop := _; G9)); intro G9
      obtain ⟨t9, rfl⟩ := hv
      unfold G9; (try clear G9)
      k_steps
      · exact below_yes hJ (by assumption)
      · exact below_no hJ (by assumption)
    case fin =>
      intro ys hJ
      (rename _ ∈ [r0, r1, r2, r3] => hM1)
      have hbl := below_len hM1 (by assumption)
      have hnn : 0 ≤ n := hP.1
      have e1 : 0 ≤ n.fmod (ns.length : Int) := Int.fmod_nonneg_of_pos _ (by omega)
      have e2 : n.fmod (ns.length : Int) < (ns.length : Int) := Int.fmod_lt_of_pos _ (by omega)
      have e3 : 0 ≤ (ns.getD (n.fmod (ns.length : Int)).toNat 0).fmod ((belowL [r0, r1, r2, r3] 4).length : Int) := Int.fmod_nonneg_of_pos _ (by omega)
      have e4 : (ns.getD (n.fmod (ns.length : Int)).toNat 0).fmod ((belowL [r0, r1, r2, r3] 4).length : Int) < ((belowL [r0, r1, r2, r3] 4).length : Int) := Int.fmod_lt_of_pos _ (by omega)
      have hpk := below_pick (r0 := r0) (r1 := r1) (r2 := r2) (r3 := r3) (j := ((ns.getD (n.fmod (ns.length : Int)).toNat 0).fmod ((belowL [r0, r1, r2, r3] 4).length : Int)).toNat) (by omega)
      k_steps
      refine hold_in ?_
      (rename Fr _ _ _ _ => lF')
      (change (let G9 : Prop := _; G9)); intro G9
      obtain ⟨kk, hkk⟩ : ∃ kk, kk = (belowL [r0, r1, r2, r3] 4).getD ((ns.getD (n.fmod (ns.length : Int)).toNat 0).fmod ((belowL [r0, r1, r2, r3] 4).length : Int)).toNat 0 := ⟨_, rfl⟩
      unfold G9; (try clear G9)
      rw [← hkk] at lF' hpk
      clear hkk
      have ph := Phase2.mk
      rcases hpk with ⟨rfl, hr⟩ | ⟨rfl, hr⟩ | ⟨rfl, hr⟩ | ⟨rfl, hr⟩
      · k_steps
        (rename Fr _ _ _ _ => lF'); (rename News _ _ _ _ => lN')
        have lN2 : News _ _ _ ((_, LCg.lst ys) :: (_, listOf #[.int (-r0) _, .int (r1 + r0) _, .int (r2) _, .int (r3 + r0) _] 0) :: _) := lN'
        exact ksw_end (⟨n + 1, -r0, r1 + r0, r2, r3 + r0, _, _, _, _, _⟩ : PlaySt) lF' lN2 (fun p hp => .tail _ hp) trivial (by intro p hp; rcases List.mem_singleton.mp hp with rfl; rfl) (fun z h2 h3 => same9 h2 h3) (hP.s0 hz1 hr) (hP.mu hz1 (hP.s0 hz1 hr))
      · k_steps
        (rename Fr _ _ _ _ => lF'); (rename News _ _ _ _ => lN')
        have lN2 : News _ _ _ ((_, LCg.lst ys) :: (_, listOf #[.int (r0 + r1) _, .int (-r1) _, .int (r2 + r1) _, .int (r3) _] 0) :: _) := lN'
        exact ksw_end (⟨n + 1, r0 + r1, -r1, r2 + r1, r3, _, _, _, _, _⟩ : PlaySt) lF' lN2 (fun p hp => .tail _ hp) trivial (by intro p hp; rcases List.mem_singleton.mp hp with rfl; rfl) (fun z h2 h3 => same9 h2 h3) (hP.s1 hz1 hr) (hP.mu hz1 (hP.s1 hz1 hr))
      · k_steps
        (rename Fr _ _ _ _ => lF'); (rename News _ _ _ _ => lN')
        have lN2 : News _ _ _ ((_, LCg.lst ys) :: (_, listOf #[.int (r0) _, .int (r1 + r2) _, .int (-r2) _, .int (r3 + r2) _] 0) :: _) := lN'
        exact ksw_end (⟨n + 1, r0, r1 + r2, -r2, r3 + r2, _, _, _, _, _⟩ : PlaySt) lF' lN2 (fun p hp => .tail _ hp) trivial (by intro p hp; rcases List.mem_singleton.mp hp with rfl; rfl) (fun z h2 h3 => same9 h2 h3) (hP.s2 hz1 hr) (hP.mu hz1 (hP.s2 hz1 hr))
      · k_steps
        (rename Fr _ _ _ _ => lF'); (rename News _ _ _ _ => lN')
        have lN2 : News _ _ _ ((_, LCg.lst ys) :: (_, listOf #[.int (r0 + r3) _, .int (r1) _, .int (r2 + r3) _, .int (-r3) _] 0) :: _) := lN'
        exact ksw_end (⟨n + 1, r0 + r3, r1, r2 + r3, -r3, _, _, _, _, _⟩ : PlaySt) lF' lN2 (fun p hp => .tail _ hp) trivial (by intro p hp; rcases List.mem_singleton.mp hp with rfl; rfl) (fun z h2 h3 => same9 h2 h3) (hP.s3 hz1 hr) (hP.mu hz1 (hP.s3 hz1 hr))
  · (rename News h₀ L _ _ => kN9); (rename Fr h₀ L _ _ => kF9)
    (rename ∀ a, a ∈ [r0, r1, r2, r3] → _ => hM2)
    have q0 := hM2 r0 (.head _)
    have q1 := hM2 r1 (.tail _ (.head _))
    have q2 := hM2 r2 (.tail _ (.tail _ (.head _)))
    have q3 := hM2 r3 (.tail _ (.tail _ (.tail _ (.head _))))
    exact hret _ _ _ _ _ _ _ _ _ _ _ _ _ _ kF9 (drop3 kN9) (hP.fin hz1 (by omega) (by omega) (by omega) (by omega)) (by omega) (allLt_mem (And.right (And.right (by assumption))))
  run_tac fin
end
end
end
end
section
theorem fresh_C5b : True := by w_top off; exact True.intro
set_option maxHeartbeats 8000000
section
variable {w : World} {pv : Program} {LSv : List Str} {mean : ExcName → Option Value} {mg mb : Str → Option Value}
    {dp un : Nat} {gd : Option (List Code)} {cn : Str} {cs : Scope} {a : Addr} {ccd : Value} {cl : List (Str × Addr)} {outer : List Env} {A₀ : Around} {base h₀ : Heap} {L : Addr} {m : Str → Option Value} {news : List (Addr × Obj)} {s : Shared}
    {Q E : Value → Shared → Prop}
theorem rows_C5b_0 : True := by
  k_with_none
  k_with "compareOp Eq ref ref" => refine hold_out ?_
  exact True.intro
theorem equal_spec {x1 dx1 tn1 tc1 : Addr} {raw1 : Str} {n1 nt1 b1 : Int} {sim1 : Bool} {vs1 : List Value} {ns1 : List Int} {g11 g12 g13 g14 g15 : Int} {k11 k12 k13 k14 k15 q11 q12 q13 q15 : Tok} {x2 dx2 tn2 tc2 : Addr} {raw2 : Str} {n2 nt2 b2 : Int} {sim2 : Bool} {vs2 : List Value} {ns2 : List Int} {g21 g22 g23 g24 g25 : Int} {k21 k22 k23 k24 k25 q21 q22 q23 q25 : Tok} (B : Below A₀ base outer h₀) (F : Fr h₀ L s.heap m) (X : (hd.heap_39 w.params).In h₀) (N : News h₀ L s.heap news) (T : Top pv LSv mean mg mb h₀) (hk : cs.kind = .function)
    (hd1 : dp + 2 < recursionLimit) (hu : un + 200 < cLine) (hx1 : (x1, instObj 83 dx1) ∈ news) (hdx1 : (dx1, dictOf [⟨g11, .str (Str.ofString "raw") k11, .str raw1 q11⟩, ⟨g12, .str (Str.ofString "n") k12, .int n1 q12⟩, ⟨g13, .str (Str.ofString "nt") k13, .int nt1 q13⟩, ⟨g14, .str (Str.ofString "norm") k14, .ref tn1⟩, ⟨g15, .str (Str.ofString "is_simple") k15, .bool sim1⟩] 5) ∈ news)
    (htn1 : (tn1, tupO [.ref tc1, .int b1 q15]) ∈ news) (htc1 : (tc1, tupO vs1) ∈ news) (hi1 : IntsAre vs1 ns1) (hlen1 : ns1.length ≤ 10)
    (hx2 : (x2, instObj 83 dx2) ∈ news) (hdx2 : (dx2, dictOf [⟨g21, .str (Str.ofString "raw") k21, .str raw2 q21⟩, ⟨g22, .str (Str.ofString "n") k22, .int n2 q22⟩, ⟨g23, .str (Str.ofString "nt") k23, .int nt2 q23⟩, ⟨g24, .str (Str.ofString "norm") k24, .ref tn2⟩, ⟨g25, .str (Str.ofString "is_simple") k25, .bool sim2⟩] 5) ∈ news)
    (htn2 : (tn2, tupO [.ref tc2, .int b2 q25]) ∈ news) (htc2 : (tc2, tupO vs2) ∈ news) (hi2 : IntsAre vs2 ns2) (hlen2 : ns2.length ≤ 10)
    (hret : ∀ r h' tk', r = decide (ns1 = ns2 ∧ b1 = b2) → Fr h₀ L h' m → News h₀ L h' news → Q (.bool r) { s with heap := h', toks := tk' }) :
    wpAny (model PySem.Challenge.rw_rl0132_01.prog w) (ktrTop dp un gd cn cs L a ccd cl outer) (call (.ref 59) [.ref x1, .ref x2]) Q E s := by
  revert X; k_fill; intro X
  refine wpAny_call ?_
  k_dflt ktr_enter
  k_steps
  refine hold_in ?_
  refine eq_norm (by assumption) htn1 htc1 hi1 htn2 htc2 hi2 (by ktr_units) ?_
  k_steps
  exact hret _ _ _ rfl (by assumption) (by assumption)
end
end
section
local macro_rules | `(tactic| omega) => `(tactic| (first | decide | lia | omega (splitDisjunctions := true)))
section
open PySem PySem.W PyProof.Rows
noncomputable def marksT (a b c : Int) : List Int := [0, a, a + b, a + b + c]
noncomputable def topF (a b c : Int) : Nat := max 1 (max (max (max a.natAbs b.natAbs) c.natAbs) (max (max (a + b).natAbs (b + c).natAbs) (a + b + c).natAbs))
noncomputable def normF (T : Nat → Int) : List Int :=
  let n := T 9
  let c8 := T 8 - n
  let c7 := T 7 - n - c8
  let c6 := T 6 - n - c7 - c8
  let c5 := T 5 - n - c6 - c7 - c8
  let c4 := T 4 - n - c5 - c6 - c7 - 2 * c8
  let c3 := T 3 - n - c4 - c5 - 2 * c6 - 2 * c7 - 2 * c8
  let c2 := T 2 - n - c3 - 2 * c4 - 2 * c5 - 3 * c6 - 3 * c7 - 4 * c8
  let c1 := T 1 - n - 2 * c2 - 3 * c3 - 4 * c4 - 5 * c5 - 6 * c6 - 7 * c7 - 8 * c8
  (([n - c1 - c2 - c3 - c4 - c5 - c6 - c7 - c8, c1, c2, c3, c4, c5, c6, c7, c8].reverse).dropWhile (· == 0)).reverse
noncomputable def leadChk (a b c : Int) (st : List Int × Int × Int × Int) : Bool :=
  st.2.1 == 0 && decide (st.1.length ≤ 10) && st.1.all (fun x => decide (0 ≤ x) && decide (x ≤ 1000)) &&
  (List.range 9).all (fun i => levF st.1 st.2.2.2 st.2.1 ((i : Int) + 1) == ((i : Int) + 1) * (6 + Iz ((i : Int) + 1) a b c)) &&
  lrF st.1 st.2.1 + 1 == (topF a b c : Int) && st.2.2.1 == 6 + Iz 1 a b c && (decide (1 < st.1.length) || st.2.2.2 == st.2.2.1) &&
  (List.range 9).all (fun i => decide (i + 1 < topF a b c) || Iz ((i : Int) + 1) a b c == Iz (topF a b c : Int) a b c) && decide (topF a b c ≤ 9) &&
  st.1 == normF (fun k => 6 + Iz (k : Int) a b c)
noncomputable def leadAll : Bool := (List.range 7).all fun i => (List.range 7).all fun j => (List.range 7).all fun k => leadChk ((i : Int) - 3) ((j : Int) - 3) ((k : Int) - 3) (wsRun (outl (marksT ((i : Int) - 3) ((j : Int) - 3) ((k : Int) - 3)) 4))
theorem lead_all : leadAll = true := by decide +kernel
theorem lead_ok {a b c : Int} (ha : -3 ≤ a ∧ a ≤ 3) (hb : -3 ≤ b ∧ b ≤ 3) (hc : -3 ≤ c ∧ c ≤ 3) : leadChk a b c (wsRun (outl (marksT a b c) 4)) = true := by
  have h := List.all_eq_true.mp (List.all_eq_true.mp (List.all_eq_true.mp lead_all (a + 3).toNat (List.mem_range.mpr (by omega))) (b + 3).toNat (List.mem_range.mpr (by omega))) (c + 3).toNat (List.mem_range.mpr (by omega))
  have e1 : (((a + 3).toNat : Nat) : Int) - 3 = a := by omega
  have e2 : (((b + 3).toNat : Nat) : Int) - 3 = b := by omega
  have e3 : (((c + 3).toNat : Nat) : Int) - 3 = c := by omega
  rw [e1, e2, e3] at h
  exact h
/-- what is known of the lead of the marks of `a b c` -/
structure LeadFacts (a b c : Int) (ns : List Int) (b0 n nt : Int) : Prop where
  zero : b0 = 0
  len : ns.length ≤ 10
  bd : ∀ k, 0 ≤ ns.getD k 0 ∧ ns.getD k 0 ≤ 1000
  lev : ∀ z : Int, 1 ≤ z → z ≤ 9 → levF ns nt b0 z = z * (6 + Iz z a b c)
  lr : lrF ns b0 + 1 = (topF a b c : Int)
  one : n = 6 + Iz 1 a b c
  simple : ns.length ≤ 1 → nt = n
  far : ∀ z : Int, (topF a b c : Int) ≤ z → z ≤ 9 → Iz z a b c = Iz (topF a b c : Int) a b c
  top : topF a b c ≤ 9
  norm : ns = normF (fun k => 6 + Iz (k : Int) a b c)
theorem lead_facts {a b c b0 n nt : Int} {ns : List Int} (ha : -3 ≤ a ∧ a ≤ 3) (hb : -3 ≤ b ∧ b ≤ 3) (hc : -3 ≤ c ∧ c ≤ 3) (h : (ns, b0, n, nt) = wsRun (outl (marksT a b c) 4)) : LeadFacts a b c ns b0 n nt := by
  have k := lead_ok ha hb hc
  rw [← h] at k
  simp only [leadChk, Bool.and_eq_true, Bool.or_eq_true, beq_iff_eq, decide_eq_true_eq] at k
  obtain ⟨⟨⟨⟨⟨⟨⟨⟨⟨k1, k2⟩, k3⟩, k4⟩, k5⟩, k6⟩, k7⟩, k8⟩, k9⟩, k10⟩ := k
  refine ⟨k1, k2, fun j => ?_, fun z h1 h2 => ?_, k5, k6, fun hs => ?_, fun z h1 h2 => ?_, k9, k10⟩
  · by_cases hj : j < ns.length
    · have := List.all_eq_true.mp k3 (ns.getD j 0) (by simp [List.getD, List.getElem?_eq_getElem hj])
      simpa using this
    · simp [List.getD, List.getElem?_eq_none (Nat.le_of_not_lt hj)]
  · have := List.all_eq_true.mp k4 (z - 1).toNat (List.mem_range.mpr (by omega))
    have e : (((z - 1).toNat : Nat) : Int) + 1 = z := by omega
    rw [e] at this
    simpa using this
  · rcases k7 with k7 | k7
    · exact absurd k7 (by omega)
    · exact k7
  · have h3 : 1 ≤ topF a b c := Nat.le_max_left _ _
    have := List.all_eq_true.mp k8 (z - 1).toNat (List.mem_range.mpr (by omega))
    have e : (((z - 1).toNat : Nat) : Int) + 1 = z := by omega
    rw [e] at this
    simp only [Bool.or_eq_true, decide_eq_true_eq, beq_iff_eq] at this
    rcases this with h4 | h4
    · omega
    · exact h4
end
section
open PySem PySem.W PyProof.Rows
noncomputable def fmtStep {α : Type} (mx : Int) (st : List (List α) × Int × List α) (d : α) : List (List α) × Int × List α :=
  if st.2.1 + 2 * ((st.2.2.length : Int) + 1) ≤ mx then (st.1, st.2.1, st.2.2 ++ [d]) else (st.1 ++ [st.2.2], 0, [d])
noncomputable def fmtRun {α : Type} (mx c0 : Int) (ds : List α) : List (List α) × Int × List α := ds.foldl (fmtStep mx) ([], c0, [])
noncomputable def rowsF {α : Type} (mx c0 : Int) (ds : List α) : List (List α) := (fmtRun mx c0 ds).1 ++ [(fmtRun mx c0 ds).2.2]
noncomputable def turnF (rows : List (List Int)) : Int := ((List.range rows.length).flatMap fun k => (rows.getD k []).map fun d => (k : Int) * d).sum
noncomputable def placeN (ms : List Int) (lo : Int) (n : Nat) : List Int := (List.range n).map fun (i : Nat) => ((ms.count (lo + (i : Int)) : Nat) : Int)
noncomputable def loF (a b c : Int) : Int := min (min (min 0 a) (a + b)) (a + b + c)
noncomputable def hiF (a b c : Int) : Int := max (max (max 0 a) (a + b)) (a + b + c)
noncomputable def turnChk (a b c z : Int) : Bool :=
  turnF (rowsF (2 * z) (2 * (loF a b c % z)) (placeN (marksT a b c) (loF a b c) (hiF a b c - loF a b c + 1).toNat)) % 4 == ((marksT a b c).map (· / z)).sum % 4
noncomputable def forceI (x : Int) (k : Int → Bool) : Bool := match x with
  | .ofNat n => (match n with
    | 0 => k 0
    | m + 1 => k (Int.ofNat (m + 1)))
  | .negSucc n => (match n with
    | 0 => k (.negSucc 0)
    | m + 1 => k (.negSucc (m + 1)))
theorem forceI_eq (x : Int) (k : Int → Bool) : forceI x k = k x := by
  unfold forceI
  split
  · split <;> rfl
  · split <;> rfl
noncomputable def forceL : List Int → (List Int → Bool) → Bool
  | [], k => k []
  | x :: r, k => forceI x fun y => forceL r fun s => k (y :: s)
theorem forceL_eq : ∀ (l : List Int) (k : List Int → Bool), forceL l k = k l
  | [], _ => rfl
  | x :: r, k => by unfold forceL; rw [forceI_eq, forceL_eq r]
noncomputable def turnK (a b c z : Int) : Bool :=
  forceI a fun a => forceI b fun b => forceI c fun c => forceI z fun z => forceI (loF a b c) fun lo => forceI (hiF a b c) fun hi => forceL (marksT a b c) fun ms =>
  forceL (placeN ms lo (hi - lo + 1).toNat) fun ps => forceI (2 * (lo % z)) fun c0 => turnF (rowsF (2 * z) c0 ps) % 4 == (ms.map (· / z)).sum % 4
theorem turnK_eq (a b c z : Int) : turnK a b c z = turnChk a b c z := by
  unfold turnK; simp only [forceI_eq, forceL_eq]; rfl
noncomputable def turnAll : Bool := (List.range 7).all fun i => (List.range 7).all fun j => (List.range 7).all fun k => (List.range 9).all fun l => turnK ((i : Int) - 3) ((j : Int) - 3) ((k : Int) - 3) ((l : Int) + 1)
theorem turn_all : turnAll = true := by decide +kernel
theorem turn_ok {a b c z : Int} (ha : -3 ≤ a ∧ a ≤ 3) (hb : -3 ≤ b ∧ b ≤ 3) (hc : -3 ≤ c ∧ c ≤ 3) (hz : 1 ≤ z ∧ z ≤ 9) :
    turnF (rowsF (2 * z) (2 * (loF a b c % z)) (placeN (marksT a b c) (loF a b c) (hiF a b c - loF a b c + 1).toNat)) % 4 = ((marksT a b c).map (· / z)).sum % 4 := by
  have h := List.all_eq_true.mp (List.all_eq_true.mp (List.all_eq_true.mp (List.all_eq_true.mp turn_all (a + 3).toNat (List.mem_range.mpr (by omega))) (b + 3).toNat (List.mem_range.mpr (by omega))) (c + 3).toNat (List.mem_range.mpr (by omega))) (z - 1).toNat (List.mem_range.mpr (by omega))
  have e1 : (((a + 3).toNat : Nat) : Int) - 3 = a := by omega
  have e2 : (((b + 3).toNat : Nat) : Int) - 3 = b := by omega
  have e3 : (((c + 3).toNat : Nat) : Int) - 3 = c := by omega
  have e4 : (((z - 1).toNat : Nat) : Int) + 1 = z := by omega
  rw [e1, e2, e3, e4, turnK_eq] at h
  exact beq_iff_eq.mp h
theorem fmtRun_snoc {α : Type} {mx c0 : Int} {ds : List α} {d : α} : fmtRun mx c0 (ds ++ [d]) = fmtStep mx (fmtRun mx c0 ds) d := by simp [fmtRun]
end
end
section
local macro_rules | `(tactic| k_units) => `(tactic| ktr_units)
section
local macro_rules | `(tactic| k_inst) => `(tactic| (refine' acc_inst ?N ?h1 ?h2; (case N => k_asm); (case h1 => k_mem); (case h2 => k_mem)))
section
local macro_rules | `(tactic| k_updF) => `(tactic| (apply_assumption; done))
section
local macro_rules | `(tactic| k_updF) => `(tactic| assumption)
section
local macro_rules | `(tactic| k_ne) => `(tactic| first | exact ne_mem (by assumption) (by assumption) | exact ne_memA (by assumption) (by assumption) | exact ne_memA (And.right (by assumption)) (by assumption) | exact ne_memA (And.right (And.right (by assumption))) (by assumption) | exact ne_memA (And.right (And.right (And.right (by assumption)))) (by assumption))
section
local macro_rules | `(tactic| k_upd) => `(tactic| exact UpdF.toUpd (by first | assumption | (apply_assumption; done)))
section
local macro_rules | `(tactic| k_mem) => `(tactic| exact UpdF.mem_new (by assumption))
section
local macro_rules | `(tactic| k_mem) => `(tactic| exact UpdF.mem' (by first | assumption | (apply_assumption; done)))
section
local macro_rules | `(tactic| k_mem) => `(tactic| (apply_assumption; done))
section
theorem fresh_D8 : True := by w_top off; exact True.intro
set_option maxHeartbeats 8000000
theorem UpdF.same {d : Addr} {o : Obj} {l : List (Addr × Obj)} {g : Obj → List (Addr × Obj)} (U : UpdF d o l g) : g o = l := by
  induction U with
  | head h => rfl
  | tail h _ ih => exact congrArg (List.cons _) ih
section
variable {w : World} {pv : Program} {LSv : List Str} {mean : ExcName → Option Value} {mg mb : Str → Option Value}
    {dp un : Nat} {gd : Option (List Code)} {cn : Str} {cs : Scope} {a : Addr} {ccd : Value} {cl : List (Str × Addr)} {outer : List Env} {A₀ : Around} {base h₀ : Heap} {L : Addr} {m : Str → Option Value} {news : List (Addr × Obj)} {s : Shared}
    {Q E : Value → Shared → Prop}
theorem rows_D8_0 : True := by
  k_with_none
  k_with "truthy ref" => (k_here; k_dflt (refine' truthy_len ?k1 ?k2 ?k3 ?k4 ?k5 ?k6 ?_; (case k1 => k_asm); (case k2 => k_asm); (case k3 => k_inst); (case k4 => k_is); (case k5 => k_is); (case k6 => k_is); k_whole))
  k_with "getAttr ref" => (k_here; k_dflt (refine' acc_get ?k1 ?k2 ?k3 ?k4 ?k5 ?k6 ?k7 ?k8 ?k9 ?k10 ?k11 ?_; (case k1 => k_asm); (case k2 => k_asm); (case k3 => k_asm); (case k4 => with_reducible_and_instances k_mem); (case k5 => k_mem); (case k6 => kernel_rfl); (case k7 => k_is); (case k8 => k_is); (case k9 => k_is); (case k10 => k_get); (case k11 => k_handed); k_whole))
  k_with "call ref" => (k_here; (with_reducible show wpAny _ _ (call (Value.ref 239) _) _ _ _); k_dflt (refine' alen_spec ?k1 ?k2 ?k3 ?k4 ?k5 ?k6 ?k7 ?k8 ?p1 ?p2 ?p3 ?p4 ?p5 ?p6 ?p7 ?p8 ?p9 ?_; (case k1 => k_asm); (case k2 => k_asm); (case k3 => k_asm); (case k4 => k_asm); (case k5 => k_asm); (case k6 => first | rfl | assumption); (case k7 => ktr_room); (case k8 => ktr_units); (case p1 => k_mem); (case p2 => k_mem); (case p3 => (first | assumption | (apply_assumption; done) | ((rename ∀ j, j < _ → _ ∧ _ => hT9); exact fun j hj => ⟨(hT9 j hj).1, by (have q9 := (hT9 j hj).2); k_mem⟩))); (case p4 => assumption); (case p5 => k_updF); (case p6 => assumption); (case p7 => (first | omega | assumption)); (case p8 => omega); (case p9 => omega); k_whole); intro hQq7 gQq7 tkQq7 tQq7 psQq7 hgk9Qq7 FQq7 NQq7 htQq7; (try dsimp only at NQq7); (try dsimp only [W.LenBack, W.StrBack, IntTruth]); (try refine ⟨⟨by omega, by omega⟩, ?_⟩); (try k_sweep))
  k_with "call ref" => (k_here; (with_reducible show wpAny _ _ (call (Value.ref 246) _) _ _ _); k_dflt (refine' astr_spec ?k1 ?k2 ?k3 ?k4 ?k5 ?k6 ?k7 ?k8 ?p1 ?p2 ?p3 ?p4 ?p5 ?p6 ?p7 ?_; (case k1 => k_asm); (case k2 => k_asm); (case k3 => k_asm); (case k4 => k_asm); (case k5 => k_asm); (case k6 => first | rfl | assumption); (case k7 => ktr_room); (case k8 => ktr_units); (case p1 => k_mem); (case p2 => k_mem); (case p3 => (first | assumption | (apply_assumption; done) | ((rename ∀ j, j < _ → _ ∧ _ => hT9); exact fun j hj => ⟨(hT9 j hj).1, by (have q9 := (hT9 j hj).2); k_mem⟩))); (case p4 => assumption); (case p5 => k_updF); (case p6 => assumption); (case p7 => (first | omega | assumption)); k_whole); intro hQq7 gQq7 tkQq7 tQq7 psQq7 hgk9Qq7 FQq7 NQq7 htQq7; (try dsimp only at NQq7); (try dsimp only [W.LenBack, W.StrBack, IntTruth]); (try refine ⟨⟨by omega, by omega⟩, ?_⟩); (try k_sweep))
  exact True.intro
theorem ows_spec {x dx : Addr} {vs : List Value} {n : Nat} {hh c0 : Int} {ks tc : Tok} {Ts : Nat → Addr} {ta tb : Nat → Tok} {dd : Nat → Str} {ps1 ps2 : Array Value} {g1 : Obj → List (Addr × Obj)} {g2 : Obj → Obj → List (Addr × Obj)} (B : Below A₀ base outer h₀) (F : Fr h₀ L s.heap m) (X : (hd.heap_39 w.params).In h₀) (N : News h₀ L s.heap news) (T : Top pv LSv mean mg mb h₀) (hk : cs.kind = .function)
    (hd1 : dp + 3 < recursionLimit) (hu : un + 300 < cLine) (hx : (x, accObj dx vs n) ∈ news) (hdx : (dx, dictOf [⟨hh, .str (Str.ofString "_initial_size") ks, .int c0 tc⟩] 1) ∈ news) (hT : ∀ j, j < vs.length → vs[j]? = some (.ref (Ts j)) ∧ (Ts j, tupO [.str (Str.ofString " ") (ta j), .str (dd j) (tb j)]) ∈ news) (hdd : ∀ j, j < vs.length → (dd j).length = 1) (UT : UpdF 234 (tabObj ps1) news g1) (ht1 : TriplesOk ps1.toList) (UT2 : ∀ o : Obj, UpdF 241 (tabObj ps2) (g1 o) (g2 o)) (ht2 : TriplesOk ps2.toList) (hlen : vs.length ≤ 1000) (hpos : 1 ≤ vs.length) (hsp : Txt.isspace (lineS ((List.range vs.length).map dd)) = false) (hc0 : 0 ≤ c0) (hc1 : c0 ≤ 1000)
    (hret : ∀ h' g' tk' ps1' ps2', (AllBare s.gens → AllBare g') → Fr h₀ L h' m → News h₀ L h' (g2 (tabObj ps1') (tabObj ps2')) → TriplesOk ps1'.toList → TriplesOk ps2'.toList → Q (.bool false) { s with heap := h', gens := g', toks := tk' }) :
    wpAny (model PySem.Challenge.rw_rl0132_01.prog w) (ktrTop dp un gd cn cs L a ccd cl outer) (call (.ref 261) [.ref x]) Q E s := by
  revert w pv LSv mean mg mb dp un gd cn cs a ccd cl outer A₀ base h₀ L m news s Q E x dx vs n hh c0 ks tc Ts ta tb dd ps1 ps2 g1 g2
  refine (?zh : ∀ w pv LSv mean mg mb dp un gd cn cs a ccd cl outer A₀ base h₀ L m news s Q E x dx vs n hh c0 ks tc Ts ta tb dd ps1 ps2 g1 g2, (?zP : _ → _ → _ → _ → _ → _ → _ → _ → _ → _ → _ → _ → _ → _ → _ → _ → _ → _ → _ → _ → _ → _ → _ → _ → _ → _ → _ → _ → _ → _ → _ → _ → _ → _ → _ → _ → _ → _ → _ → _ → Prop) w pv LSv mean mg mb dp un gd cn cs a ccd cl outer A₀ base h₀ L m news s Q E x dx vs n hh c0 ks tc Ts ta tb dd ps1 ps2 g1 g2)
  refine fun w pv LSv mean mg mb dp un gd cn cs a ccd cl outer A₀ base h₀ L m news s Q E x dx vs n hh c0 ks tc Ts ta tb dd ps1 ps2 g1 g2 => allE (P := un2 fun w => un2 fun pv => un2 fun LSv => un2 fun mean => un2 fun mg => un2 fun mb => un2 fun dp => un2 fun un => un2 fun gd => un2 fun cn => un2 fun cs => un2 fun a => un2 fun ccd => un2 fun cl => un2 fun outer => un2 fun A₀ => un2 fun base => un2 fun h₀ => un2 fun L => un2 fun m => un2 fun news => un2 fun s => un2 fun Q => un2 fun E => un2 fun x => un2 fun dx => un2 fun vs => un2 fun n => un2 fun hh => un2 fun c0 => un2 fun ks => un2 fun tc => un2 fun Ts => un2 fun ta => un2 fun tb => un2 fun dd => un2 fun ps1 => un2 fun ps2 => un2 fun g1 g2 => ?zP w pv LSv mean mg mb dp un gd cn cs a ccd cl outer A₀ base h₀ L m news s Q E x dx vs n hh c0 ks tc Ts ta tb dd ps1 ps2 g1 g2) ?zn ?zk (w, pv, LSv, mean, mg, mb, dp, un, gd, cn, cs, a, ccd, cl, outer, A₀, base, h₀, L, m, news, s, Q, E, x, dx, vs, n, hh, c0, ks, tc, Ts, ta, tb, dd, ps1, ps2, g1, g2)
  case zn => walk_at "ne"
  clear w pv LSv mean mg mb dp un gd cn cs a ccd cl outer A₀ base h₀ L m news s Q E x dx vs n hh c0 ks tc Ts ta tb dd ps1 ps2 g1 g2
  refine (?zj : AtE _ ?zE)
  refine (?zF : ∀ w pv LSv mean mg mb dp un gd cn cs a ccd cl outer A₀ base h₀ L m news s Q E x dx vs n hh c0 ks tc Ts ta tb dd ps1 ps2 g1 g2, ?zP w pv LSv mean mg mb dp un gd cn cs a ccd cl outer A₀ base h₀ L m news s Q E x dx vs n hh c0 ks tc Ts ta tb dd ps1 ps2 g1 g2) ?zE.1 ?zE.2.1 ?zE.2.2.1 ?zE.2.2.2.1 ?zE.2.2.2.2.1 ?zE.2.2.2.2.2.1 ?zE.2.2.2.2.2.2.1 ?zE.2.2.2.2.2.2.2.1 ?zE.2.2.2.2.2.2.2.2.1 ?zE.2.2.2.2.2.2.2.2.2.1 ?zE.2.2.2.2.2.2.2.2.2.2.1 ?zE.2.2.2.2.2.2.2.2.2.2.2.1 ?zE.2.2.2.2.2.2.2.2.2.2.2.2.1 ?zE.2.2.2.2.2.2.2.2.2.2.2.2.2.1 ?zE.2.2.2.2.2.2.2.2.2.2.2.2.2.2.1 ?zE.2.2.2.2.2.2.2.2.2.2.2.2.2.2.2.1 ?zE.2.2.2.2.2.2.2.2.2.2.2.2.2.2.2.2.1 ?zE.2.2.2.2.2.2.2.2.2.2.2.2.2.2.2.2.2.1 ?zE.2.2.2.2.2.2.2.2.2.2.2.2.2.2.2.2.2.2.1 ?zE.2.2.2.2.2.2.2.2.2.2.2.2.2.2.2.2.2.2.2.1 ?zE.2.2.2.2.2.2.2.2.2.2.2.2.2.2.2.2.2.2.2.2.1 ?zE.2.2.2.2.2.2.2.2.2.2.2.2.2.2.2.2.2.2.2.2.2.1 ?zE.2.2.2.2.2.2.2.2.2.2.2.2.2.2.2.2.2.2.2.2.2.2.1 ?zE.2.2.2.2.2.2.2.2.2.2.2.2.2.2.2.2.2.2.2.2.2.2.2.1 ?zE.2.2.2.2.2.2.2.2.2.2.2.2.2.2.2.2.2.2.2.2.2.2.2.2.1 ?zE.2.2.2.2.2.2.2.2.2.2.2.2.2.2.2.2.2.2.2.2.2.2.2.2.2.1 ?zE.2.2.2.2.2.2.2.2.2.2.2.2.2.2.2.2.2.2.2.2.2.2.2.2.2.2.1 ?zE.2.2.2.2.2.2.2.2.2.2.2.2.2.2.2.2.2.2.2.2.2.2.2.2.2.2.2.1 ?zE.2.2.2.2.2.2.2.2.2.2.2.2.2.2.2.2.2.2.2.2.2.2.2.2.2.2.2.2.1 ?zE.2.2.2.2.2.2.2.2.2.2.2.2.2.2.2.2.2.2.2.2.2.2.2.2.2.2.2.2.2.1 ?zE.2.2.2.2.2.2.2.2.2.2.2.2.2.2.2.2.2.2.2.2.2.2.2.2.2.2.2.2.2.2.1 ?zE.2.2.2.2.2.2.2.2.2.2.2.2.2.2.2.2.2.2.2.2.2.2.2.2.2.2.2.2.2.2.2.1 ?zE.2.2.2.2.2.2.2.2.2.2.2.2.2.2.2.2.2.2.2.2.2.2.2.2.2.2.2.2.2.2.2.2.1 ?zE.2.2.2.2.2.2.2.2.2.2.2.2.2.2.2.2.2.2.2.2.2.2.2.2.2.2.2.2.2.2.2.2.2.1 ?zE.2.2.2.2.2.2.2.2.2.2.2.2.2.2.2.2.2.2.2.2.2.2.2.2.2.2.2.2.2.2.2.2.2.2.1 ?zE.2.2.2.2.2.2.2.2.2.2.2.2.2.2.2.2.2.2.2.2.2.2.2.2.2.2.2.2.2.2.2.2.2.2.2.1 ?zE.2.2.2.2.2.2.2.2.2.2.2.2.2.2.2.2.2.2.2.2.2.2.2.2.2.2.2.2.2.2.2.2.2.2.2.2.1 ?zE.2.2.2.2.2.2.2.2.2.2.2.2.2.2.2.2.2.2.2.2.2.2.2.2.2.2.2.2.2.2.2.2.2.2.2.2.2.1 ?zE.2.2.2.2.2.2.2.2.2.2.2.2.2.2.2.2.2.2.2.2.2.2.2.2.2.2.2.2.2.2.2.2.2.2.2.2.2.2.1 ?zE.2.2.2.2.2.2.2.2.2.2.2.2.2.2.2.2.2.2.2.2.2.2.2.2.2.2.2.2.2.2.2.2.2.2.2.2.2.2.2
  intros w pv LSv mean mg mb dp un gd cn cs a ccd cl outer A₀ base h₀ L m news s Q E x dx vs n hh c0 ks tc Ts ta tb dd ps1 ps2 g1 g2
  intro B F X N T hk hd1 hu hx hdx hT hdd UT ht1 UT2 ht2 hlen hpos hsp hc0 hc1 hret
  revert X; k_fill; intro X
  refine wpAny_call ?_
  k_dflt walk_at "en"
  have nx := ne_objs N hx (UpdF.mem' UT) (by intro e; cases e)
  have ndx := ne_objs N hdx (UpdF.mem' UT) (by intro e; cases e)
  have hx1 : ∀ o : Obj, (x, accObj dx vs n) ∈ g1 o := fun o => UpdF.mem_old UT hx nx
  have hdx1 : ∀ o : Obj, (dx, dictOf [⟨hh, .str (Str.ofString "_initial_size") ks, .int c0 tc⟩] 1) ∈ g1 o := fun o => UpdF.mem_old UT hdx ndx
  have hT1 : ∀ o : Obj, ∀ j, j < vs.length → vs[j]? = some (.ref (Ts j)) ∧ (Ts j, tupO [.str (Str.ofString " ") (ta j), .str (dd j) (tb j)]) ∈ g1 o := fun o j hj => ⟨(hT j hj).1, UpdF.mem_old UT (hT j hj).2 (ne_objs N (hT j hj).2 (UpdF.mem' UT) (by intro e; cases e))⟩
  k_steps
  · (rename News h₀ L _ _ => kN9); (rename Fr h₀ L _ _ => kF9)
    rw [hsp]
    exact hret _ _ _ _ _ (by first | exact fun z9 => z9 | (intro z9; (repeat (first | exact z9 | apply_assumption)); done)) kF9 kN9 (by assumption) (by assumption)
  · (rename News h₀ L _ _ => kN9); (rename Fr h₀ L _ _ => kF9)
    rw [show (!(c0 + 2 * (vs.length : Int) != 0)) = false by simp; omega]
    exact hret _ _ _ _ ps2 (by first | exact fun z9 => z9 | (intro z9; (repeat (first | exact z9 | apply_assumption)); done)) kF9 (by rw [UpdF.same (UT2 _)]; exact kN9) (by assumption) (by assumption)
  · (rename News h₀ L _ _ => kN9); (rename Fr h₀ L _ _ => kF9)
    rw [show (c0 == 0) = false by simp; omega]
    exact hret _ _ _ ps1 ps2 (by first | exact fun z9 => z9 | (intro z9; (repeat (first | exact z9 | apply_assumption)); done)) kF9 (by rw [UpdF.same (UT2 _), UpdF.same UT]; exact kN9) ht1 ht2
end
end
end
end
end
end
end
end
end
end
end
section
local macro_rules | `(tactic| omega) => `(tactic| (first | decide | lia | omega (splitDisjunctions := true)))
section
set_option maxHeartbeats 8000000
noncomputable def Ck (nw : List (Addr × Obj)) (vs : List Value) (ds : List Str) : Prop :=
  vs.length = ds.length ∧ (∀ d ∈ ds, d.length = 1) ∧ ∀ j, j < vs.length → ∃ t a b, vs[j]? = some (.ref t) ∧ (t, tupO [.str (Str.ofString " ") a, .str (ds.getD j (Str.ofString "")) b]) ∈ nw
theorem Ck.nil {nw : List (Addr × Obj)} : Ck nw [] [] := ⟨rfl, (fun _ h => nomatch h), fun _ h => nomatch h⟩
theorem Ck.up {nw nw' : List (Addr × Obj)} {vs : List Value} {ds : List Str} (h : Ck nw vs ds) (hs : ∀ p ∈ nw, p ∈ nw') : Ck nw' vs ds :=
  ⟨h.1, h.2.1, fun j hj => let ⟨t, a, b, e, hm⟩ := h.2.2 j hj; ⟨t, a, b, e, hs _ hm⟩⟩
theorem Ck.snoc {nw : List (Addr × Obj)} {vs : List Value} {ds : List Str} {t : Addr} {d : Str} {a b : Tok} (h : Ck nw vs ds) (hd : d.length = 1) (hm : (t, tupO [.str (Str.ofString " ") a, .str d b]) ∈ nw) : Ck nw (vs ++ [.ref t]) (ds ++ [d]) := by
  obtain ⟨h1, h2, h3⟩ := h
  refine ⟨by simp [h1], fun e he => ?_, fun j hj => ?_⟩
  · rcases List.mem_append.mp he with he | he
    · exact h2 e he
    · rcases List.mem_singleton.mp he with rfl; exact hd
  · by_cases hl : j < vs.length
    · obtain ⟨t', a', b', e, m⟩ := h3 j hl
      refine ⟨t', a', b', by rw [List.getElem?_append_left hl]; exact e, ?_⟩
      rw [show (ds ++ [d]).getD j (Str.ofString "") = ds.getD j (Str.ofString "") by simp [List.getD, List.getElem?_append_left (show j < ds.length by omega)]]
      exact m
    · have hj2 : j = vs.length := by simp at hj; omega
      subst hj2
      refine ⟨t, a, b, by simp, ?_⟩
      rw [show (ds ++ [d]).getD vs.length (Str.ofString "") = d by rw [h1]; simp [List.getD]]
      exact hm
theorem Ck.one {nw : List (Addr × Obj)} {t : Addr} {d : Str} {a b : Tok} (hd : d.length = 1) (hm : (t, tupO [.str (Str.ofString " ") a, .str d b]) ∈ nw) : Ck nw [.ref t] [d] := Ck.snoc Ck.nil hd hm
theorem Ck.fns {nw : List (Addr × Obj)} {vs : List Value} {ds : List Str} (h : Ck nw vs ds) : ∃ (Ts : Nat → Addr) (ta tb : Nat → Tok), ∀ j, j < vs.length → vs[j]? = some (.ref (Ts j)) ∧ (Ts j, tupO [.str (Str.ofString " ") (ta j), .str (ds.getD j (Str.ofString "")) (tb j)]) ∈ nw := by
  have h3 : ∀ j, ∃ q : Addr × Tok × Tok, j < vs.length → vs[j]? = some (.ref q.1) ∧ (q.1, tupO [.str (Str.ofString " ") q.2.1, .str (ds.getD j (Str.ofString "")) q.2.2]) ∈ nw := fun j => by
    by_cases hj : j < vs.length
    · obtain ⟨t, a, b, e, hm⟩ := h.2.2 j hj; exact ⟨(t, a, b), fun _ => ⟨e, hm⟩⟩
    · exact ⟨(0, 0, 0), fun hj' => absurd hj' hj⟩
  exact ⟨fun j => (Classical.choose (h3 j)).1, fun j => (Classical.choose (h3 j)).2.1, fun j => (Classical.choose (h3 j)).2.2, fun j => Classical.choose_spec (h3 j)⟩
theorem Ck.dd {nw : List (Addr × Obj)} {vs : List Value} {ds : List Str} (h : Ck nw vs ds) : ∀ j, j < vs.length → (ds.getD j (Str.ofString "")).length = 1 := fun j hj => by
  have hj' : j < ds.length := h.1 ▸ hj
  have : ds.getD j (Str.ofString "") = ds[j] := by simp [List.getD, List.getElem?_eq_getElem hj']
  rw [this]; exact h.2.1 _ (List.getElem_mem hj')
theorem Ck.map {nw : List (Addr × Obj)} {vs : List Value} {ds : List Str} (h : Ck nw vs ds) : (List.range vs.length).map (fun j => ds.getD j (Str.ofString "")) = ds := by
  refine List.ext_getElem (by simp [h.1]) fun j h1 h2 => ?_
  simp [List.getD, List.getElem?_eq_getElem h2]
section
variable {w : World} {pv : Program} {LSv : List Str} {mean : ExcName → Option Value} {mg mb : Str → Option Value}
    {dp un : Nat} {gd : Option (List Code)} {cn : Str} {cs : Scope} {a : Addr} {ccd : Value} {cl : List (Str × Addr)} {outer : List Env} {A₀ : Around} {base h₀ : Heap} {L : Addr} {m : Str → Option Value} {news : List (Addr × Obj)} {s : Shared}
    {Q E : Value → Shared → Prop}
theorem clen_spec {x dx : Addr} {vs : List Value} {n : Nat} {hh c0 : Int} {ks tc : Tok} {ps : Array Value} {gt : Obj → List (Addr × Obj)} {ds : List Str} (B : Below A₀ base outer h₀) (F : Fr h₀ L s.heap m) (X : (hd.heap_39 w.params).In h₀) (N : News h₀ L s.heap news) (T : Top pv LSv mean mg mb h₀) (hk : cs.kind = .function)
    (hd1 : dp + 2 < recursionLimit) (hu : un + 200 < cLine) (hx : (x, accObj dx vs n) ∈ news) (hdx : (dx, dictOf [⟨hh, .str (Str.ofString "_initial_size") ks, .int c0 tc⟩] 1) ∈ news) (hC : Ck news vs ds) (UT : UpdF 234 (tabObj ps) news gt) (ht : TriplesOk ps.toList) (hlen : vs.length ≤ 1000) (hc0 : 0 ≤ c0) (hc1 : c0 ≤ 1000)
    (hret : ∀ h' g' tk' t ps', (AllBare s.gens → AllBare g') → Fr h₀ L h' m → News h₀ L h' (gt (tabObj ps')) → TriplesOk ps'.toList → Q (.int (c0 + 2 * (vs.length : Int)) t) { s with heap := h', gens := g', toks := tk' }) :
    wpAny (model PySem.Challenge.rw_rl0132_01.prog w) (ktrTop dp un gd cn cs L a ccd cl outer) (call (.ref 239) [.ref x]) Q E s := by
  obtain ⟨Ts, ta, tb, hT⟩ := hC.fns
  exact alen_spec B F X N T hk hd1 hu hx hdx hT hC.dd UT ht hlen hc0 hc1 hret
theorem cstr_spec {x dx : Addr} {vs : List Value} {n : Nat} {hh c0 : Int} {ks tc : Tok} {ps : Array Value} {gt : Obj → List (Addr × Obj)} {ds : List Str} (B : Below A₀ base outer h₀) (F : Fr h₀ L s.heap m) (X : (hd.heap_39 w.params).In h₀) (N : News h₀ L s.heap news) (T : Top pv LSv mean mg mb h₀) (hk : cs.kind = .function)
    (hd1 : dp + 2 < recursionLimit) (hu : un + 200 < cLine) (hx : (x, accObj dx vs n) ∈ news) (hdx : (dx, dictOf [⟨hh, .str (Str.ofString "_initial_size") ks, .int c0 tc⟩] 1) ∈ news) (hC : Ck news vs ds) (UT : UpdF 241 (tabObj ps) news gt) (ht : TriplesOk ps.toList) (hlen : vs.length ≤ 1000)
    (hret : ∀ h' g' tk' t ps', (AllBare s.gens → AllBare g') → Fr h₀ L h' m → News h₀ L h' (gt (tabObj ps')) → TriplesOk ps'.toList → Q (.str (lineS ds) t) { s with heap := h', gens := g', toks := tk' }) :
    wpAny (model PySem.Challenge.rw_rl0132_01.prog w) (ktrTop dp un gd cn cs L a ccd cl outer) (call (.ref 246) [.ref x]) Q E s := by
  obtain ⟨Ts, ta, tb, hT⟩ := hC.fns
  have e := hC.map
  refine astr_spec B F X N T hk hd1 hu hx hdx hT hC.dd UT ht hlen fun h' g' tk' t ps' z a b c => ?_
  rw [e]
  exact hret h' g' tk' t ps' z a b c
theorem cows_spec {x dx : Addr} {vs : List Value} {n : Nat} {hh c0 : Int} {ks tc : Tok} {ps1 ps2 : Array Value} {g1 : Obj → List (Addr × Obj)} {g2 : Obj → Obj → List (Addr × Obj)} {ds : List Str} (B : Below A₀ base outer h₀) (F : Fr h₀ L s.heap m) (X : (hd.heap_39 w.params).In h₀) (N : News h₀ L s.heap news) (T : Top pv LSv mean mg mb h₀) (hk : cs.kind = .function)
    (hd1 : dp + 3 < recursionLimit) (hu : un + 300 < cLine) (hx : (x, accObj dx vs n) ∈ news) (hdx : (dx, dictOf [⟨hh, .str (Str.ofString "_initial_size") ks, .int c0 tc⟩] 1) ∈ news) (hC : Ck news vs ds) (UT : UpdF 234 (tabObj ps1) news g1) (ht1 : TriplesOk ps1.toList) (UT2 : ∀ o : Obj, UpdF 241 (tabObj ps2) (g1 o) (g2 o)) (ht2 : TriplesOk ps2.toList) (hlen : vs.length ≤ 1000) (hpos : 1 ≤ vs.length) (hsp : Txt.isspace (lineS ds) = false) (hc0 : 0 ≤ c0) (hc1 : c0 ≤ 1000)
    (hret : ∀ h' g' tk' ps1' ps2', (AllBare s.gens → AllBare g') → Fr h₀ L h' m → News h₀ L h' (g2 (tabObj ps1') (tabObj ps2')) → TriplesOk ps1'.toList → TriplesOk ps2'.toList → Q (.bool false) { s with heap := h', gens := g', toks := tk' }) :
    wpAny (model PySem.Challenge.rw_rl0132_01.prog w) (ktrTop dp un gd cn cs L a ccd cl outer) (call (.ref 261) [.ref x]) Q E s := by
  obtain ⟨Ts, ta, tb, hT⟩ := hC.fns
  exact ows_spec B F X N T hk hd1 hu hx hdx hT hC.dd UT ht1 UT2 ht2 hlen hpos (by rw [hC.map]; exact hsp) hc0 hc1 hret
theorem popl_spec {x dx : Addr} {vs : List Value} {n : Nat} {hh c0 : Int} {ks tc : Tok} {gg : Obj → List (Addr × Obj)} {i : Int} {ti : Tok} {us : List Value} {v : Value} (B : Below A₀ base outer h₀) (F : Fr h₀ L s.heap m) (X : (hd.heap_39 w.params).In h₀) (N : News h₀ L s.heap news) (T : Top pv LSv mean mg mb h₀) (hk : cs.kind = .function)
    (hd1 : dp + 1 < recursionLimit) (hu : un + 100 < cLine) (hx : (x, accObj dx vs n) ∈ news) (hdx : (dx, dictOf [⟨hh, .str (Str.ofString "_initial_size") ks, .int c0 tc⟩] 1) ∈ news) (U : UpdF x (accObj dx vs n) news gg) (hv : vs = us ++ [v]) (hi : i = (us.length : Int)) (hlen : vs.length ≤ 1000)
    (hret : ∀ D h' tk' n', Fr h₀ L h' m → News h₀ L h' ((D, listOf [v].toArray 0) :: gg (accObj dx us n')) → (∀ p ∈ news, p.1 < D) → Q (.ref D) { s with heap := h', toks := tk' }) :
    wpAny (model PySem.Challenge.rw_rl0132_01.prog w) (ktrTop dp un gd cn cs L a ccd cl outer) (call (.ref 224) [.ref x, .int i ti]) Q E s := by
  subst hi
  subst hv
  refine popfrom_spec B F X N T hk hd1 hu hx hdx U (by omega) (by simp only [List.length_append, List.length_cons, List.length_nil]; omega) hlen fun D h' tk' n' a b c => hret D h' tk' n' a ?_ c
  simpa using b
end
end
section
set_option maxHeartbeats 8000000
theorem subs_cons {a : Addr × Obj} {l l' : List (Addr × Obj)} (h : a ∈ l') (k : ∀ p ∈ l, p ∈ l') : ∀ p ∈ a :: l, p ∈ l' := fun p hp => by
  rcases List.mem_cons.mp hp with rfl | hp
  · exact h
  · exact k p hp
theorem strs_snoc {vs : List Value} {ss : List Str} {y : Str} {t : Tok} (h : StrsAre vs ss) : StrsAre (vs ++ [.str y t]) (ss ++ [y]) := by
  induction h with
  | nil => exact .cons y t .nil
  | cons z u _ ih => exact .cons z u ih
end
end
section
local macro_rules | `(tactic| omega) => `(tactic| (run_tac ar))
section
local macro_rules | `(tactic| k_ne) => `(tactic| (refine neN ?_; (try dsimp only); (run_tac ar)))
section
local macro_rules | `(tactic| k_units) => `(tactic| ktr_units)
section
local macro_rules | `(tactic| k_inst) => `(tactic| (refine' acc_inst ?N ?h1 ?h2; (case N => k_asm); (case h1 => (with_reducible (repeat (first | exact List.mem_cons_self | assumption | refine List.mem_cons_of_mem _ ?_)))); (case h2 => k_mem)))
section
theorem fresh_D10 : True := by w_top off; exact True.intro
set_option maxHeartbeats 8000000
inductive Phase9 : Prop where
  | mk : Phase9
theorem isspace_one {prog : Program} {w : World} {A : Around} {E : Value → Shared → Prop} {s : Shared} {t : Tok} {Q : Value → Shared → Prop} (h : Q (.bool true) s) : wpAny (model prog w) A (call (.builtin "str.isspace") [.str ⟨#[32]⟩ t]) Q E s := by
  refine SC.isspace ?_
  have e : Txt.isspace ⟨#[32]⟩ = true := by decide +kernel
  rw [e]; exact h
theorem eq_one {prog : Program} {w : World} {A : Around} {E : Value → Shared → Prop} {s : Shared} {a b : Str} {t u : Tok} {r : Bool} {Q : Value → Shared → Prop} (e : (a == b) = r) (h : Q (.bool r) s) : wpAny (model prog w) A (compareOp .Eq (.str a t) (.str b u)) Q E s := by
  refine eq_str ?_
  rw [e]; exact h
theorem tup_fst {prog : Program} {w : World} {A : Around} {E : Value → Shared → Prop} {s : Shared} {h₀ : Heap} {L : Addr} {news : List (Addr × Obj)} {value slice : PySem.Expr} {t : Addr} {v : Value} {vs : List Value} {u : Tok} {Q : Value → Shared → Prop} (N : News h₀ L s.heap news) (hm : (t, tupO (v :: vs)) ∈ news) (h : Q v s)
    (hs : subscripted slice false (.ref t) (.int 0 u) = operate [.ref t, .int 0 u] (getItem (.ref t) (.int 0 u)) := by with_unfolding_all rfl) :
    wpAny (model prog w) A (subscriptTail value slice (.ref t) (.int 0 u)) Q E s :=
  item_tupleT (News.isTup N hm) (by decide) (by decide) (j := 0) (seqIndex_nn (by decide) (by simp)) (by simp) h hs
theorem len_range {h : Heap} {r : Addr} {vs : List Value} {v : Value} {t u q : Tok} {b c : Int} (H : IsRange h r (((vs ++ [v]).length : Int) - 1) b c t u q) : IsRange h r (vs.length : Int) b c t u q := by
  have e : ((vs ++ [v]).length : Int) - 1 = (vs.length : Int) := by simp
  rwa [e] at H
section
variable {w : World} {pv : Program} {LSv : List Str} {mean : ExcName → Option Value} {mg mb : Str → Option Value}
    {dp un : Nat} {gd : Option (List Code)} {cn : Str} {cs : Scope} {a : Addr} {ccd : Value} {cl : List (Str × Addr)} {outer : List Env} {A₀ : Around} {base h₀ : Heap} {L : Addr} {m : Str → Option Value} {news : List (Addr × Obj)} {s : Shared}
    {Q E : Value → Shared → Prop}
theorem rows_D10_0 : True := by
  k_with_none
  k_with "call builtin:list.append" => (k_here; (with_reducible show wpAny _ _ (call (Value.builtin _) [Value.ref _, _]) _ _ _); k_dflt (refine' append_N ?k1 ?k2 ?k3 ?z ?_; (case k1 => k_asm); (case k2 => k_asm); (case k3 => k_upd); (case z => omega); k_whole); intro hQq7 FQq7 NQq7; (try k_sweep))
  k_with "call builtin:len" => (k_here; (with_reducible show wpAny _ _ (call (Value.builtin "len") [Value.ref _]) _ _ _); k_dflt (refine' len_K ?k1 ?k2 ?k3 ?k4 ?k5 ?_; (case k1 => k_asm); (case k2 => k_asm); (case k3 => k_inst); (case k4 => k_is); (case k5 => k_is); k_whole))
  k_with "getMethod ref" => (k_here; k_dflt (refine' acc_methF ?k1 ?k2 ?k3 ?k4 ?k5 ?k6 ?k7 ?k8 ?k9 ?_; (case k1 => k_asm); (case k2 => k_asm); (case k3 => k_asm); (case k4 => (with_reducible (repeat (first | exact List.mem_cons_self | assumption | refine List.mem_cons_of_mem _ ?_)))); (case k5 => k_mem); (case k6 => kernel_rfl); (case k7 => k_is); (case k8 => k_is); (case k9 => k_get); k_whole))
  k_with "call ref" => (k_here; (with_reducible show wpAny _ _ (call (Value.ref 269) _) _ _ _); k_dflt (refine' pc_spec ?k1 ?k2 ?k3 ?k4 ?k5 ?k6 ?k7 ?k8 ?p1 ?p2 ?_; (case k1 => k_asm); (case k2 => k_asm); (case k3 => k_asm); (case k4 => k_asm); (case k5 => k_asm); (case k6 => first | rfl | assumption); (case k7 => ktr_room); (case k8 => ktr_units); (case p1 => k_mem); (case p2 => k_mem); k_whole); intro hQq7 tkQq7 tQq7 FQq7 NQq7; (try k_sweep))
  k_with "call ref" => (k_here; (with_reducible show wpAny _ _ (call (Value.ref 216) _) _ _ _); k_dflt (refine' push_spec ?k1 ?k2 ?k3 ?k4 ?k5 ?k6 ?k7 ?k8 ?p1 ?p2 ?p3 ?p4 ?_; (case k1 => k_asm); (case k2 => k_asm); (case k3 => k_asm); (case k4 => k_asm); (case k5 => k_asm); (case k6 => first | rfl | assumption); (case k7 => ktr_room); (case k8 => ktr_units); (case p1 => k_mem); (case p2 => k_mem); (case p3 => k_updF); (case p4 => omega); k_whole); intro hQq7 tkQq7 nQq7 tQq7 FQq7 NQq7 l1Qq7; (try dsimp only at NQq7); (try k_lt l1Qq7); (try k_sweep))
  k_with "call ref" => (k_here; (with_reducible show wpAny _ _ (call (Value.ref 239) _) _ _ _); k_dflt (refine' clen_spec ?k1 ?k2 ?k3 ?k4 ?k5 ?k6 ?k7 ?k8 ?p1 ?p2 ?p3 ?p4 ?p5 ?p6 ?p7 ?p8 ?_; (case k1 => k_asm); (case k2 => k_asm); (case k3 => k_asm); (case k4 => k_asm); (case k5 => k_asm); (case k6 => first | rfl | assumption); (case k7 => ktr_room); (case k8 => ktr_units); (case p1 => k_mem); (case p2 => k_mem); (case p3 => (first | assumption | exact Ck.up (by assumption) (by intro p hp; k_mem) | exact Ck.snoc (Ck.up (by assumption) (by intro p hp; k_mem)) (by assumption) (by k_mem))); (case p4 => k_updF); (case p5 => assumption); (case p6 => (first | omega | (simp only [List.length_append, List.length_cons, List.length_nil]; omega))); (case p7 => omega); (case p8 => omega); k_whole); intro hQq7 gQq7 tkQq7 tQq7 psQq7 hgk9Qq7 FQq7 NQq7 htQq7; (try dsimp only at NQq7); (try simp only [List.length_append, List.length_cons, List.length_nil]); (try dsimp only [W.LenBack, W.StrBack, IntTruth]); (try refine ⟨⟨by omega, by omega⟩, ?_⟩); (try k_sweep))
  k_with "call ref" => (k_here; (with_reducible show wpAny _ _ (call (Value.ref 246) _) _ _ _); k_dflt (refine' cstr_spec ?k1 ?k2 ?k3 ?k4 ?k5 ?k6 ?k7 ?k8 ?p1 ?p2 ?p3 ?p4 ?p5 ?p6 ?_; (case k1 => k_asm); (case k2 => k_asm); (case k3 => k_asm); (case k4 => k_asm); (case k5 => k_asm); (case k6 => first | rfl | assumption); (case k7 => ktr_room); (case k8 => ktr_units); (case p1 => k_mem); (case p2 => k_mem); (case p3 => (first | assumption | exact Ck.up (by assumption) (by intro p hp; k_mem) | exact Ck.snoc (Ck.up (by assumption) (by intro p hp; k_mem)) (by assumption) (by k_mem))); (case p4 => k_updF); (case p5 => assumption); (case p6 => (first | omega | (simp only [List.length_append, List.length_cons, List.length_nil]; omega))); k_whole); intro hQq7 gQq7 tkQq7 tQq7 psQq7 hgk9Qq7 FQq7 NQq7 htQq7; (try dsimp only at NQq7); (try dsimp only [W.LenBack, W.StrBack, IntTruth]); (try refine ⟨⟨by omega, by omega⟩, ?_⟩); (try k_sweep))
  k_with "call ref" => (k_here; (with_reducible show wpAny _ _ (call (Value.ref 224) _) _ _ _); k_dflt (refine' popl_spec ?k1 ?k2 ?k3 ?k4 ?k5 ?k6 ?k7 ?k8 ?p1 ?p2 ?p3 ?p4 ?p5 ?p6 ?_; (case k1 => k_asm); (case k2 => k_asm); (case k3 => k_asm); (case k4 => k_asm); (case k5 => k_asm); (case k6 => first | rfl | assumption); (case k7 => ktr_room); (case k8 => ktr_units); (case p1 => k_mem); (case p2 => k_mem); (case p3 => k_updF); (case p4 => rfl); (case p5 => (first | rfl | omega | (simp only [List.length_append, List.length_cons, List.length_nil]; omega))); (case p6 => (first | omega | (simp only [List.length_append, List.length_cons, List.length_nil]; omega))); k_whole); intro DQq7 hQq7 tkQq7 nQq7 FQq7 NQq7 l1Qq7; (try dsimp only at NQq7); (try k_lt l1Qq7); (try k_sweep))
  k_with "call ref" => ((with_reducible show wpAny _ _ (call (Value.ref 254) _) _ _ _); refine hold_out ?_)
  k_with "exec For Name Attribute" => refine hold_out ?_
  k_with "exec For Name Call" => refine hold_out ?_
  k_with "OncePost" => (dsimp only [OncePost])
  k_with "call builtin:str.isspace" => (with_reducible refine isspace_one ?_)
  k_with "subscriptTail" => ((fail_if_success (fail_if_success (have : Phase9 := by assumption))); refine hold_out ?_)
  k_with "compareOp Eq str str" => (refine eq_one (r := true) (by decide) ?_)
  exact True.intro
theorem apc_spec {x dx l M dm : Addr} {vs lv : List Value} {n nl : Nat} {hh c0 : Int} {ks tc : Tok} {ps1 ps2 : Array Value} {rest : List (Addr × Obj)} {e1 e2 e3 e4 e5 e6 mx : Int} {k1 k2 k3 k4 k5 k6 q1 q2 q3 q4 : Tok} {d : Str} {tf te : Tok} {ds : List Str} {ls : List (List Str)} (B : Below A₀ base outer h₀) (F : Fr h₀ L s.heap m) (X : (hd.heap_39 w.params).In h₀) (N : News h₀ L s.heap ((x, accObj dx vs n) :: (dx, dictOf [⟨hh, .str (Str.ofString "_initial_size") ks, .int c0 tc⟩] 1) :: (l, listOf lv.toArray nl) :: (M, instObj 188 dm) :: (dm, dictOf [⟨e1, .str (Str.ofString "_maxlen") k1, .int mx q1⟩, ⟨e2, .str (Str.ofString "_continuation_ws") k2, .str (Str.ofString " ") q2⟩, ⟨e3, .str (Str.ofString "_continuation_ws_len") k3, .int 1 q3⟩, ⟨e4, .str (Str.ofString "_splitchars") k4, .str (Str.ofString " ") q4⟩, ⟨e5, .str (Str.ofString "_lines") k5, .ref l⟩, ⟨e6, .str (Str.ofString "_current_line") k6, .ref x⟩] 6) :: (234, tabObj ps1) :: (241, tabObj ps2) :: rest)) (T : Top pv LSv mean mg mb h₀) (hk : cs.kind = .function)
    (hd1 : dp + 5 < recursionLimit) (hu : un + 500 < cLine) (o1 : @LT.lt Nat _ 241 dm) (o2 : @LT.lt Nat _ dm M) (o3 : @LT.lt Nat _ M l) (o4 : @LT.lt Nat _ l dx) (o5 : @LT.lt Nat _ dx x) (r1 : ∀ p ∈ rest, p.1 ≠ x) (r2 : ∀ p ∈ rest, p.1 ≠ dx) (r3 : ∀ p ∈ rest, p.1 ≠ l) (r4 : ∀ p ∈ rest, p.1 ≠ 234) (r5 : ∀ p ∈ rest, p.1 ≠ 241) (hC : Ck rest vs ds) (hd : d.length = 1) (ht1 : TriplesOk ps1.toList) (ht2 : TriplesOk ps2.toList) (hlen : vs.length ≤ 100) (hlv : lv.length ≤ 100) (hL : StrsAre lv (ls.map lineS)) (hc0 : 0 ≤ c0) (hc1 : c0 ≤ 100) (hmx0 : 0 ≤ mx) (hmx1 : mx ≤ 100) (hno : vs.length = 0 → c0 + 2 ≤ mx)
    (hret : ∀ t ta tb vs' n' c0' tc' lv' nl' ps1' ps2' ds' ls' h' g' tk', (AllBare s.gens → AllBare g') → Fr h₀ L h' m → News h₀ L h' ((x, accObj dx vs' n') :: (dx, dictOf [⟨hh, .str (Str.ofString "_initial_size") ks, .int c0' tc'⟩] 1) :: (l, listOf lv'.toArray nl') :: (M, instObj 188 dm) :: (dm, dictOf [⟨e1, .str (Str.ofString "_maxlen") k1, .int mx q1⟩, ⟨e2, .str (Str.ofString "_continuation_ws") k2, .str (Str.ofString " ") q2⟩, ⟨e3, .str (Str.ofString "_continuation_ws_len") k3, .int 1 q3⟩, ⟨e4, .str (Str.ofString "_splitchars") k4, .str (Str.ofString " ") q4⟩, ⟨e5, .str (Str.ofString "_lines") k5, .ref l⟩, ⟨e6, .str (Str.ofString "_current_line") k6, .ref x⟩] 6) :: (234, tabObj ps1') :: (241, tabObj ps2') :: (t, tupO [.str (Str.ofString " ") ta, .str d tb]) :: rest) → TriplesOk ps1'.toList → TriplesOk ps2'.toList → (∀ nw : List (Addr × Obj), Ck nw vs ds → (t, tupO [.str (Str.ofString " ") ta, .str d tb]) ∈ nw → Ck nw vs' ds') → (∀ p ∈ ((x, accObj dx vs n) :: (dx, dictOf [⟨hh, .str (Str.ofString "_initial_size") ks, .int c0 tc⟩] 1) :: (l, listOf lv.toArray nl) :: (M, instObj 188 dm) :: (dm, dictOf [⟨e1, .str (Str.ofString "_maxlen") k1, .int mx q1⟩, ⟨e2, .str (Str.ofString "_continuation_ws") k2, .str (Str.ofString " ") q2⟩, ⟨e3, .str (Str.ofString "_continuation_ws_len") k3, .int 1 q3⟩, ⟨e4, .str (Str.ofString "_splitchars") k4, .str (Str.ofString " ") q4⟩, ⟨e5, .str (Str.ofString "_lines") k5, .ref l⟩, ⟨e6, .str (Str.ofString "_current_line") k6, .ref x⟩] 6) :: (234, tabObj ps1) :: (241, tabObj ps2) :: rest), p.1 < t) → StrsAre lv' (ls'.map lineS) → lv'.length ≤ lv.length + 1 → (ls', c0', ds') = fmtStep mx (ls, c0, ds) d → Q .none { s with heap := h', gens := g', toks := tk' }) :
    wpAny (model PySem.Challenge.rw_rl0132_01.prog w) (ktrTop dp un gd cn cs L a ccd cl outer) (call (.ref 185) [.ref M, .str (Str.ofString " ") tf, .str d te]) Q E s := by
  revert w pv LSv mean mg mb dp un gd cn cs a ccd cl outer A₀ base h₀ L m s Q E x dx l M dm vs lv n nl hh c0 ks tc ps1 ps2 rest e1 e2 e3 e4 e5 e6 mx k1 k2 k3 k4 k5 k6 q1 q2 q3 q4 d tf te ds ls
  refine (?zh : ∀ w pv LSv mean mg mb dp un gd cn cs a ccd cl outer A₀ base h₀ L m s Q E x dx l M dm vs lv n nl hh c0 ks tc ps1 ps2 rest e1 e2 e3 e4 e5 e6 mx k1 k2 k3 k4 k5 k6 q1 q2 q3 q4 d tf te ds ls, (?zP : _ → _ → _ → _ → _ → _ → _ → _ → _ → _ → _ → _ → _ → _ → _ → _ → _ → _ → _ → _ → _ → _ → _ → _ → _ → _ → _ → _ → _ → _ → _ → _ → _ → _ → _ → _ → _ → _ → _ → _ → _ → _ → _ → _ → _ → _ → _ → _ → _ → _ → _ → _ → _ → _ → _ → _ → _ → _ → _ → _ → _ → Prop) w pv LSv mean mg mb dp un gd cn cs a ccd cl outer A₀ base h₀ L m s Q E x dx l M dm vs lv n nl hh c0 ks tc ps1 ps2 rest e1 e2 e3 e4 e5 e6 mx k1 k2 k3 k4 k5 k6 q1 q2 q3 q4 d tf te ds ls)
  refine fun w pv LSv mean mg mb dp un gd cn cs a ccd cl outer A₀ base h₀ L m s Q E x dx l M dm vs lv n nl hh c0 ks tc ps1 ps2 rest e1 e2 e3 e4 e5 e6 mx k1 k2 k3 k4 k5 k6 q1 q2 q3 q4 d tf te ds ls => allE (P := un2 fun w => un2 fun pv => un2 fun LSv => un2 fun mean => un2 fun mg => un2 fun mb => un2 fun dp => un2 fun un => un2 fun gd => un2 fun cn => un2 fun cs => un2 fun a => un2 fun ccd => un2 fun cl => un2 fun outer => un2 fun A₀ => un2 fun base => un2 fun h₀ => un2 fun L => un2 fun m => un2 fun s => un2 fun Q => un2 fun E => un2 fun x => un2 fun dx => un2 fun l => un2 fun M => un2 fun dm => un2 fun vs => un2 fun lv => un2 fun n => un2 fun nl => un2 fun hh => un2 fun c0 => un2 fun ks => un2 fun tc => un2 fun ps1 => un2 fun ps2 => un2 fun rest => un2 fun e1 => un2 fun e2 => un2 fun e3 => un2 fun e4 => un2 fun e5 => un2 fun e6 => un2 fun mx => un2 fun k1 => un2 fun k2 => un2 fun k3 => un2 fun k4 => un2 fun k5 => un2 fun k6 => un2 fun q1 => un2 fun q2 => un2 fun q3 => un2 fun q4 => un2 fun d => un2 fun tf => un2 fun te => un2 fun ds ls => ?zP w pv LSv mean mg mb dp un gd cn cs a ccd cl outer A₀ base h₀ L m s Q E x dx l M dm vs lv n nl hh c0 ks tc ps1 ps2 rest e1 e2 e3 e4 e5 e6 mx k1 k2 k3 k4 k5 k6 q1 q2 q3 q4 d tf te ds ls) ?zn ?zk (w, pv, LSv, mean, mg, mb, dp, un, gd, cn, cs, a, ccd, cl, outer, A₀, base, h₀, L, m, s, Q, E, x, dx, l, M, dm, vs, lv, n, nl, hh, c0, ks, tc, ps1, ps2, rest, e1, e2, e3, e4, e5, e6, mx, k1, k2, k3, k4, k5, k6, q1, q2, q3, q4, d, tf, te, ds, ls)
  case zn => walk_at "ne"
  clear w pv LSv mean mg mb dp un gd cn cs a ccd cl outer A₀ base h₀ L m s Q E x dx l M dm vs lv n nl hh c0 ks tc ps1 ps2 rest e1 e2 e3 e4 e5 e6 mx k1 k2 k3 k4 k5 k6 q1 q2 q3 q4 d tf te ds ls
  refine (?zj : AtE _ ?zE)
  refine (?zF : ∀ w pv LSv mean mg mb dp un gd cn cs a ccd cl outer A₀ base h₀ L m s Q E x dx l M dm vs lv n nl hh c0 ks tc ps1 ps2 rest e1 e2 e3 e4 e5 e6 mx k1 k2 k3 k4 k5 k6 q1 q2 q3 q4 d tf te ds ls, ?zP w pv LSv mean mg mb dp un gd cn cs a ccd cl outer A₀ base h₀ L m s Q E x dx l M dm vs lv n nl hh c0 ks tc ps1 ps2 rest e1 e2 e3 e4 e5 e6 mx k1 k2 k3 k4 k5 k6 q1 q2 q3 q4 d tf te ds ls) ?zE.1 ?zE.2.1 ?zE.2.2.1 ?zE.2.2.2.1 ?zE.2.2.2.2.1 ?zE.2.2.2.2.2.1 ?zE.2.2.2.2.2.2.1 ?zE.2.2.2.2.2.2.2.1 ?zE.2.2.2.2.2.2.2.2.1 ?zE.2.2.2.2.2.2.2.2.2.1 ?zE.2.2.2.2.2.2.2.2.2.2.1 ?zE.2.2.2.2.2.2.2.2.2.2.2.1 ?zE.2.2.2.2.2.2.2.2.2.2.2.2.1 ?zE.2.2.2.2.2.2.2.2.2.2.2.2.2.1 ?zE.2.2.2.2.2.2.2.2.2.2.2.2.2.2.1 ?zE.2.2.2.2.2.2.2.2.2.2.2.2.2.2.2.1 ?zE.2.2.2.2.2.2.2.2.2.2.2.2.2.2.2.2.1 ?zE.2.2.2.2.2.2.2.2.2.2.2.2.2.2.2.2.2.1 ?zE.2.2.2.2.2.2.2.2.2.2.2.2.2.2.2.2.2.2.1 ?zE.2.2.2.2.2.2.2.2.2.2.2.2.2.2.2.2.2.2.2.1 ?zE.2.2.2.2.2.2.2.2.2.2.2.2.2.2.2.2.2.2.2.2.1 ?zE.2.2.2.2.2.2.2.2.2.2.2.2.2.2.2.2.2.2.2.2.2.1 ?zE.2.2.2.2.2.2.2.2.2.2.2.2.2.2.2.2.2.2.2.2.2.2.1 ?zE.2.2.2.2.2.2.2.2.2.2.2.2.2.2.2.2.2.2.2.2.2.2.2.1 ?zE.2.2.2.2.2.2.2.2.2.2.2.2.2.2.2.2.2.2.2.2.2.2.2.2.1 ?zE.2.2.2.2.2.2.2.2.2.2.2.2.2.2.2.2.2.2.2.2.2.2.2.2.2.1 ?zE.2.2.2.2.2.2.2.2.2.2.2.2.2.2.2.2.2.2.2.2.2.2.2.2.2.2.1 ?zE.2.2.2.2.2.2.2.2.2.2.2.2.2.2.2.2.2.2.2.2.2.2.2.2.2.2.2.1 ?zE.2.2.2.2.2.2.2.2.2.2.2.2.2.2.2.2.2.2.2.2.2.2.2.2.2.2.2.2.1 ?zE.2.2.2.2.2.2.2.2.2.2.2.2.2.2.2.2.2.2.2.2.2.2.2.2.2.2.2.2.2.1 ?zE.2.2.2.2.2.2.2.2.2.2.2.2.2.2.2.2.2.2.2.2.2.2.2.2.2.2.2.2.2.2.1 ?zE.2.2.2.2.2.2.2.2.2.2.2.2.2.2.2.2.2.2.2.2.2.2.2.2.2.2.2.2.2.2.2.1 ?zE.2.2.2.2.2.2.2.2.2.2.2.2.2.2.2.2.2.2.2.2.2.2.2.2.2.2.2.2.2.2.2.2.1 ?zE.2.2.2.2.2.2.2.2.2.2.2.2.2.2.2.2.2.2.2.2.2.2.2.2.2.2.2.2.2.2.2.2.2.1 ?zE.2.2.2.2.2.2.2.2.2.2.2.2.2.2.2.2.2.2.2.2.2.2.2.2.2.2.2.2.2.2.2.2.2.2.1 ?zE.2.2.2.2.2.2.2.2.2.2.2.2.2.2.2.2.2.2.2.2.2.2.2.2.2.2.2.2.2.2.2.2.2.2.2.1 ?zE.2.2.2.2.2.2.2.2.2.2.2.2.2.2.2.2.2.2.2.2.2.2.2.2.2.2.2.2.2.2.2.2.2.2.2.2.1 ?zE.2.2.2.2.2.2.2.2.2.2.2.2.2.2.2.2.2.2.2.2.2.2.2.2.2.2.2.2.2.2.2.2.2.2.2.2.2.1 ?zE.2.2.2.2.2.2.2.2.2.2.2.2.2.2.2.2.2.2.2.2.2.2.2.2.2.2.2.2.2.2.2.2.2.2.2.2.2.2.1 ?zE.2.2.2.2.2.2.2.2.2.2.2.2.2.2.2.2.2.2.2.2.2.2.2.2.2.2.2.2.2.2.2.2.2.2.2.2.2.2.2.1 ?zE.2.2.2.2.2.2.2.2.2.2.2.2.2.2.2.2.2.2.2.2.2.2.2.2.2.2.2.2.2.2.2.2.2.2.2.2.2.2.2.2.1 ?zE.2.2.2.2.2.2.2.2.2.2.2.2.2.2.2.2.2.2.2.2.2.2.2.2.2.2.2.2.2.2.2.2.2.2.2.2.2.2.2.2.2.1 ?zE.2.2.2.2.2.2.2.2.2.2.2.2.2.2.2.2.2.2.2.2.2.2.2.2.2.2.2.2.2.2.2.2.2.2.2.2.2.2.2.2.2.2.1 ?zE.2.2.2.2.2.2.2.2.2.2.2.2.2.2.2.2.2.2.2.2.2.2.2.2.2.2.2.2.2.2.2.2.2.2.2.2.2.2.2.2.2.2.2.1 ?zE.2.2.2.2.2.2.2.2.2.2.2.2.2.2.2.2.2.2.2.2.2.2.2.2.2.2.2.2.2.2.2.2.2.2.2.2.2.2.2.2.2.2.2.2.1 ?zE.2.2.2.2.2.2.2.2.2.2.2.2.2.2.2.2.2.2.2.2.2.2.2.2.2.2.2.2.2.2.2.2.2.2.2.2.2.2.2.2.2.2.2.2.2.1 ?zE.2.2.2.2.2.2.2.2.2.2.2.2.2.2.2.2.2.2.2.2.2.2.2.2.2.2.2.2.2.2.2.2.2.2.2.2.2.2.2.2.2.2.2.2.2.2.1 ?zE.2.2.2.2.2.2.2.2.2.2.2.2.2.2.2.2.2.2.2.2.2.2.2.2.2.2.2.2.2.2.2.2.2.2.2.2.2.2.2.2.2.2.2.2.2.2.2.1 ?zE.2.2.2.2.2.2.2.2.2.2.2.2.2.2.2.2.2.2.2.2.2.2.2.2.2.2.2.2.2.2.2.2.2.2.2.2.2.2.2.2.2.2.2.2.2.2.2.2.1 ?zE.2.2.2.2.2.2.2.2.2.2.2.2.2.2.2.2.2.2.2.2.2.2.2.2.2.2.2.2.2.2.2.2.2.2.2.2.2.2.2.2.2.2.2.2.2.2.2.2.2.1 ?zE.2.2.2.2.2.2.2.2.2.2.2.2.2.2.2.2.2.2.2.2.2.2.2.2.2.2.2.2.2.2.2.2.2.2.2.2.2.2.2.2.2.2.2.2.2.2.2.2.2.2.1 ?zE.2.2.2.2.2.2.2.2.2.2.2.2.2.2.2.2.2.2.2.2.2.2.2.2.2.2.2.2.2.2.2.2.2.2.2.2.2.2.2.2.2.2.2.2.2.2.2.2.2.2.2.1 ?zE.2.2.2.2.2.2.2.2.2.2.2.2.2.2.2.2.2.2.2.2.2.2.2.2.2.2.2.2.2.2.2.2.2.2.2.2.2.2.2.2.2.2.2.2.2.2.2.2.2.2.2.2.1 ?zE.2.2.2.2.2.2.2.2.2.2.2.2.2.2.2.2.2.2.2.2.2.2.2.2.2.2.2.2.2.2.2.2.2.2.2.2.2.2.2.2.2.2.2.2.2.2.2.2.2.2.2.2.2.1 ?zE.2.2.2.2.2.2.2.2.2.2.2.2.2.2.2.2.2.2.2.2.2.2.2.2.2.2.2.2.2.2.2.2.2.2.2.2.2.2.2.2.2.2.2.2.2.2.2.2.2.2.2.2.2.2.1 ?zE.2.2.2.2.2.2.2.2.2.2.2.2.2.2.2.2.2.2.2.2.2.2.2.2.2.2.2.2.2.2.2.2.2.2.2.2.2.2.2.2.2.2.2.2.2.2.2.2.2.2.2.2.2.2.2.1 ?zE.2.2.2.2.2.2.2.2.2.2.2.2.2.2.2.2.2.2.2.2.2.2.2.2.2.2.2.2.2.2.2.2.2.2.2.2.2.2.2.2.2.2.2.2.2.2.2.2.2.2.2.2.2.2.2.2.1 ?zE.2.2.2.2.2.2.2.2.2.2.2.2.2.2.2.2.2.2.2.2.2.2.2.2.2.2.2.2.2.2.2.2.2.2.2.2.2.2.2.2.2.2.2.2.2.2.2.2.2.2.2.2.2.2.2.2.2.1 ?zE.2.2.2.2.2.2.2.2.2.2.2.2.2.2.2.2.2.2.2.2.2.2.2.2.2.2.2.2.2.2.2.2.2.2.2.2.2.2.2.2.2.2.2.2.2.2.2.2.2.2.2.2.2.2.2.2.2.2.1 ?zE.2.2.2.2.2.2.2.2.2.2.2.2.2.2.2.2.2.2.2.2.2.2.2.2.2.2.2.2.2.2.2.2.2.2.2.2.2.2.2.2.2.2.2.2.2.2.2.2.2.2.2.2.2.2.2.2.2.2.2.1 ?zE.2.2.2.2.2.2.2.2.2.2.2.2.2.2.2.2.2.2.2.2.2.2.2.2.2.2.2.2.2.2.2.2.2.2.2.2.2.2.2.2.2.2.2.2.2.2.2.2.2.2.2.2.2.2.2.2.2.2.2.2
  intros w pv LSv mean mg mb dp un gd cn cs a ccd cl outer A₀ base h₀ L m s Q E x dx l M dm vs lv n nl hh c0 ks tc ps1 ps2 rest e1 e2 e3 e4 e5 e6 mx k1 k2 k3 k4 k5 k6 q1 q2 q3 q4 d tf te ds ls
  intro B F X N T hk hd1 hu o1 o2 o3 o4 o5 r1 r2 r3 r4 r5 hC hd ht1 ht2 hlen hlv hL hc0 hc1 hmx0 hmx1 hno hret
  revert X; k_fill; intro X
  refine wpAny_call ?_
  k_dflt walk_at "en"
  k_steps
  · refine hold_in ?_
    (rename Fr _ _ _ _ => lF')
    k_dflt (refine For_text lF' rfl rfl rfl ?_)
    k_steps
    (rename Fr _ _ _ _ => lF'); (rename News _ _ _ _ => lN')
    refine ⟨_, 32, _, _, _, rfl, by decide, by decide, lF', lN', ?_⟩
    intro t h tk I oI hlt F' N'
    k_lt hlt
    clear lF' lN'
    k_steps
    refine hold_in ?_
    (rename Fr _ _ _ _ => lF')
    k_dflt (refine For_down lF' rfl rfl rfl ?_)
    k_steps
    (rename Fr _ _ _ _ => lF'); (rename News _ _ _ _ => lN'); (rename IsRange _ _ _ _ _ _ _ _ => rgX)
    have hvl : 1 ≤ vs.length := Nat.pos_of_ne_zero fun h0 => by
      have := hno h0
      omega
    refine ⟨_, (vs.length : Int), 0, _, _, _, _, _, rfl, len_range rgX, ⟨by omega, by omega, by omega, by omega⟩, lF', lN', ?_⟩
    clear rgX
    intro t h tk I oI hlt F' N'
    k_lt hlt
    clear lF' lN'
    have ph9 := Phase9.mk
    k_steps
    refine hold_in ?_
    k_dflt (refine acc_item (v := .ref _) (by k_asm) (by k_asm) (by k_asm) (by k_mem) (by k_mem) (by k_is) (by k_is) (by k_is) (by omega) (by omega) (List.getElem?_concat_length ..) ?_ ⟨_, by with_unfolding_all rfl⟩)
    k_steps
    refine hold_in ?_
    k_dflt (refine tup_fst (by k_asm) (by k_mem) ?_ (by with_unfolding_all rfl))
    clear ph9
    k_steps
    refine hold_in ?_
    k_dflt (refine' reset_spec ?k1 ?k2 ?k3 ?k4 ?k5 ?k6 ?k7 ?k8 ?p1 ?p2 ?p3 ?p4 ?p5 ?p6 ?p7 ?_)
    case k1 => k_asm
    case k2 => k_asm
    case k3 => k_asm
    case k4 => k_asm
    case k5 => k_asm
    case k6 => first | rfl | assumption
    case k7 => ktr_room
    case k8 => ktr_units
    case p1 => k_mem
    case p2 => k_mem
    case p3 => k_updF
    case p4 => intro o9; k_updF
    case p5 => k_mem
    case p6 => first | omega | (simp only [List.length_append, List.length_cons, List.length_nil]; omega)
    case p7 => first | omega | (simp only [List.length_append, List.length_cons, List.length_nil]; omega)
    intro h' tk' n' tz' F' N'
    (try dsimp only at N')
    (try k_sweep)
    k_steps
    (rename News h₀ L _ _ => kN9); (rename Fr h₀ L _ _ => kF9)
    refine hret _ _ _ _ _ _ _ (lv ++ [Value.str (lineS ds) _]) _ _ _ [d] (ls ++ [ds]) _ _ _ (by first | exact fun z9 => z9 | (intro z9; (repeat (first | exact z9 | apply_assumption)); done)) kF9 (nsub kN9 (subs_cons (by k_mem) (subs_cons (by k_mem) (subs_cons (by k_mem) (subs_cons (by k_mem) (subs_cons (by k_mem) (subs_cons (by k_mem) (subs_cons (by k_mem) (subs_cons (by k_mem) (fun p9 hp9 => by k_mem)))))))))) (by assumption) (by assumption) (fun nw9 _ hm9 => Ck.one hd hm9) (by first | assumption | exact allLt_mem (by assumption)) (by rw [List.map_append]; exact strs_snoc hL) (by simp) (by unfold fmtStep; rw [if_neg (by have := hC.1; dsimp only; omega)])
  (rename News h₀ L _ _ => kN9); (rename Fr h₀ L _ _ => kF9)
  refine hret _ _ _ _ _ _ _ lv _ _ _ (ds ++ [d]) ls _ _ _ (by first | exact fun z9 => z9 | (intro z9; (repeat (first | exact z9 | apply_assumption)); done)) kF9 (nsub kN9 (subs_cons (by k_mem) (subs_cons (by k_mem) (subs_cons (by k_mem) (subs_cons (by k_mem) (subs_cons (by k_mem) (subs_cons (by k_mem) (subs_cons (by k_mem) (subs_cons (by k_mem) (fun p9 hp9 => by k_mem)))))))))) (by assumption) (by assumption) (fun nw9 hC9 hm9 => Ck.snoc hC9 hd hm9) (by first | assumption | exact allLt_mem (by assumption)) hL (by omega) (by unfold fmtStep; rw [if_pos (by have := hC.1; dsimp only; omega)])
  run_tac fin
end
end
section
theorem fresh_D11 : True := by w_top off; exact True.intro
set_option maxHeartbeats 8000000
theorem Ck.last {nw : List (Addr × Obj)} {vs : List Value} {ds : List Str} (h : Ck nw vs ds) (hp : 1 ≤ vs.length) : ∃ us es t a b d, vs = us ++ [.ref t] ∧ ds = es ++ [d] ∧ (t, tupO [.str (Str.ofString " ") a, .str d b]) ∈ nw ∧ Ck nw us es ∧ d.length = 1 := by
  obtain ⟨h1, h2, h3⟩ := h
  obtain ⟨t, a, b, e, hm⟩ := h3 (vs.length - 1) (by omega)
  have hds : ds ≠ [] := by intro e; rw [e] at h1; simp at h1; rw [h1] at hp; exact absurd hp (by simp)
  have hvs : vs ≠ [] := by intro e; rw [e] at hp; exact absurd hp (by simp)
  have e0 : vs.getLast hvs = .ref t := by
    rw [List.getElem?_eq_getElem (by omega)] at e
    rw [List.getLast_eq_getElem]
    exact Option.some.inj e
  have e1 : vs = vs.dropLast ++ [.ref t] := by rw [← e0]; exact (List.dropLast_concat_getLast hvs).symm
  have e2 : ds = ds.dropLast ++ [ds.getLast hds] := (List.dropLast_concat_getLast hds).symm
  have e3 : ds.getD (vs.length - 1) (Str.ofString "") = ds.getLast hds := by
    rw [List.getLast_eq_getElem, h1]
    simp [List.getD, List.getElem?_eq_getElem (show ds.length - 1 < ds.length by omega)]
  refine ⟨vs.dropLast, ds.dropLast, t, a, b, ds.getLast hds, e1, e2, by rw [← e3]; exact hm, ⟨by simp [h1], fun d hd => h2 d (List.dropLast_subset _ hd), fun j hj => ?_⟩, h2 _ (List.getLast_mem hds)⟩
  simp at hj
  obtain ⟨t', a', b', e', m'⟩ := h3 j (by omega)
  refine ⟨t', a', b', by rw [List.getElem?_dropLast, if_pos hj]; exact e', ?_⟩
  have e4 : ds.dropLast.getD j (Str.ofString "") = ds.getD j (Str.ofString "") := by
    simp only [List.getD, List.getElem?_dropLast]
    rw [if_pos (by omega)]
  rw [e4]; exact m'
open Classical in
theorem ne_chunk {prog : Program} {w : World} {A : Around} {E : Value → Shared → Prop} {s : Shared} {h₀ : Heap} {L : Addr} {news : List (Addr × Obj)} {Q : Value → Shared → Prop} {t u : Addr} {f f' d d' : Str} {a a' b b' : Tok} (N : News h₀ L s.heap news) (ha : (t, tupO [.str f a, .str d b]) ∈ news) (hb : (u, tupO [.str f' a', .str d' b']) ∈ news)
    (k1 : PyData.strOk f = true) (k2 : PyData.strOk d = true) (k3 : PyData.strOk f' = true) (k4 : PyData.strOk d' = true) (hne : d ≠ d') (hu : A.units + 64 < cLine) (h : Q (.bool true) s) : wpAny (model prog w) A (compareOp .NotEq (.ref t) (.ref u)) Q E s := by
  have D1 : DatIn news (.ref t) (.tuple [.str f, .str d]) := .tuple ha (.cons (.str _ _) (.cons (.str _ _) .nil))
  have D2 : DatIn news (.ref u) (.tuple [.str f', .str d']) := .tuple hb (.cons (.str _ _) (.cons (.str _ _) .nil))
  refine ne_dat N D1 D2 (by simp [kqdOk, k1, k2]) (by simp [kqdOk, k3, k4]) hu ?_
  have e : ¬ (Dat.tuple [.str f, .str d] = .tuple [.str f', .str d']) := by simp [hne]
  rw [decide_eq_false e]; exact h
theorem ne_empty {d : Str} (h : d.length = 1) : d ≠ Str.ofString "" := by
  intro e; rw [e] at h; revert h; decide
section
variable {w : World} {pv : Program} {LSv : List Str} {mean : ExcName → Option Value} {mg mb : Str → Option Value}
    {dp un : Nat} {gd : Option (List Code)} {cn : Str} {cs : Scope} {a : Addr} {ccd : Value} {cl : List (Str × Addr)} {outer : List Env} {A₀ : Around} {base h₀ : Heap} {L : Addr} {m : Str → Option Value} {news : List (Addr × Obj)} {s : Shared}
    {Q E : Value → Shared → Prop}
theorem rows_D11_0 : True := by
  k_with_none
  k_with "call builtin:list.append" => (k_here; (with_reducible show wpAny _ _ (call (Value.builtin _) [Value.ref _, _]) _ _ _); k_dflt (refine' append_N ?k1 ?k2 ?k3 ?z ?_; (case k1 => k_asm); (case k2 => k_asm); (case k3 => k_upd); (case z => omega); k_whole); intro hQq7 FQq7 NQq7; (try k_sweep))
  k_with "call builtin:len" => (k_here; (with_reducible show wpAny _ _ (call (Value.builtin "len") [Value.ref _]) _ _ _); k_dflt (refine' len_K ?k1 ?k2 ?k3 ?k4 ?k5 ?_; (case k1 => k_asm); (case k2 => k_asm); (case k3 => k_inst); (case k4 => k_is); (case k5 => k_is); k_whole))
  k_with "getMethod ref" => (k_here; k_dflt (refine' acc_methF ?k1 ?k2 ?k3 ?k4 ?k5 ?k6 ?k7 ?k8 ?k9 ?_; (case k1 => k_asm); (case k2 => k_asm); (case k3 => k_asm); (case k4 => (with_reducible (repeat (first | exact List.mem_cons_self | assumption | refine List.mem_cons_of_mem _ ?_)))); (case k5 => k_mem); (case k6 => kernel_rfl); (case k7 => k_is); (case k8 => k_is); (case k9 => k_get); k_whole))
  k_with "call ref" => (k_here; (with_reducible show wpAny _ _ (call (Value.ref 232) _) _ _ _); k_dflt (refine' pop_spec ?k1 ?k2 ?k3 ?k4 ?k5 ?k6 ?k7 ?k8 ?p1 ?p2 ?p3 ?p4 ?p5 ?_; (case k1 => k_asm); (case k2 => k_asm); (case k3 => k_asm); (case k4 => k_asm); (case k5 => k_asm); (case k6 => first | rfl | assumption); (case k7 => ktr_room); (case k8 => ktr_units); (case p1 => k_mem); (case p2 => k_mem); (case p3 => k_updF); (case p4 => rfl); (case p5 => (first | omega | (simp only [List.length_append, List.length_cons, List.length_nil]; omega))); k_whole); intro hQq7 tkQq7 nQq7 FQq7 NQq7; (try dsimp only at NQq7); (try k_sweep))
  k_with "call ref" => (k_here; (with_reducible show wpAny _ _ (call (Value.ref 239) _) _ _ _); k_dflt (refine' clen_spec ?k1 ?k2 ?k3 ?k4 ?k5 ?k6 ?k7 ?k8 ?p1 ?p2 ?p3 ?p4 ?p5 ?p6 ?p7 ?p8 ?_; (case k1 => k_asm); (case k2 => k_asm); (case k3 => k_asm); (case k4 => k_asm); (case k5 => k_asm); (case k6 => first | rfl | assumption); (case k7 => ktr_room); (case k8 => ktr_units); (case p1 => k_mem); (case p2 => k_mem); (case p3 => (first | assumption | exact Ck.up (by assumption) (by intro p hp; k_mem) | exact Ck.snoc (Ck.up (by assumption) (by intro p hp; k_mem)) (by assumption) (by k_mem))); (case p4 => k_updF); (case p5 => assumption); (case p6 => (first | omega | (simp only [List.length_append, List.length_cons, List.length_nil]; omega))); (case p7 => omega); (case p8 => omega); k_whole); intro hQq7 gQq7 tkQq7 tQq7 psQq7 hgk9Qq7 FQq7 NQq7 htQq7; (try dsimp only at NQq7); (try simp only [List.length_append, List.length_cons, List.length_nil]); (try dsimp only [W.LenBack, W.StrBack, IntTruth]); (try refine ⟨⟨by omega, by omega⟩, ?_⟩); (try k_sweep))
  k_with "call ref" => (k_here; (with_reducible show wpAny _ _ (call (Value.ref 246) _) _ _ _); k_dflt (refine' cstr_spec ?k1 ?k2 ?k3 ?k4 ?k5 ?k6 ?k7 ?k8 ?p1 ?p2 ?p3 ?p4 ?p5 ?p6 ?_; (case k1 => k_asm); (case k2 => k_asm); (case k3 => k_asm); (case k4 => k_asm); (case k5 => k_asm); (case k6 => first | rfl | assumption); (case k7 => ktr_room); (case k8 => ktr_units); (case p1 => k_mem); (case p2 => k_mem); (case p3 => (first | assumption | exact Ck.up (by assumption) (by intro p hp; k_mem) | exact Ck.snoc (Ck.up (by assumption) (by intro p hp; k_mem)) (by assumption) (by k_mem))); (case p4 => k_updF); (case p5 => assumption); (case p6 => (first | omega | (simp only [List.length_append, List.length_cons, List.length_nil]; omega))); k_whole); intro hQq7 gQq7 tkQq7 tQq7 psQq7 hgk9Qq7 FQq7 NQq7 htQq7; (try dsimp only at NQq7); (try dsimp only [W.LenBack, W.StrBack, IntTruth]); (try refine ⟨⟨by omega, by omega⟩, ?_⟩); (try k_sweep))
  k_with "call ref" => (k_here; (with_reducible show wpAny _ _ (call (Value.ref 261) _) _ _ _); k_dflt (refine' cows_spec ?k1 ?k2 ?k3 ?k4 ?k5 ?k6 ?k7 ?k8 ?p1 ?p2 ?p3 ?p4 ?p5 ?p6 ?p7 ?p8 ?p9 ?p10 ?p11 ?p12 ?_; (case k1 => k_asm); (case k2 => k_asm); (case k3 => k_asm); (case k4 => k_asm); (case k5 => k_asm); (case k6 => first | rfl | assumption); (case k7 => ktr_room); (case k8 => ktr_units); (case p1 => k_mem); (case p2 => k_mem); (case p3 => (first | assumption | exact Ck.up (by assumption) (by intro p hp; k_mem) | exact Ck.snoc (Ck.up (by assumption) (by intro p hp; k_mem)) (by assumption) (by k_mem))); (case p4 => k_updF); (case p5 => assumption); (case p6 => (intro o9; k_updF)); (case p7 => assumption); (case p8 => (first | omega | (simp only [List.length_append, List.length_cons, List.length_nil]; omega))); (case p9 => (first | omega | (simp only [List.length_append, List.length_cons, List.length_nil]; omega))); (case p10 => assumption); (case p11 => omega); (case p12 => omega); k_whole); intro hQq7 gQq7 tkQq7 ps1Qq7 ps2Qq7 hgk9Qq7 FQq7 NQq7 ht1Qq7 ht2Qq7; (try dsimp only at NQq7); (try k_sweep))
  k_with "call ref" => (k_here; (with_reducible show wpAny _ _ (call (Value.ref 254) _) _ _ _); k_dflt (refine' reset_spec0 ?k1 ?k2 ?k3 ?k4 ?k5 ?k6 ?k7 ?k8 ?p1 ?p2 ?p3 ?p4 ?p5 ?_; (case k1 => k_asm); (case k2 => k_asm); (case k3 => k_asm); (case k4 => k_asm); (case k5 => k_asm); (case k6 => first | rfl | assumption); (case k7 => ktr_room); (case k8 => ktr_units); (case p1 => k_mem); (case p2 => k_mem); (case p3 => k_updF); (case p4 => (intro o9; k_updF)); (case p5 => (first | omega | (simp only [List.length_append, List.length_cons, List.length_nil]; omega))); k_whole); intro hQq7 tkQq7 nQq7 tzQq7 FQq7 NQq7; (try dsimp only at NQq7); (try k_sweep))
  k_with "compareOp NotEq ref ref" => (k_here; k_dflt (refine' ne_chunk ?k1 ?k2 ?k3 ?k4 ?k5 ?k6 ?k7 ?k8 ?k9 ?_; (case k1 => k_asm); (case k2 => k_mem); (case k3 => k_mem); (case k4 => decide +kernel); (case k5 => assumption); (case k6 => decide +kernel); (case k7 => decide +kernel); (case k8 => exact ne_empty (by assumption)); (case k9 => ktr_units); k_whole))
  k_with "call ref" => (k_here; k_dflt (refine' pushM_spec ?k1 ?k2 ?k3 ?k4 ?k5 ?k6 ?k7 ?k8 ?p1 ?p2 ?p5 ?p3 ?p4 ?_; (case k1 => k_asm); (case k2 => k_asm); (case k3 => k_asm); (case k4 => k_asm); (case k5 => k_asm); (case k6 => first | rfl | assumption); (case k7 => ktr_room); (case k8 => ktr_units); (case p5 => (with_reducible (repeat (first | exact List.mem_cons_self | assumption | refine List.mem_cons_of_mem _ ?_)))); (case p1 => k_mem); (case p2 => k_mem); (case p3 => k_updF); (case p4 => (first | omega | (simp only [List.length_append, List.length_cons, List.length_nil] at *; omega))); k_whole); intro hQq7 tkQq7 nQq7 tQq7 FQq7 NQq7 l1Qq7; (try dsimp only at NQq7); (try k_lt l1Qq7); (try k_sweep))
  k_with "eval Call Attribute" => (k_here; (with_reducible show wpAny _ _ (eval (PySem.Expr.Call (PySem.Expr.Attribute _ _ _) [PySem.Expr.Starred _ _] [] _) _) _ _ _); refine methodCall_S ?_ (by first | rfl | with_unfolding_all rfl))
  k_with "getAttr ref" => (k_here; k_dflt (refine' acc_getM ?k1 ?k2 ?k3 ?k4 ?k5 ?k6 ?k7 ?k8 ?k9 ?k10 ?k11 ?k12 ?k13 ?k14 ?_; (case k1 => k_asm); (case k2 => k_asm); (case k3 => k_asm); (case k4 => (with_reducible (repeat (first | exact List.mem_cons_self | assumption | refine List.mem_cons_of_mem _ ?_)))); (case k5 => k_mem); (case k6 => kernel_rfl); (case k7 => k_is); (case k8 => k_is); (case k9 => k_is); (case k10 => k_is); (case k11 => k_is); (case k12 => k_is); (case k13 => decide +kernel); (case k14 => k_get); k_whole); intro qQq7 hQq7 FQq7 NQq7 l1Qq7; (try k_lt l1Qq7); (try k_sweep))
  k_with "callWith ref" => (k_here; (with_reducible show wpAny _ _ (callWith _ (Value.ref _) _ (backTo _ (starEach [PySem.Expr.Starred _ _] _)) []) _ _ _); k_dflt (refine' callWith_MS ?k1 ?k2 ?k3 ?k4 ?_; (case k1 => k_asm); (case k2 => k_asm); (case k3 => k_mem); (case k4 => k_is); k_whole))
  exact True.intro
theorem newline_spec {x dx l M dm : Addr} {vs lv : List Value} {n nl : Nat} {hh c0 : Int} {ks tc : Tok} {ps1 ps2 : Array Value} {rest : List (Addr × Obj)} {e1 e2 e3 e4 e5 e6 mx : Int} {k1 k2 k3 k4 k5 k6 q1 q2 q3 q4 : Tok} {ds : List Str} (B : Below A₀ base outer h₀) (F : Fr h₀ L s.heap m) (X : (hd.heap_39 w.params).In h₀) (N : News h₀ L s.heap ((x, accObj dx vs n) :: (dx, dictOf [⟨hh, .str (Str.ofString "_initial_size") ks, .int c0 tc⟩] 1) :: (l, listOf lv.toArray nl) :: (M, instObj 188 dm) :: (dm, dictOf [⟨e1, .str (Str.ofString "_maxlen") k1, .int mx q1⟩, ⟨e2, .str (Str.ofString "_continuation_ws") k2, .str (Str.ofString " ") q2⟩, ⟨e3, .str (Str.ofString "_continuation_ws_len") k3, .int 1 q3⟩, ⟨e4, .str (Str.ofString "_splitchars") k4, .str (Str.ofString " ") q4⟩, ⟨e5, .str (Str.ofString "_lines") k5, .ref l⟩, ⟨e6, .str (Str.ofString "_current_line") k6, .ref x⟩] 6) :: (234, tabObj ps1) :: (241, tabObj ps2) :: rest)) (T : Top pv LSv mean mg mb h₀) (hk : cs.kind = .function)
    (hd1 : dp + 5 < recursionLimit) (hu : un + 500 < cLine) (o1 : @LT.lt Nat _ 241 dm) (o2 : @LT.lt Nat _ dm M) (o3 : @LT.lt Nat _ M l) (o4 : @LT.lt Nat _ l dx) (o5 : @LT.lt Nat _ dx x) (r1 : ∀ p ∈ rest, p.1 ≠ x) (r2 : ∀ p ∈ rest, p.1 ≠ dx) (r3 : ∀ p ∈ rest, p.1 ≠ l) (r4 : ∀ p ∈ rest, p.1 ≠ 234) (r5 : ∀ p ∈ rest, p.1 ≠ 241) (hC : Ck rest vs ds) (ht1 : TriplesOk ps1.toList) (ht2 : TriplesOk ps2.toList) (hok : ∀ d ∈ ds, PyData.strOk d = true) (hpos : 1 ≤ vs.length) (hlen : vs.length ≤ 100) (hlv : lv.length ≤ 100) (hsp : Txt.isspace (lineS ds) = false) (hc0 : 0 ≤ c0) (hc1 : c0 ≤ 100)
    (hret : ∀ tkn nl' ps1' ps2' h' g' tk', (AllBare s.gens → AllBare g') → Fr h₀ L h' m → News h₀ L h' ((l, listOf (lv ++ [Value.str (lineS ds) tkn]).toArray nl') :: (M, instObj 188 dm) :: (dm, dictOf [⟨e1, .str (Str.ofString "_maxlen") k1, .int mx q1⟩, ⟨e2, .str (Str.ofString "_continuation_ws") k2, .str (Str.ofString " ") q2⟩, ⟨e3, .str (Str.ofString "_continuation_ws_len") k3, .int 1 q3⟩, ⟨e4, .str (Str.ofString "_splitchars") k4, .str (Str.ofString " ") q4⟩, ⟨e5, .str (Str.ofString "_lines") k5, .ref l⟩, ⟨e6, .str (Str.ofString "_current_line") k6, .ref x⟩] 6) :: (234, tabObj ps1') :: (241, tabObj ps2') :: rest) → TriplesOk ps1'.toList → TriplesOk ps2'.toList → Q .none { s with heap := h', gens := g', toks := tk' }) :
    wpAny (model PySem.Challenge.rw_rl0132_01.prog w) (ktrTop dp un gd cn cs L a ccd cl outer) (call (.ref 150) [.ref M]) Q E s := by
  revert w pv LSv mean mg mb dp un gd cn cs a ccd cl outer A₀ base h₀ L m s Q E x dx l M dm vs lv n nl hh c0 ks tc ps1 ps2 rest e1 e2 e3 e4 e5 e6 mx k1 k2 k3 k4 k5 k6 q1 q2 q3 q4 ds
  refine (?zh : ∀ w pv LSv mean mg mb dp un gd cn cs a ccd cl outer A₀ base h₀ L m s Q E x dx l M dm vs lv n nl hh c0 ks tc ps1 ps2 rest e1 e2 e3 e4 e5 e6 mx k1 k2 k3 k4 k5 k6 q1 q2 q3 q4 ds, (?zP : _ → _ → _ → _ → _ → _ → _ → _ → _ → _ → _ → _ → _ → _ → _ → _ → _ → _ → _ → _ → _ → _ → _ → _ → _ → _ → _ → _ → _ → _ → _ → _ → _ → _ → _ → _ → _ → _ → _ → _ → _ → _ → _ → _ → _ → _ → _ → _ → _ → _ → _ → _ → _ → _ → _ → _ → _ → Prop) w pv LSv mean mg mb dp un gd cn cs a ccd cl outer A₀ base h₀ L m s Q E x dx l M dm vs lv n nl hh c0 ks tc ps1 ps2 rest e1 e2 e3 e4 e5 e6 mx k1 k2 k3 k4 k5 k6 q1 q2 q3 q4 ds)
  refine fun w pv LSv mean mg mb dp un gd cn cs a ccd cl outer A₀ base h₀ L m s Q E x dx l M dm vs lv n nl hh c0 ks tc ps1 ps2 rest e1 e2 e3 e4 e5 e6 mx k1 k2 k3 k4 k5 k6 q1 q2 q3 q4 ds => allE (P := un2 fun w => un2 fun pv => un2 fun LSv => un2 fun mean => un2 fun mg => un2 fun mb => un2 fun dp => un2 fun un => un2 fun gd => un2 fun cn => un2 fun cs => un2 fun a => un2 fun ccd => un2 fun cl => un2 fun outer => un2 fun A₀ => un2 fun base => un2 fun h₀ => un2 fun L => un2 fun m => un2 fun s => un2 fun Q => un2 fun E => un2 fun x => un2 fun dx => un2 fun l => un2 fun M => un2 fun dm => un2 fun vs => un2 fun lv => un2 fun n => un2 fun nl => un2 fun hh => un2 fun c0 => un2 fun ks => un2 fun tc => un2 fun ps1 => un2 fun ps2 => un2 fun rest => un2 fun e1 => un2 fun e2 => un2 fun e3 => un2 fun e4 => un2 fun e5 => un2 fun e6 => un2 fun mx => un2 fun k1 => un2 fun k2 => un2 fun k3 => un2 fun k4 => un2 fun k5 => un2 fun k6 => un2 fun q1 => un2 fun q2 => un2 fun q3 => un2 fun q4 ds => ?zP w pv LSv mean mg mb dp un gd cn cs a ccd cl outer A₀ base h₀ L m s Q E x dx l M dm vs lv n nl hh c0 ks tc ps1 ps2 rest e1 e2 e3 e4 e5 e6 mx k1 k2 k3 k4 k5 k6 q1 q2 q3 q4 ds) ?zn ?zk (w, pv, LSv, mean, mg, mb, dp, un, gd, cn, cs, a, ccd, cl, outer, A₀, base, h₀, L, m, s, Q, E, x, dx, l, M, dm, vs, lv, n, nl, hh, c0, ks, tc, ps1, ps2, rest, e1, e2, e3, e4, e5, e6, mx, k1, k2, k3, k4, k5, k6, q1, q2, q3, q4, ds)
  case zn => walk_at "ne"
  clear w pv LSv mean mg mb dp un gd cn cs a ccd cl outer A₀ base h₀ L m s Q E x dx l M dm vs lv n nl hh c0 ks tc ps1 ps2 rest e1 e2 e3 e4 e5 e6 mx k1 k2 k3 k4 k5 k6 q1 q2 q3 q4 ds
  refine (?zj : AtE _ ?zE)
  refine (?zF : ∀ w pv LSv mean mg mb dp un gd cn cs a ccd cl outer A₀ base h₀ L m s Q E x dx l M dm vs lv n nl hh c0 ks tc ps1 ps2 rest e1 e2 e3 e4 e5 e6 mx k1 k2 k3 k4 k5 k6 q1 q2 q3 q4 ds, ?zP w pv LSv mean mg mb dp un gd cn cs a ccd cl outer A₀ base h₀ L m s Q E x dx l M dm vs lv n nl hh c0 ks tc ps1 ps2 rest e1 e2 e3 e4 e5 e6 mx k1 k2 k3 k4 k5 k6 q1 q2 q3 q4 ds) ?zE.1 ?zE.2.1 ?zE.2.2.1 ?zE.2.2.2.1 ?zE.2.2.2.2.1 ?zE.2.2.2.2.2.1 ?zE.2.2.2.2.2.2.1 ?zE.2.2.2.2.2.2.2.1 ?zE.2.2.2.2.2.2.2.2.1 ?zE.2.2.2.2.2.2.2.2.2.1 ?zE.2.2.2.2.2.2.2.2.2.2.1 ?zE.2.2.2.2.2.2.2.2.2.2.2.1 ?zE.2.2.2.2.2.2.2.2.2.2.2.2.1 ?zE.2.2.2.2.2.2.2.2.2.2.2.2.2.1 ?zE.2.2.2.2.2.2.2.2.2.2.2.2.2.2.1 ?zE.2.2.2.2.2.2.2.2.2.2.2.2.2.2.2.1 ?zE.2.2.2.2.2.2.2.2.2.2.2.2.2.2.2.2.1 ?zE.2.2.2.2.2.2.2.2.2.2.2.2.2.2.2.2.2.1 ?zE.2.2.2.2.2.2.2.2.2.2.2.2.2.2.2.2.2.2.1 ?zE.2.2.2.2.2.2.2.2.2.2.2.2.2.2.2.2.2.2.2.1 ?zE.2.2.2.2.2.2.2.2.2.2.2.2.2.2.2.2.2.2.2.2.1 ?zE.2.2.2.2.2.2.2.2.2.2.2.2.2.2.2.2.2.2.2.2.2.1 ?zE.2.2.2.2.2.2.2.2.2.2.2.2.2.2.2.2.2.2.2.2.2.2.1 ?zE.2.2.2.2.2.2.2.2.2.2.2.2.2.2.2.2.2.2.2.2.2.2.2.1 ?zE.2.2.2.2.2.2.2.2.2.2.2.2.2.2.2.2.2.2.2.2.2.2.2.2.1 ?zE.2.2.2.2.2.2.2.2.2.2.2.2.2.2.2.2.2.2.2.2.2.2.2.2.2.1 ?zE.2.2.2.2.2.2.2.2.2.2.2.2.2.2.2.2.2.2.2.2.2.2.2.2.2.2.1 ?zE.2.2.2.2.2.2.2.2.2.2.2.2.2.2.2.2.2.2.2.2.2.2.2.2.2.2.2.1 ?zE.2.2.2.2.2.2.2.2.2.2.2.2.2.2.2.2.2.2.2.2.2.2.2.2.2.2.2.2.1 ?zE.2.2.2.2.2.2.2.2.2.2.2.2.2.2.2.2.2.2.2.2.2.2.2.2.2.2.2.2.2.1 ?zE.2.2.2.2.2.2.2.2.2.2.2.2.2.2.2.2.2.2.2.2.2.2.2.2.2.2.2.2.2.2.1 ?zE.2.2.2.2.2.2.2.2.2.2.2.2.2.2.2.2.2.2.2.2.2.2.2.2.2.2.2.2.2.2.2.1 ?zE.2.2.2.2.2.2.2.2.2.2.2.2.2.2.2.2.2.2.2.2.2.2.2.2.2.2.2.2.2.2.2.2.1 ?zE.2.2.2.2.2.2.2.2.2.2.2.2.2.2.2.2.2.2.2.2.2.2.2.2.2.2.2.2.2.2.2.2.2.1 ?zE.2.2.2.2.2.2.2.2.2.2.2.2.2.2.2.2.2.2.2.2.2.2.2.2.2.2.2.2.2.2.2.2.2.2.1 ?zE.2.2.2.2.2.2.2.2.2.2.2.2.2.2.2.2.2.2.2.2.2.2.2.2.2.2.2.2.2.2.2.2.2.2.2.1 ?zE.2.2.2.2.2.2.2.2.2.2.2.2.2.2.2.2.2.2.2.2.2.2.2.2.2.2.2.2.2.2.2.2.2.2.2.2.1 ?zE.2.2.2.2.2.2.2.2.2.2.2.2.2.2.2.2.2.2.2.2.2.2.2.2.2.2.2.2.2.2.2.2.2.2.2.2.2.1 ?zE.2.2.2.2.2.2.2.2.2.2.2.2.2.2.2.2.2.2.2.2.2.2.2.2.2.2.2.2.2.2.2.2.2.2.2.2.2.2.1 ?zE.2.2.2.2.2.2.2.2.2.2.2.2.2.2.2.2.2.2.2.2.2.2.2.2.2.2.2.2.2.2.2.2.2.2.2.2.2.2.2.1 ?zE.2.2.2.2.2.2.2.2.2.2.2.2.2.2.2.2.2.2.2.2.2.2.2.2.2.2.2.2.2.2.2.2.2.2.2.2.2.2.2.2.1 ?zE.2.2.2.2.2.2.2.2.2.2.2.2.2.2.2.2.2.2.2.2.2.2.2.2.2.2.2.2.2.2.2.2.2.2.2.2.2.2.2.2.2.1 ?zE.2.2.2.2.2.2.2.2.2.2.2.2.2.2.2.2.2.2.2.2.2.2.2.2.2.2.2.2.2.2.2.2.2.2.2.2.2.2.2.2.2.2.1 ?zE.2.2.2.2.2.2.2.2.2.2.2.2.2.2.2.2.2.2.2.2.2.2.2.2.2.2.2.2.2.2.2.2.2.2.2.2.2.2.2.2.2.2.2.1 ?zE.2.2.2.2.2.2.2.2.2.2.2.2.2.2.2.2.2.2.2.2.2.2.2.2.2.2.2.2.2.2.2.2.2.2.2.2.2.2.2.2.2.2.2.2.1 ?zE.2.2.2.2.2.2.2.2.2.2.2.2.2.2.2.2.2.2.2.2.2.2.2.2.2.2.2.2.2.2.2.2.2.2.2.2.2.2.2.2.2.2.2.2.2.1 ?zE.2.2.2.2.2.2.2.2.2.2.2.2.2.2.2.2.2.2.2.2.2.2.2.2.2.2.2.2.2.2.2.2.2.2.2.2.2.2.2.2.2.2.2.2.2.2.1 ?zE.2.2.2.2.2.2.2.2.2.2.2.2.2.2.2.2.2.2.2.2.2.2.2.2.2.2.2.2.2.2.2.2.2.2.2.2.2.2.2.2.2.2.2.2.2.2.2.1 ?zE.2.2.2.2.2.2.2.2.2.2.2.2.2.2.2.2.2.2.2.2.2.2.2.2.2.2.2.2.2.2.2.2.2.2.2.2.2.2.2.2.2.2.2.2.2.2.2.2.1 ?zE.2.2.2.2.2.2.2.2.2.2.2.2.2.2.2.2.2.2.2.2.2.2.2.2.2.2.2.2.2.2.2.2.2.2.2.2.2.2.2.2.2.2.2.2.2.2.2.2.2.1 ?zE.2.2.2.2.2.2.2.2.2.2.2.2.2.2.2.2.2.2.2.2.2.2.2.2.2.2.2.2.2.2.2.2.2.2.2.2.2.2.2.2.2.2.2.2.2.2.2.2.2.2.1 ?zE.2.2.2.2.2.2.2.2.2.2.2.2.2.2.2.2.2.2.2.2.2.2.2.2.2.2.2.2.2.2.2.2.2.2.2.2.2.2.2.2.2.2.2.2.2.2.2.2.2.2.2.1 ?zE.2.2.2.2.2.2.2.2.2.2.2.2.2.2.2.2.2.2.2.2.2.2.2.2.2.2.2.2.2.2.2.2.2.2.2.2.2.2.2.2.2.2.2.2.2.2.2.2.2.2.2.2.1 ?zE.2.2.2.2.2.2.2.2.2.2.2.2.2.2.2.2.2.2.2.2.2.2.2.2.2.2.2.2.2.2.2.2.2.2.2.2.2.2.2.2.2.2.2.2.2.2.2.2.2.2.2.2.2.1 ?zE.2.2.2.2.2.2.2.2.2.2.2.2.2.2.2.2.2.2.2.2.2.2.2.2.2.2.2.2.2.2.2.2.2.2.2.2.2.2.2.2.2.2.2.2.2.2.2.2.2.2.2.2.2.2.1 ?zE.2.2.2.2.2.2.2.2.2.2.2.2.2.2.2.2.2.2.2.2.2.2.2.2.2.2.2.2.2.2.2.2.2.2.2.2.2.2.2.2.2.2.2.2.2.2.2.2.2.2.2.2.2.2.2.1 ?zE.2.2.2.2.2.2.2.2.2.2.2.2.2.2.2.2.2.2.2.2.2.2.2.2.2.2.2.2.2.2.2.2.2.2.2.2.2.2.2.2.2.2.2.2.2.2.2.2.2.2.2.2.2.2.2.2
  intros w pv LSv mean mg mb dp un gd cn cs a ccd cl outer A₀ base h₀ L m s Q E x dx l M dm vs lv n nl hh c0 ks tc ps1 ps2 rest e1 e2 e3 e4 e5 e6 mx k1 k2 k3 k4 k5 k6 q1 q2 q3 q4 ds
  intro B F X N T hk hd1 hu o1 o2 o3 o4 o5 r1 r2 r3 r4 r5 hC ht1 ht2 hok hpos hlen hlv hsp hc0 hc1 hret
  revert X; k_fill; intro X
  refine wpAny_call ?_
  k_dflt walk_at "en"
  obtain ⟨us, es, t0, ta0, tb0, d0, rfl, rfl, hm0, hC0, hd0⟩ := hC.last hpos
  have hus : us.length + 1 ≤ 100 := by simpa using hlen
  have hok0 : PyData.strOk d0 = true := hok d0 (by simp)
  k_steps
  (rename News h₀ L _ _ => kN9); (rename Fr h₀ L _ _ => kF9)
  refine hret _ _ _ _ _ _ _ (by first | exact fun z9 => z9 | (intro z9; (repeat (first | exact z9 | apply_assumption)); done)) kF9 (nsub kN9 (subs_cons (by k_mem) (subs_cons (by k_mem) (subs_cons (by k_mem) (subs_cons (by k_mem) (subs_cons (by k_mem) (fun p9 hp9 => by k_mem))))))) (by assumption) (by assumption)
  run_tac fin
end
end
section
theorem fresh_D12 : True := by w_top off; exact True.intro
set_option maxHeartbeats 8000000
theorem join_N {prog : Program} {w : World} {A : Around} {E : Value → Shared → Prop} {s : Shared} {Q : Value → Shared → Prop} {h₀ : Heap} {L D : Addr} {news : List (Addr × Obj)} {vs : List Value} {n : Nat} {ys : List Str} {x : Str} {t : Tok} (N : News h₀ L s.heap news) (hm : (D, listOf vs.toArray n) ∈ news) (hi : StrsAre vs ys) (hsep : x.length ≤ 64) (hok : (ys.map (·.length)).sum + ys.length * 64 ≤ 16777216)
    (h : ∀ t' k, Q (.str (Txt.join x ys) t') { s with toks := k }) : wpAny (model prog w) A (call (.builtin "str.join") [.str x t, .ref D]) Q E s :=
  join_listC (News.isList N hm) (by simpa using hi) hsep hok h
theorem map_snoc9 {ls : List (List Str)} {ds : List Str} : ls.map lineS ++ [lineS ds] = (ls ++ [ds]).map lineS := by simp
section
variable {w : World} {pv : Program} {LSv : List Str} {mean : ExcName → Option Value} {mg mb : Str → Option Value}
    {dp un : Nat} {gd : Option (List Code)} {cn : Str} {cs : Scope} {a : Addr} {ccd : Value} {cl : List (Str × Addr)} {outer : List Env} {A₀ : Around} {base h₀ : Heap} {L : Addr} {m : Str → Option Value} {news : List (Addr × Obj)} {s : Shared}
    {Q E : Value → Shared → Prop}
theorem rows_D12_0 : True := by
  k_with_none
  k_with "call ref" => (k_here; (with_reducible show wpAny _ _ (call (Value.ref 150) _) _ _ _); k_dflt (refine' newline_spec ?k1 ?k2 ?k3 ?k4 ?k5 ?k6 ?k7 ?k8 ?p1 ?p2 ?p3 ?p4 ?p5 ?p6 ?p7 ?p8 ?p9 ?p10 ?p11 ?p12 ?p13 ?p14 ?p15 ?p16 ?p17 ?p18 ?p19 ?p20 ?_; (case k1 => k_asm); (case k2 => k_asm); (case k3 => k_asm); (case k4 => k_asm); (case k5 => k_asm); (case k6 => first | rfl | assumption); (case k7 => ktr_room); (case k8 => ktr_units); (case p1 => assumption); (case p2 => assumption); (case p3 => assumption); (case p4 => assumption); (case p5 => assumption); (case p6 => assumption); (case p7 => assumption); (case p8 => assumption); (case p9 => assumption); (case p10 => assumption); (case p11 => assumption); (case p12 => assumption); (case p13 => assumption); (case p14 => assumption); (case p15 => assumption); (case p16 => assumption); (case p17 => assumption); (case p18 => assumption); (case p19 => assumption); (case p20 => assumption); k_whole); intro tknQq7 nlQq7 ps1Qq7 ps2Qq7 hQq7 gQq7 tkQq7 hgk9Qq7 FQq7 NQq7 ht1Qq7 ht2Qq7; (try dsimp only at NQq7); (try k_sweep))
  k_with "call builtin:str.join" => (k_here; k_dflt (refine' join_N ?k1 ?k2 ?k3 ?k4 ?k5 ?_; (case k1 => k_asm); (case k2 => k_mem); (case k3 => first | assumption | exact strs_snoc (by assumption)); (case k4 => decide); (case k5 => assumption); k_whole); intro tQq7 tkQq7)
  exact True.intro
theorem fstr_spec {x dx l M dm : Addr} {vs lv : List Value} {n nl : Nat} {hh c0 : Int} {ks tc : Tok} {ps1 ps2 : Array Value} {rest : List (Addr × Obj)} {e1 e2 e3 e4 e5 e6 mx : Int} {k1 k2 k3 k4 k5 k6 q1 q2 q3 q4 : Tok} {ds : List Str} {ls : List (List Str)} {tl : Tok} (B : Below A₀ base outer h₀) (F : Fr h₀ L s.heap m) (X : (hd.heap_39 w.params).In h₀) (N : News h₀ L s.heap ((x, accObj dx vs n) :: (dx, dictOf [⟨hh, .str (Str.ofString "_initial_size") ks, .int c0 tc⟩] 1) :: (l, listOf lv.toArray nl) :: (M, instObj 188 dm) :: (dm, dictOf [⟨e1, .str (Str.ofString "_maxlen") k1, .int mx q1⟩, ⟨e2, .str (Str.ofString "_continuation_ws") k2, .str (Str.ofString " ") q2⟩, ⟨e3, .str (Str.ofString "_continuation_ws_len") k3, .int 1 q3⟩, ⟨e4, .str (Str.ofString "_splitchars") k4, .str (Str.ofString " ") q4⟩, ⟨e5, .str (Str.ofString "_lines") k5, .ref l⟩, ⟨e6, .str (Str.ofString "_current_line") k6, .ref x⟩] 6) :: (234, tabObj ps1) :: (241, tabObj ps2) :: rest)) (T : Top pv LSv mean mg mb h₀) (hk : cs.kind = .function)
    (hd1 : dp + 6 < recursionLimit) (hu : un + 600 < cLine) (o1 : @LT.lt Nat _ 241 dm) (o2 : @LT.lt Nat _ dm M) (o3 : @LT.lt Nat _ M l) (o4 : @LT.lt Nat _ l dx) (o5 : @LT.lt Nat _ dx x) (r1 : ∀ p ∈ rest, p.1 ≠ x) (r2 : ∀ p ∈ rest, p.1 ≠ dx) (r3 : ∀ p ∈ rest, p.1 ≠ l) (r4 : ∀ p ∈ rest, p.1 ≠ 234) (r5 : ∀ p ∈ rest, p.1 ≠ 241) (hC : Ck rest vs ds) (ht1 : TriplesOk ps1.toList) (ht2 : TriplesOk ps2.toList) (hok : ∀ d ∈ ds, PyData.strOk d = true) (hpos : 1 ≤ vs.length) (hlen : vs.length ≤ 100) (hlv : lv.length ≤ 100) (hsp : Txt.isspace (lineS ds) = false) (hc0 : 0 ≤ c0) (hc1 : c0 ≤ 100) (hL : StrsAre lv (ls.map lineS)) (hjl : (((ls.map lineS ++ [lineS ds]).map (·.length)).sum + (ls.map lineS ++ [lineS ds]).length * 64 ≤ 16777216))
    (hret : ∀ t ps1' ps2' h' g' tk', (AllBare s.gens → AllBare g') → Fr h₀ L h' m → News h₀ L h' ((234, tabObj ps1') :: (241, tabObj ps2') :: rest) → TriplesOk ps1'.toList → TriplesOk ps2'.toList → Q (.str (Txt.join (Str.ofString "|") ((ls ++ [ds]).map lineS)) t) { s with heap := h', gens := g', toks := tk' }) :
    wpAny (model PySem.Challenge.rw_rl0132_01.prog w) (ktrTop dp un gd cn cs L a ccd cl outer) (call (.ref 136) [.ref M, .str (Str.ofString "|") tl]) Q E s := by
  revert X; k_fill; intro X
  refine wpAny_call ?_
  k_dflt ktr_enter
  k_steps
  (rename News h₀ L _ _ => kN9); (rename Fr h₀ L _ _ => kF9)
  rw [map_snoc9]
  exact hret _ _ _ _ _ _ (by first | exact fun z9 => z9 | (intro z9; (repeat (first | exact z9 | apply_assumption)); done)) kF9 (nsub kN9 (subs_cons (by k_mem) (subs_cons (by k_mem) (fun p9 hp9 => by k_mem)))) (by assumption) (by assumption)
end
end
end
end
end
end
section
local macro_rules | `(tactic| omega) => `(tactic| (first | decide | lia | omega (splitDisjunctions := true)))
section
set_option maxHeartbeats 8000000
theorem spot_item {prog : Program} {w : World} {A : Around} {E : Value → Shared → Prop} {s : Shared} {Q : Value → Shared → Prop} {h₀ : Heap} {L D : Addr} {news : List (Addr × Obj)} {vs : List Value} {ms : List Int} {n : Nat} {z low : Int} {j : Nat} {u : Tok} {value slice : PySem.Expr} (N : News h₀ L s.heap news) (hm : (D, listOf vs.toArray n) ∈ news) (hi : IntsAre vs (ms.map fun m => m.fmod z)) (hlen : ms.length = 4) (hj : ms[j]? = some low) (hz : 1 ≤ z) (h : ∀ t', 0 ≤ low.fmod z → low.fmod z < z → Q (.int (low.fmod z) t') s)
    (hs : subscripted slice false (.ref D) (.int (j : Int) u) = operate [.ref D, .int (j : Int) u] (getItem (.ref D) (.int (j : Int) u)) := by with_unfolding_all rfl) (hg : ∀ r, letTemporaryGo value (.ref D) r = pure () := by intro _; with_unfolding_all rfl) :
    wpAny (model prog w) A (subscriptTail value slice (.ref D) (.int (j : Int) u)) Q E s := by
  have hjl : j < ms.length := by
    rcases Nat.lt_or_ge j ms.length with h | h
    · exact h
    · rw [List.getElem?_eq_none h] at hj; cases hj
  have e : (ms.map fun m => m.fmod z).getD ((j : Int)).toNat 0 = low.fmod z := by
    simp [List.getD, hj]
  refine item_lstN N hm hi (by simp; omega) (by omega) (by simp; omega) (fun t' => ?_) hs hg
  rw [e]
  exact h t' (Int.fmod_nonneg_of_pos _ (by omega)) (Int.fmod_lt_of_pos _ (by omega))
theorem news_tail {h₀ h : Heap} {L sp : Addr} {o : Obj} {tl : List (Addr × Obj)} (N : News h₀ L h ((sp, o) :: tl)) (hne : ∀ p ∈ tl, p.1 ≠ sp) : ∃ sp' base, sp' = sp ∧ base = tl ∧ News h₀ L h ((sp', o) :: base) ∧ ∀ p ∈ base, p.1 ≠ sp' := ⟨sp, tl, rfl, rfl, N, hne⟩
theorem tmp3 {a b c z : Str} (h : [a, b, c].contains z = false) : z ≠ a ∧ z ≠ b ∧ z ≠ c := by
  simp only [List.contains_cons, List.contains_nil, Bool.or_false, Bool.or_eq_false_iff, beq_eq_false_iff_ne] at h
  exact h
inductive SpR (z : Int) (ms : List Int) (ml : Addr × Obj) (sp : Addr) (base : List (Addr × Obj)) (gens : Array GenState) (i : Nat) (ps : List (Str × Value)) (nx : List (Addr × Obj)) (gg : Array GenState) : Prop where
  | mk (f0 : gg = gens) (f1 : ps = []) (f2 : ml ∈ base) (f3 : i ≤ ms.length) (vs : _) (k : _) (f4 : nx = (sp, listOf (List.toArray vs) k) :: base) (f5 : IntsAre vs ((ms.take i).map fun m => m.fmod z)) (f6 : ∀ p ∈ base, p.1 ≠ sp) : SpR z ms ml sp base gens i ps nx gg
theorem take_succ_getD {ms : List Int} {i : Nat} (h : i < ms.length) : ms.take (i + 1) = ms.take i ++ [ms.getD i 0] := by
  rw [List.take_add_one, List.getElem?_eq_getElem h]
  simp [List.getD, List.getElem?_eq_getElem h]
theorem ints_snoc' {ys : List Value} {ks : List Int} (h : IntsAre ys ks) (k : Int) (t : Tok) : IntsAre (ys ++ [.int k t]) (ks ++ [k]) := by
  induction h with
  | nil => exact .cons k t .nil
  | cons n t' _ ih => exact .cons n t' ih
theorem sp_end {h₀ : Heap} {s₁ : Shared} {x : Str} {m₀ : Str → Option Value} {tmp : List Str} {L I sp : Addr} {oI o : Obj} {h' : Heap} {g' : Array GenState} {tk : Nat} {m' : Str → Option Value} {news' base : List (Addr × Obj)} {z v : Int} {ms : List Int} {ml : Addr × Obj} {vs : List Value} {k i : Nat} {t : Tok}
    (F : Fr h₀ L h' m') (N : News h₀ L h' news') (hI : (I, oI) ∈ news') (hsp : (sp, listOf (vs ++ [Value.int v t]).toArray k) ∈ news') (ho : ∀ z, z ≠ x → tmp.contains z = false → m' z = m₀ z) (hv : v = (ms.getD i 0).fmod z) (hi4 : i < ms.length)
    (hi : IntsAre vs ((ms.take i).map fun m => m.fmod z)) (hml : ml ∈ base) (hbs : ∀ p ∈ base, p ∈ news') (hne : ∀ p ∈ base, p.1 ≠ sp) (hneI : ∀ p ∈ (sp, o) :: base, p.1 ≠ I) : EndM h₀ L (JR m₀ x tmp (SpR z ms ml sp base g' (i + 1))) I oI s₁ { s₁ with heap := h', gens := g', toks := tk } :=
  end_intro0 F N hI ho ⟨rfl, rfl, hml, hi4, vs ++ [.int v t], k, rfl, by rw [take_succ_getD hi4, List.map_append, List.map_cons, List.map_nil, ← hv]; exact ints_snoc' hi v t, hne⟩ (fun p hp => by
    rcases List.mem_cons.mp hp with rfl | hp
    · exact hsp
    · exact hbs p hp) (fun p hp => by
    rcases List.mem_cons.mp hp with rfl | hp
    · exact hneI (sp, o) (.head _)
    · exact hneI p (.tail _ hp))
noncomputable def digC (n : Nat) : Str := Str.ofString (toString ((n : Nat) : Int))
noncomputable def digsF (ms : List Int) (low : Int) (n : Nat) : List Str := (List.range n).map fun (i : Nat) => digC (ms.count (low + (i : Int)))
inductive PlR (z : Int) (ms : List Int) (low : Int) (nP : Nat) (x dx l M dm : Addr) (hh : Int) (ks : Tok) (FM : Obj) (cs base : List (Addr × Obj)) (c00 : Int) (i : Nat) (ps : List (Str × Value)) (nx : List (Addr × Obj)) (_gg : Array GenState) : Prop where
  | mk (f0 : ps = []) (f1 : i ≤ nP) (vs : _) (lv : _) (n : _) (nl : _) (c0 : _) (tc : _) (ps1 : _) (ps2 : _) (chs : _) (ds : _) (ls : _) (f2 : nx = (x, accObj dx vs n) :: (dx, dictOf [⟨hh, .str (Str.ofString "_initial_size") ks, .int c0 tc⟩] 1) :: (l, listOf (List.toArray lv) nl) :: (M, instObj 188 dm) :: (dm, FM) :: (234, tabObj ps1) :: (241, tabObj ps2) :: (chs ++ (cs ++ base))) (f3 : Ck (chs ++ (cs ++ base)) vs ds) (f4 : TriplesOk ps1.toList) (f5 : TriplesOk ps2.toList) (f6 : StrsAre lv (ls.map lineS)) (f7 : (ls, c0, ds) = fmtRun (2 * z) c00 ((digsF ms low nP).take i)) (f8 : vs.length ≤ i) (f9 : lv.length ≤ i) (f10 : 0 ≤ c0) (f11 : c0 ≤ c00) (f12 : ∀ p ∈ chs, p.1 ∉ [234, 241, x, dx, l]) : PlR z ms low nP x dx l M dm hh ks FM cs base c00 i ps nx _gg
theorem base_of {h₀ h : Heap} {L : Addr} {W : List (Addr × Obj)} (N : News h₀ L h W) (bad : List Addr) : ∃ (base W' : List (Addr × Obj)), W' = W ∧ News h₀ L h W' ∧ (∀ p : Addr × Obj, p ∈ base → p ∈ W') ∧ (∀ p : Addr × Obj, p ∈ base → p.1 ∉ bad) ∧ (∀ p : Addr × Obj, p ∈ W' → p.1 ∉ bad → p ∈ base) :=
  ⟨W.filter fun (p : Addr × Obj) => decide (p.1 ∉ bad), W, rfl, N, fun p hp => (List.mem_filter.mp hp).1, fun p hp => by simpa using (List.mem_filter.mp hp).2, fun p hp hb => List.mem_filter.mpr ⟨hp, by simpa using hb⟩⟩
theorem fm_open {h₀ h : Heap} {L x dx l M dm : Addr} {vs : List Value} {n : Nat} {hh c : Int} {ks tc : Tok} {ol oM odm : Obj} {tl : List (Addr × Obj)} (_N : News h₀ L h ((x, accObj dx vs n) :: (dx, dictOf [⟨hh, .str (Str.ofString "_initial_size") ks, .int c tc⟩] 1) :: (l, ol) :: (M, oM) :: (dm, odm) :: tl)) :
    ∃ x' dx' l' M' dm' hh' ks' FM, x' = x ∧ dx' = dx ∧ l' = l ∧ M' = M ∧ dm' = dm ∧ hh' = hh ∧ ks' = ks ∧ FM = odm := ⟨_, _, _, _, _, _, _, _, rfl, rfl, rfl, rfl, rfl, rfl, rfl, rfl⟩
theorem c_open {h₀ h : Heap} {L : Addr} {p1 p2 p3 p4 p5 p6 p7 p8 c1 c2 : Addr × Obj} {tl : List (Addr × Obj)} (_N : News h₀ L h (p1 :: p2 :: p3 :: p4 :: p5 :: p6 :: p7 :: p8 :: c1 :: c2 :: tl)) : ∃ c1' c2', c1' = c1 ∧ c2' = c2 := ⟨_, _, rfl, rfl⟩
theorem nm {a : Int} {ms : List Int} (_h : a ∈ ms) : ∃ b, b = a := ⟨_, rfl⟩
theorem max_has : ∀ {ms : List Int}, ms ≠ [] → ∃ M, M ∈ ms ∧ ∀ a, a ∈ ms → a ≤ M
  | [], h => absurd rfl h
  | [a], _ => ⟨a, by simp, by simp⟩
  | a :: b :: r, _ => by
    obtain ⟨M, h1, h2⟩ := max_has (ms := b :: r) (by simp)
    by_cases h : a ≤ M
    · exact ⟨M, List.mem_cons_of_mem _ h1, fun c hc => by
        rcases List.mem_cons.mp hc with rfl | hc
        · exact h
        · exact h2 c hc⟩
    · exact ⟨a, by simp, fun c hc => by
        rcases List.mem_cons.mp hc with rfl | hc
        · exact Int.le_refl _
        · have := h2 c hc; omega⟩
theorem mem_bd {ms : List Int} (h : ∀ j, -9 ≤ ms.getD j 0 ∧ ms.getD j 0 ≤ 9) {a : Int} (ha : a ∈ ms) : -9 ≤ a ∧ a ≤ 9 := by
  obtain ⟨j, hj, e⟩ := List.getElem_of_mem ha
  have := h j
  simp only [List.getD, List.getElem?_eq_getElem hj, Option.getD_some, e] at this
  exact this
theorem bad9 {q a b c d e f g h i : Addr} (h1 : @Ne Nat q a) (h2 : @Ne Nat q b) (h3 : @Ne Nat q c) (h4 : @Ne Nat q d) (h5 : @Ne Nat q e) (h6 : @Ne Nat q f) (h7 : @Ne Nat q g) (h8 : @Ne Nat q h) (h9 : @Ne Nat q i) : q ∉ [a, b, c, d, e, f, g, h, i] := by
  simp only [List.mem_cons, List.not_mem_nil, or_false, not_or]
  exact ⟨h1, h2, h3, h4, h5, h6, h7, h8, h9⟩
theorem digC_facts {n : Nat} (h : n ≤ 4) : (digC n).length = 1 ∧ PyData.strOk (digC n) = true := by
  have : n = 0 ∨ n = 1 ∨ n = 2 ∨ n = 3 ∨ n = 4 := by omega
  rcases this with rfl | rfl | rfl | rfl | rfl <;> decide +kernel
theorem count_le4 {ms : List Int} (h : ms.length = 4) (a : Int) : ms.count a ≤ 4 := h ▸ List.count_le_length
theorem fmt_len {α : Type} {mx : Int} {ls ls' : List (List α)} {c c' : Int} {ds ds' : List α} {d : α} (h : (ls', c', ds') = fmtStep mx (ls, c, ds) d) : ds'.length ≤ ds.length + 1 ∧ (c' = c ∨ c' = 0) ∧ ls'.length ≤ ls.length + 1 := by
  unfold fmtStep at h
  split at h
  · simp only [Prod.mk.injEq] at h
    obtain ⟨rfl, rfl, rfl⟩ := h
    simp
  · simp only [Prod.mk.injEq] at h
    obtain ⟨rfl, rfl, rfl⟩ := h
    simp
theorem digsF_take {ms : List Int} {low : Int} {n i : Nat} (h : i < n) : (digsF ms low n).take (i + 1) = (digsF ms low n).take i ++ [digC (ms.count (low + (i : Int)))] := by
  rw [List.take_add_one]
  congr 1
  simp [digsF, h]
theorem bad5 {q a b c d e : Addr} (h1 : @Ne Nat q a) (h2 : @Ne Nat q b) (h3 : @Ne Nat q c) (h4 : @Ne Nat q d) (h5 : @Ne Nat q e) : q ∉ [a, b, c, d, e] := by
  simp only [List.mem_cons, List.not_mem_nil, or_false, not_or]
  exact ⟨h1, h2, h3, h4, h5⟩
theorem lt_ne {a b : Addr} (h : @LT.lt Nat _ a b) : @Ne Nat b a := Nat.ne_of_gt h
theorem PlR.next {z low : Int} {ms : List Int} {nP : Nat} {x dx l M dm I t : Addr} {hh c00 : Int} {ks : Tok} {FM oI : Obj} {cs base : List (Addr × Obj)} {i : Nat} {vs lv vs' lv' : List Value} {n nl n' nl' : Nat} {c0 c0' : Int} {tc tc' ta tb : Tok} {ps1 ps2 ps1' ps2' : Array Value} {chs : List (Addr × Obj)} {ds ds' : List Str} {ls ls' : List (List Str)} {g : Array GenState}
    (hi : i < nP) (hC : Ck (chs ++ (cs ++ base)) vs ds) (h1 : TriplesOk ps1'.toList) (h2 : TriplesOk ps2'.toList) (hS : StrsAre lv' (ls'.map lineS)) (hR : (ls, c0, ds) = fmtRun (2 * z) c00 ((digsF ms low nP).take i)) (hv : vs.length ≤ i) (hl : lv.length ≤ i) (hl' : lv'.length ≤ lv.length + 1) (hc : 0 ≤ c0) (hc' : c0 ≤ c00)
    (hCn : ∀ nw : List (Addr × Obj), Ck nw vs ds → (t, tupO [.str (Str.ofString " ") ta, .str (digC (ms.count (low + (i : Int)))) tb]) ∈ nw → Ck nw vs' ds') (hst : (ls', c0', ds') = fmtStep (2 * z) (ls, c0, ds) (digC (ms.count (low + (i : Int)))))
    (hch : ∀ p ∈ chs, p.1 ∉ [234, 241, x, dx, l]) (hlt : ∀ p ∈ (x, accObj dx vs n) :: (dx, dictOf [⟨hh, .str (Str.ofString "_initial_size") ks, .int c0 tc⟩] 1) :: (l, listOf lv.toArray nl) :: (M, instObj 188 dm) :: (dm, FM) :: (234, tabObj ps1) :: (241, tabObj ps2) :: (I, oI) :: (chs ++ (cs ++ base)), p.1 < t) :
    PlR z ms low nP x dx l M dm hh ks FM cs base c00 (i + 1) [] ((x, accObj dx vs' n') :: (dx, dictOf [⟨hh, .str (Str.ofString "_initial_size") ks, .int c0' tc'⟩] 1) :: (l, listOf lv'.toArray nl') :: (M, instObj 188 dm) :: (dm, FM) :: (234, tabObj ps1') :: (241, tabObj ps2') :: (((t, tupO [.str (Str.ofString " ") ta, .str (digC (ms.count (low + (i : Int)))) tb]) :: chs) ++ (cs ++ base))) g := by
  obtain ⟨f1, f2, f3⟩ := fmt_len hst
  have hC' := hCn (((t, tupO [.str (Str.ofString " ") ta, .str (digC (ms.count (low + (i : Int)))) tb]) :: chs) ++ (cs ++ base)) (hC.up fun p hp => .tail _ hp) (.head _)
  refine ⟨rfl, hi, vs', lv', n', nl', c0', tc', ps1', ps2', _, ds', ls', rfl, hC', h1, h2, hS, ?_, ?_, by omega, by omega, by omega, ?_⟩
  · rw [digsF_take hi, fmtRun_snoc, ← hR]; exact hst
  · have e1 := hC'.1
    have e2 := hC.1
    omega
  · intro p hp
    rcases List.mem_cons.mp hp with rfl | hp
    · exact bad5 (lt_ne (hlt _ (.tail _ (.tail _ (.tail _ (.tail _ (.tail _ (.head _)))))))) (lt_ne (hlt _ (.tail _ (.tail _ (.tail _ (.tail _ (.tail _ (.tail _ (.head _))))))))) (lt_ne (hlt _ (.head _))) (lt_ne (hlt _ (.tail _ (.head _)))) (lt_ne (hlt _ (.tail _ (.tail _ (.head _)))))
    · exact hch p hp
theorem pl_nI {x dx l M dm I t : Addr} {a b c d e f g a' b' c' f' g' oI o : Obj} {W : List (Addr × Obj)} (h : ∀ p ∈ (x, a) :: (dx, b) :: (l, c) :: (M, d) :: (dm, e) :: (234, f) :: (241, g) :: W, p.1 ≠ I) (hlt : ∀ p ∈ (x, a) :: (dx, b) :: (l, c) :: (M, d) :: (dm, e) :: (234, f) :: (241, g) :: (I, oI) :: W, p.1 < t) :
    ∀ p ∈ (x, a') :: (dx, b') :: (l, c') :: (M, d) :: (dm, e) :: (234, f') :: (241, g') :: (t, o) :: W, p.1 ≠ I := by
  intro p hp
  simp only [List.mem_cons] at hp
  rcases hp with rfl | rfl | rfl | rfl | rfl | rfl | rfl | rfl | hp
  · exact h (x, a) (.head _)
  · exact h (dx, b) (.tail _ (.head _))
  · exact h (l, c) (.tail _ (.tail _ (.head _)))
  · exact h (M, d) (.tail _ (.tail _ (.tail _ (.head _))))
  · exact h (dm, e) (.tail _ (.tail _ (.tail _ (.tail _ (.head _)))))
  · exact h (234, f) (.tail _ (.tail _ (.tail _ (.tail _ (.tail _ (.head _))))))
  · exact h (241, g) (.tail _ (.tail _ (.tail _ (.tail _ (.tail _ (.tail _ (.head _)))))))
  · exact lt_ne (hlt _ (.tail _ (.tail _ (.tail _ (.tail _ (.tail _ (.tail _ (.tail _ (.head _)))))))))
  · exact h p (.tail _ (.tail _ (.tail _ (.tail _ (.tail _ (.tail _ (.tail _ hp)))))))
theorem rest_ne {q I : Addr} {oI : Obj} {chs cs base : List (Addr × Obj)} (h1 : @Ne Nat I q) (h2 : ∀ p ∈ chs, p.1 ≠ q) (h3 : ∀ p ∈ cs, p.1 ≠ q) (h4 : ∀ p ∈ base, p.1 ≠ q) : ∀ p ∈ (I, oI) :: (chs ++ (cs ++ base)), p.1 ≠ q := by
  intro p hp
  rcases List.mem_cons.mp hp with rfl | hp
  · exact h1
  · rcases List.mem_append.mp hp with hp | hp
    · exact h2 p hp
    · rcases List.mem_append.mp hp with hp | hp
      · exact h3 p hp
      · exact h4 p hp
theorem nin5 {q a b c d e : Addr} (h : q ∉ [a, b, c, d, e]) : q ≠ a ∧ q ≠ b ∧ q ≠ c ∧ q ≠ d ∧ q ≠ e := by
  simpa only [List.mem_cons, List.not_mem_nil, or_false, not_or] using h
theorem nin9 {q a b c d e f g h' i : Addr} (h : q ∉ [a, b, c, d, e, f, g, h', i]) : q ≠ a ∧ q ≠ b ∧ q ≠ c ∧ q ≠ d ∧ q ≠ e ∧ q ≠ f ∧ q ≠ g ∧ q ≠ h' ∧ q ≠ i := by
  simpa only [List.mem_cons, List.not_mem_nil, or_false, not_or] using h
theorem apc_rest {x dx l M dm I C1 C2 : Addr} {a b c d e f g oI : Obj} {W chs cs base : List (Addr × Obj)} (hI : ∀ p ∈ (x, a) :: (dx, b) :: (l, c) :: (M, d) :: (dm, e) :: (234, f) :: (241, g) :: W, p.1 ≠ I) (hch : ∀ p ∈ chs, p.1 ∉ [234, 241, x, dx, l]) (hcs : ∀ p ∈ cs, p.1 ∉ [234, 241, x, dx, l]) (hb : ∀ p ∈ base, p.1 ∉ [234, 241, x, dx, l, M, dm, C1, C2]) :
    (∀ p ∈ (I, oI) :: (chs ++ (cs ++ base)), p.1 ≠ x) ∧ (∀ p ∈ (I, oI) :: (chs ++ (cs ++ base)), p.1 ≠ dx) ∧ (∀ p ∈ (I, oI) :: (chs ++ (cs ++ base)), p.1 ≠ l) ∧ (∀ p ∈ (I, oI) :: (chs ++ (cs ++ base)), p.1 ≠ 234) ∧ (∀ p ∈ (I, oI) :: (chs ++ (cs ++ base)), p.1 ≠ 241) :=
  ⟨rest_ne (Ne.symm (hI (x, a) (.head _))) (fun p hp => (nin5 (hch p hp)).2.2.1) (fun p hp => (nin5 (hcs p hp)).2.2.1) (fun p hp => (nin9 (hb p hp)).2.2.1),
   rest_ne (Ne.symm (hI (dx, b) (.tail _ (.head _)))) (fun p hp => (nin5 (hch p hp)).2.2.2.1) (fun p hp => (nin5 (hcs p hp)).2.2.2.1) (fun p hp => (nin9 (hb p hp)).2.2.2.1),
   rest_ne (Ne.symm (hI (l, c) (.tail _ (.tail _ (.head _))))) (fun p hp => (nin5 (hch p hp)).2.2.2.2) (fun p hp => (nin5 (hcs p hp)).2.2.2.2) (fun p hp => (nin9 (hb p hp)).2.2.2.2.1),
   rest_ne (Ne.symm (hI (234, f) (.tail _ (.tail _ (.tail _ (.tail _ (.tail _ (.head _)))))))) (fun p hp => (nin5 (hch p hp)).1) (fun p hp => (nin5 (hcs p hp)).1) (fun p hp => (nin9 (hb p hp)).1),
   rest_ne (Ne.symm (hI (241, g) (.tail _ (.tail _ (.tail _ (.tail _ (.tail _ (.tail _ (.head _))))))))) (fun p hp => (nin5 (hch p hp)).2.1) (fun p hp => (nin5 (hcs p hp)).2.1) (fun p hp => (nin9 (hb p hp)).2.1)⟩
theorem fst_rest {x dx l M dm C1 C2 : Addr} {chs cs base : List (Addr × Obj)} (hch : ∀ p ∈ chs, p.1 ∉ [234, 241, x, dx, l]) (hcs : ∀ p ∈ cs, p.1 ∉ [234, 241, x, dx, l]) (hb : ∀ p ∈ base, p.1 ∉ [234, 241, x, dx, l, M, dm, C1, C2]) :
    (∀ p ∈ (chs ++ (cs ++ base)), p.1 ≠ x) ∧ (∀ p ∈ (chs ++ (cs ++ base)), p.1 ≠ dx) ∧ (∀ p ∈ (chs ++ (cs ++ base)), p.1 ≠ l) ∧ (∀ p ∈ (chs ++ (cs ++ base)), p.1 ≠ 234) ∧ (∀ p ∈ (chs ++ (cs ++ base)), p.1 ≠ 241) := by
  have key : ∀ p ∈ (chs ++ (cs ++ base)), p.1 ∉ [234, 241, x, dx, l] := by
    intro p hp
    rcases List.mem_append.mp hp with hp | hp
    · exact hch p hp
    · rcases List.mem_append.mp hp with hp | hp
      · exact hcs p hp
      · have h := nin9 (hb p hp)
        exact bad5 h.1 h.2.1 h.2.2.1 h.2.2.2.1 h.2.2.2.2.1
  exact ⟨fun p hp => (nin5 (key p hp)).2.2.1, fun p hp => (nin5 (key p hp)).2.2.2.1, fun p hp => (nin5 (key p hp)).2.2.2.2, fun p hp => (nin5 (key p hp)).1, fun p hp => (nin5 (key p hp)).2.1⟩
theorem fmtRun_last {α : Type} {mx c0 : Int} : ∀ {ds : List α} {d : α}, (fmtRun mx c0 (ds ++ [d])).2.2 ≠ [] := by
  intro ds d
  rw [fmtRun_snoc]
  unfold fmtStep
  split <;> simp
end
section
open PySem PySem.W PyProof.Rows PySem.Flt Builtin Builtin.Str
noncomputable def Dig (d : Str) : Prop := ∃ n, n ≤ 4 ∧ d = digC n
theorem digC_list {n : Nat} (h : n ≤ 4) : (digC n).cps.toList = [48 + n] := by
  have : n = 0 ∨ n = 1 ∨ n = 2 ∨ n = 3 ∨ n = 4 := by omega
  rcases this with rfl | rfl | rfl | rfl | rfl <;> decide +kernel
theorem join_e_list : ∀ l : List Str, (Txt.join (Str.ofString "") l).cps.toList = l.flatMap fun x => x.cps.toList := by
  intro l
  unfold Txt.join
  rw [StrLaws.glued_eq_join]
  induction l with
  | nil => rfl
  | cons a r ih =>
    cases r with
    | nil => simp [Str.join]
    | cons b r =>
      show (a ++ Str.ofString "" ++ Str.join (Str.ofString "") (b :: r)).cps.toList = _
      rw [Str.cps_append, Str.cps_append, Array.toList_append, Array.toList_append, ih, lit_e]
      simp
theorem lineS_list (ds : List Str) : (lineS ds).cps.toList = ds.flatMap fun d => 32 :: d.cps.toList := by
  unfold lineS
  rw [join_e_list, List.flatMap_map]
  congr 1
  funext d
  rw [join_e_list]
  simp [lit_sp]
theorem dig_space : ∀ n, n ≤ 4 → Unicode.isSpace (48 + n) = false := by
  intro n h
  have : n = 0 ∨ n = 1 ∨ n = 2 ∨ n = 3 ∨ n = 4 := by omega
  rcases this with rfl | rfl | rfl | rfl | rfl <;> decide +kernel
theorem line_scan : ∀ (ds : List Str) (ws : List Str) (run : Str), (∀ d ∈ ds, Dig d) → run.length ≠ 0 → KWd.fin ((ds.flatMap fun d => 32 :: d.cps.toList).foldl KWd.step (ws, run)) = ws ++ run :: ds
  | [], ws, run, _, hr => by simp [KWd.fin, hr]
  | d :: ds, ws, run, hd, hr => by
    obtain ⟨n, hn, rfl⟩ := hd d (.head _)
    rw [List.flatMap_cons, List.foldl_append, List.foldl_cons]
    have e1 : KWd.step (ws, run) 32 = (ws ++ [run], Str.empty) := by
      unfold KWd.step
      rw [if_pos (by decide +kernel), if_neg hr]
    have e2 : (digC n).cps.toList.foldl KWd.step (ws ++ [run], Str.empty) = (ws ++ [run], digC n) := by
      have h := KWk.fold_plain (ws := ws ++ [run]) (digC n).cps.toList Str.empty (by rw [digC_list hn]; simp [dig_space n hn])
      rw [h]
      have e3 : (⟨(digC n).cps.toList.toArray⟩ : Str) = digC n := Str.ext' (by simp)
      rw [e3, Str.empty_append]
    rw [e1, e2, line_scan ds _ _ (fun x hx => hd x (.tail _ hx)) (by rw [(digC_facts hn).1]; decide)]
    simp
theorem line_words {ds : List Str} (hd : ∀ d ∈ ds, Dig d) : Txt.words (lineS ds) = ds := by
  rw [KWd.words_of (x := lineS ds) rfl]
  show KWd.fin (KWd.scan (lineS ds)) = ds
  unfold KWd.scan
  rw [lineS_list]
  cases ds with
  | nil => rfl
  | cons d ds =>
    obtain ⟨n, hn, rfl⟩ := hd d (.head _)
    rw [List.flatMap_cons, List.foldl_append, List.foldl_cons]
    have e1 : KWd.step ([], Str.empty) 32 = ([], Str.empty) := by
      unfold KWd.step
      rw [if_pos (by decide +kernel), if_pos (by rfl)]
    have e2 : (digC n).cps.toList.foldl KWd.step ([], Str.empty) = ([], digC n) := by
      have h := KWk.fold_plain (ws := []) (digC n).cps.toList Str.empty (by rw [digC_list hn]; simp [dig_space n hn])
      rw [h]
      have e3 : (⟨(digC n).cps.toList.toArray⟩ : Str) = digC n := Str.ext' (by simp)
      rw [e3, Str.empty_append]
    rw [e1, e2, line_scan ds _ _ (fun x hx => hd x (.tail _ hx)) (by rw [(digC_facts hn).1]; decide)]
    rfl
theorem line_nospace {ds : List Str} (hd : ∀ d ∈ ds, Dig d) (hne : ds ≠ []) : Txt.isspace (lineS ds) = false := by
  cases ds with
  | nil => exact absurd rfl hne
  | cons d ds =>
    obtain ⟨n, hn, rfl⟩ := hd d (.head _)
    unfold Txt.isspace
    rw [← Array.all_toList, lineS_list, List.flatMap_cons, digC_list hn]
    simp [dig_space n hn]
theorem line_nobar {ds : List Str} (hd : ∀ d ∈ ds, Dig d) : 124 ∉ (lineS ds).cps.toList := by
  rw [lineS_list]
  intro h
  obtain ⟨d, hm, h⟩ := List.mem_flatMap.mp h
  obtain ⟨n, hn, rfl⟩ := hd d hm
  rw [digC_list hn] at h
  simp at h
  omega
theorem line_len {ds : List Str} (hd : ∀ d ∈ ds, Dig d) : (lineS ds).length = 2 * ds.length := by
  show (lineS ds).cps.size = _
  rw [← Array.length_toList, lineS_list]
  induction ds with
  | nil => rfl
  | cons d ds ih =>
    obtain ⟨n, hn, rfl⟩ := hd d (.head _)
    rw [List.flatMap_cons, List.length_append, ih (fun x hx => hd x (.tail _ hx)), digC_list hn]
    simp
    omega
/-- the texts between bars are told by the glued text -/
theorem bar_split : ∀ (as bs : List Nat) (x y : List Nat), 124 ∉ x → 124 ∉ y → x ++ 124 :: as = y ++ 124 :: bs → x = y ∧ as = bs
  | as, bs, [], [], _, _, h => by simpa using h
  | as, bs, [], c :: y, _, hy, h => by
    simp at h
    exact absurd (h.1 ▸ List.mem_cons_self : 124 ∈ c :: y) hy
  | as, bs, c :: x, [], hx, _, h => by
    simp at h
    exact absurd (h.1 ▸ List.mem_cons_self : 124 ∈ c :: x) hx
  | as, bs, c :: x, d :: y, hx, hy, h => by
    simp only [List.cons_append, List.cons.injEq] at h
    obtain ⟨e1, e2⟩ := bar_split as bs x y (fun m => hx (.tail _ m)) (fun m => hy (.tail _ m)) h.2
    exact ⟨by rw [h.1, e1], e2⟩
noncomputable def barL : List (List Nat) → List Nat
  | [] => []
  | [x] => x
  | x :: y :: r => x ++ 124 :: barL (y :: r)
theorem bar_one {x : List Nat} {y z : List Nat} {r : List (List Nat)} (h : x = y ++ 124 :: barL (z :: r)) (hx : 124 ∉ x) : False := hx (by rw [h]; simp)
theorem bar_inj : ∀ (xs ys : List (List Nat)), xs ≠ [] → ys ≠ [] → (∀ x ∈ xs, 124 ∉ x) → (∀ y ∈ ys, 124 ∉ y) → barL xs = barL ys → xs = ys
  | [], _, h, _, _, _, _ => absurd rfl h
  | _, [], _, h, _, _, _ => absurd rfl h
  | [x], [y], _, _, _, _, h => by rw [show x = y from h]
  | [x], y :: z :: r, _, _, hx, _, h => (bar_one (show x = y ++ 124 :: barL (z :: r) from h) (hx x (.head _))).elim
  | x :: z :: r, [y], _, _, _, hy, h => (bar_one (show y = x ++ 124 :: barL (z :: r) from h.symm) (hy y (.head _))).elim
  | x :: x2 :: r, y :: y2 :: q, _, _, hx, hy, h => by
    obtain ⟨e1, e2⟩ := bar_split _ _ x y (hx x (.head _)) (hy y (.head _)) (show x ++ 124 :: barL (x2 :: r) = y ++ 124 :: barL (y2 :: q) from h)
    rw [e1, bar_inj (x2 :: r) (y2 :: q) (by simp) (by simp) (fun a m => hx a (.tail _ m)) (fun a m => hy a (.tail _ m)) e2]
theorem join_bar_list : ∀ l : List Str, (Str.join (Str.ofString "|") l).cps.toList = barL (l.map fun x => x.cps.toList)
  | [] => rfl
  | [a] => rfl
  | a :: b :: r => by
    show (a ++ Str.ofString "|" ++ Str.join (Str.ofString "|") (b :: r)).cps.toList = _
    rw [Str.cps_append, Str.cps_append, Array.toList_append, Array.toList_append, join_bar_list (b :: r), show (Str.ofString "|").cps.toList = [124] by decide]
    simp [barL]
theorem split_ne (x y : Str) : Txt.split x y ≠ [] := by
  unfold Txt.split
  split
  · simp
  · split
    · simp
    · unfold partsBetween
      simp
theorem split_join {xs : List Str} (hne : xs ≠ []) (h : ∀ x ∈ xs, 124 ∉ x.cps.toList) : Txt.split (Txt.join (Str.ofString "|") xs) (Str.ofString "|") = xs := by
  have e := StrLaws.join_split (Txt.join (Str.ofString "|") xs) (Str.ofString "|")
  have hf := StrLaws.split_free (Txt.join (Str.ofString "|") xs) 124
  rw [show (⟨#[124]⟩ : Str) = Str.ofString "|" by decide] at hf
  have hn := split_ne (Txt.join (Str.ofString "|") xs) (Str.ofString "|")
  generalize Txt.split (Txt.join (Str.ofString "|") xs) (Str.ofString "|") = ys at e hf hn
  unfold Txt.join at e
  rw [StrLaws.glued_eq_join] at e
  have e2 := congrArg (fun x : Str => x.cps.toList) e
  simp only [join_bar_list] at e2
  have e3 := bar_inj _ _ (by simpa using hn) (by simpa using hne) (by simpa using hf) (by simpa using h) e2
  exact (List.map_inj_right fun a b hab => str_ext hab).mp e3
theorem run_all {α : Type} {P : α → Prop} {mx : Int} : ∀ (l : List α) (st : List (List α) × Int × List α), (∀ d ∈ st.2.2, P d) → (∀ r ∈ st.1, ∀ d ∈ r, P d) → (∀ d ∈ l, P d) →
    (∀ d ∈ (l.foldl (fmtStep mx) st).2.2, P d) ∧ ∀ r ∈ (l.foldl (fmtStep mx) st).1, ∀ d ∈ r, P d
  | [], _, h1, h2, _ => ⟨h1, h2⟩
  | a :: l, st, h1, h2, h3 => by
    rw [List.foldl_cons]
    have ha := h3 a (.head _)
    refine run_all l _ ?_ ?_ fun d hd => h3 d (.tail _ hd)
    · unfold fmtStep
      split
      · intro d hd
        rcases List.mem_append.mp hd with hd | hd
        · exact h1 d hd
        · rw [List.mem_singleton.mp hd]; exact ha
      · intro d hd
        rw [List.mem_singleton.mp hd]; exact ha
    · unfold fmtStep
      split
      · exact h2
      · intro r hr
        rcases List.mem_append.mp hr with hr | hr
        · exact h2 r hr
        · rw [List.mem_singleton.mp hr]; exact h1
theorem run_dig {ms : List Int} {low mx c0 : Int} {n : Nat} (h : ms.length = 4) : (∀ d ∈ (fmtRun mx c0 (digsF ms low n)).2.2, Dig d) ∧ ∀ r ∈ (fmtRun mx c0 (digsF ms low n)).1, ∀ d ∈ r, Dig d := by
  refine run_all _ _ (by simp) (by simp) fun d hd => ?_
  obtain ⟨i, _, rfl⟩ := List.mem_map.mp hd
  exact ⟨_, count_le4 h _, rfl⟩
theorem run_pos {ms : List Int} {low mx c0 : Int} {n : Nat} (hn : 1 ≤ n) : (fmtRun mx c0 (digsF ms low n)).2.2 ≠ [] := by
  obtain ⟨k, rfl⟩ : ∃ k, n = k + 1 := ⟨n - 1, by omega⟩
  have e : digsF ms low (k + 1) = digsF ms low k ++ [digC (ms.count (low + (k : Int)))] := by
    simp [digsF, List.range_succ]
  rw [e]
  exact fmtRun_last
theorem sum_le_of {l : List Nat} {k : Nat} (h : ∀ x ∈ l, x ≤ k) : l.sum ≤ l.length * k := sum_const_le h
theorem run_count {α : Type} {mx : Int} : ∀ (l : List α) (st : List (List α) × Int × List α), (l.foldl (fmtStep mx) st).1.length ≤ st.1.length + l.length ∧ (l.foldl (fmtStep mx) st).2.2.length ≤ st.2.2.length + l.length ∧ ∀ r ∈ (l.foldl (fmtStep mx) st).1, r ∈ st.1 ∨ r.length ≤ st.2.2.length + l.length
  | [], st => ⟨by simp, by simp, fun r hr => .inl hr⟩
  | a :: l, st => by
    rw [List.foldl_cons]
    obtain ⟨h1, h2, h3⟩ := run_count (mx := mx) l (fmtStep mx st a)
    have f : (fmtStep mx st a).1.length ≤ st.1.length + 1 ∧ (fmtStep mx st a).2.2.length ≤ st.2.2.length + 1 ∧ ∀ r ∈ (fmtStep mx st a).1, r ∈ st.1 ∨ r.length ≤ st.2.2.length := by
      unfold fmtStep
      split
      · simp; exact fun r hr => .inl hr
      · simp only [List.length_append, List.length_cons, List.length_nil]
        refine ⟨by omega, by omega, fun r hr => ?_⟩
        rcases List.mem_append.mp hr with hr | hr
        · exact .inl hr
        · rw [List.mem_singleton.mp hr]; exact .inr (Nat.le_refl _)
    obtain ⟨f1, f2, f3⟩ := f
    simp only [List.length_cons]
    refine ⟨by omega, by omega, fun r hr => ?_⟩
    rcases h3 r hr with h | h
    · rcases f3 r h with h | h
      · exact .inl h
      · exact .inr (by omega)
    · exact .inr (by omega)
/-- the room that the glued text takes -/
theorem glue_room {ms : List Int} {low mx c0 c : Int} {n : Nat} {ls : List (List Str)} {ds : List Str} (h : ms.length = 4) (hn : n ≤ 100) (hR : (ls, c, ds) = fmtRun mx c0 (digsF ms low n)) :
    ((ls.map lineS ++ [lineS ds]).map (·.length)).sum + (ls.map lineS ++ [lineS ds]).length * 64 ≤ 16777216 := by
  obtain ⟨d1, d2⟩ := run_dig (ms := ms) (low := low) (mx := mx) (c0 := c0) (n := n) h
  obtain ⟨h1, h2, h3⟩ := run_count (mx := mx) (digsF ms low n) ([], c0, [])
  rw [show (digsF ms low n).foldl (fmtStep mx) ([], c0, []) = fmtRun mx c0 (digsF ms low n) from rfl, ← hR] at h1 h2 h3
  rw [← hR] at d1 d2
  have hl : (digsF ms low n).length = n := by simp [digsF]
  rw [hl] at h1 h2 h3
  simp only [List.length_nil, Nat.zero_add] at h1 h2 h3
  dsimp only at h1 h2 h3 d1 d2
  have hx : ∀ x ∈ (ls.map lineS ++ [lineS ds]).map (·.length), x ≤ 200 := by
    intro x hx
    obtain ⟨y, hy, rfl⟩ := List.mem_map.mp hx
    rcases List.mem_append.mp hy with hy | hy
    · obtain ⟨r, hr, rfl⟩ := List.mem_map.mp hy
      rw [line_len (d2 r hr)]
      rcases h3 r hr with h | h
      · cases h
      · omega
    · rw [List.mem_singleton.mp hy, line_len d1]
      omega
  have hs := sum_le_of hx
  simp only [List.length_map, List.length_append, List.length_cons, List.length_nil] at hs ⊢
  omega
theorem bar_room {xs : List Str} (h : (xs.map (·.length)).sum + xs.length * 64 ≤ 16777216) (hn : 1 ≤ xs.length) : (Txt.join (Str.ofString "|") xs).length + 2 ≤ sizeLine := by
  unfold Txt.join
  rw [size_glued, show (Str.ofString "|").length = 1 by decide, sizeLine_eq]
  omega
end
section
open PySem PySem.W PyProof.Rows PySem.Flt PySem.Spec PyProof.Rows.LCg
set_option maxHeartbeats 1000000
noncomputable def digN (d : Str) : Int := ((d.cps.toList.headD 48 : Nat) : Int) - 48
theorem digN_digC {n : Nat} (h : n ≤ 4) : digN (digC n) = (n : Int) := by
  unfold digN
  rw [digC_list h]
  simp only [List.headD_cons]
  omega
noncomputable def rowK (i : Nat) (ds : List Str) : List Int := ds.map fun d => (i : Int) * digN d
noncomputable def rowL (rows : List (List Str)) (i : Nat) : List Int := (List.range i).flatMap fun j => rowK j (rows.getD j [])
theorem rowL_succ {rows : List (List Str)} {i : Nat} : rowL rows (i + 1) = rowL rows i ++ rowK i (rows.getD i []) := by simp [rowL, List.range_succ]
noncomputable def J1 (W : Led) (rows : List (List Str)) : Inv := fun i ys nx _ => nx = W ∧ IntsAre ys (rowL rows i) ∧ ys.length ≤ 100 * i
noncomputable def J2 (W : Led) (rows : List (List Str)) (i : Nat) (t : Tok) : Inv := fun j ys nx mC => nx = W ∧ IntsAre ys (rowL rows i ++ rowK i ((rows.getD i []).take j)) ∧ ys.length ≤ 100 * i + j ∧ mC (Str.ofString "k") = some (.int (i : Int) t)
theorem strs_at {vs : List Value} {ss : List Str} (h : StrsAre vs ss) {i : Nat} {v : Value} (hv : vs[i]? = some v) : i < ss.length ∧ ∃ t, v = .str (ss.getD i Str.empty) t := by
  induction h generalizing i with
  | nil => simp at hv
  | cons n t _ ih =>
    cases i with
    | zero =>
      simp only [List.getElem?_cons_zero, Option.some.injEq] at hv
      subst hv
      exact ⟨by simp, t, by simp⟩
    | succ i =>
      simp only [List.getElem?_cons_succ] at hv
      obtain ⟨a, t', e⟩ := ih hv
      exact ⟨by simp; omega, t', by simpa using e⟩
theorem rowK_take {ds : List Str} {i j : Nat} (h : j < ds.length) : rowK i (ds.take (j + 1)) = rowK i (ds.take j) ++ [(i : Int) * digN (ds.getD j Str.empty)] := by
  unfold rowK
  rw [List.take_add_one, List.getElem?_eq_getElem h, Option.toList_some, List.map_append, List.map_cons, List.map_nil, List.getD, List.getElem?_eq_getElem h, Option.getD_some]
theorem J2.next {W : Led} {rows : List (List Str)} {i j n : Nat} {t t' : Tok} {ys : List Value} {mC : Str → Option Value} {v : Value} (h : J2 W rows i t j ys W mC) (hj : j < (rows.getD i []).length) (hn : n ≤ 4) (hd : (rows.getD i []).getD j Str.empty = digC n) : J2 W rows i t (j + 1) (ys ++ [.int ((i : Int) * (n : Int)) t']) W (fun y => if y = Str.ofString "sign" then some v else mC y) := by
  obtain ⟨_, h1, h2, h3⟩ := h
  refine ⟨rfl, ?_, by simp; omega, (if_neg (by decide)).trans h3⟩
  rw [rowK_take hj, ← List.append_assoc, hd, digN_digC hn]
  exact ints_snoc' h1 _ t'
theorem J2.fin {W W' : Led} {rows : List (List Str)} {i : Nat} {t : Tok} {ys : List Value} {nx : Led} {mC mC' : Str → Option Value} (h : J2 W rows i t (rows.getD i []).length ys nx mC) (hl : (rows.getD i []).length ≤ 100) : J1 W' rows (i + 1) ys W' mC' := by
  obtain ⟨_, h1, h2, h3⟩ := h
  refine ⟨rfl, ?_, by omega⟩
  rw [rowL_succ]
  rwa [List.take_of_length_le (Nat.le_refl _)] at h1
section
variable {prog : Program} {w : World} {A : Around} {E : Value → Shared → Prop} {s : Shared} {Q : Value → Shared → Prop} {h₀ : Heap} {L D : Addr} {news : Led} {vs : List Value} {ss : List Str} {n : Nat} {k : Int} {u : Tok}
theorem len_lstN (N : News h₀ L s.heap news) (hm : (D, listOf vs.toArray n) ∈ news) (hlen : vs.length ≤ 1000) (h : ∀ t' tk, Q (.int (vs.length : Int) t') { s with toks := tk }) : wpAny (model prog w) A (call (.builtin "len") [.ref D]) Q E s := by
  refine PyProof.Rows.len_list (News.isList N hm) (by rw [List.size_toArray]; omega) ?_
  rw [List.size_toArray]; exact h _ _
theorem item_strN {value slice : PySem.Expr} (N : News h₀ L s.heap news) (hm : (D, listOf vs.toArray n) ∈ news) (hi : StrsAre vs ss) (hlen : ss.length ≤ 1000) (h0 : 0 ≤ k) (h1 : k < (ss.length : Int)) (h : ∀ t', Q (.str (ss.getD k.toNat Str.empty) t') s)
    (hs : subscripted slice false (.ref D) (.int k u) = operate [.ref D, .int k u] (getItem (.ref D) (.int k u)) := by with_unfolding_all rfl) :
    wpAny (model prog w) A (subscriptTail value slice (.ref D) (.int k u)) Q E s :=
  KTb.item_list (News.isList N hm) hi h0 h1 (by omega) (fun t' _ => h t') hs
end
theorem rows_get {ls : List (List Str)} {ds : List Str} {i : Nat} (h : i < (ls ++ [ds]).length) : ((ls ++ [ds]).map lineS).getD i Str.empty = lineS ((ls ++ [ds]).getD i []) ∧ (ls ++ [ds]).getD i [] ∈ ls ++ [ds] := by
  refine ⟨?_, ?_⟩
  · rw [List.getD, List.getElem?_map, List.getElem?_eq_getElem h, List.getD, List.getElem?_eq_getElem h]; rfl
  rw [List.getD, List.getElem?_eq_getElem h, Option.getD_some]
  exact List.getElem_mem h
theorem rows_facts {ms : List Int} {low mx c0 c : Int} {n : Nat} {ls : List (List Str)} {ds : List Str} (h : ms.length = 4) (hn : n ≤ 100) (hR : (ls, c, ds) = fmtRun mx c0 (digsF ms low n)) :
    (∀ r ∈ ls ++ [ds], (∀ d ∈ r, Dig d) ∧ r.length ≤ 100) ∧ (ls ++ [ds]).length ≤ 101 := by
  obtain ⟨d1, d2⟩ := run_dig (ms := ms) (low := low) (mx := mx) (c0 := c0) (n := n) h
  obtain ⟨h1, h2, h3⟩ := run_count (mx := mx) (digsF ms low n) ([], c0, [])
  rw [show (digsF ms low n).foldl (fmtStep mx) ([], c0, []) = fmtRun mx c0 (digsF ms low n) from rfl, ← hR] at h1 h2 h3
  rw [← hR] at d1 d2
  have hl : (digsF ms low n).length = n := by simp [digsF]
  rw [hl] at h1 h2 h3
  simp only [List.length_nil, Nat.zero_add] at h1 h2 h3
  dsimp only at h1 h2 h3 d1 d2
  refine ⟨fun r hr => ?_, by simp; omega⟩
  rcases List.mem_append.mp hr with hr | hr
  · refine ⟨d2 r hr, ?_⟩
    rcases h3 r hr with h | h
    · cases h
    · omega
  · rw [List.mem_singleton.mp hr]
    exact ⟨d1, by omega⟩
theorem ints4w {vs : List Value} {ns : List Int} (h : IntsAre vs ns) (hl : ns.length = 4) : ∃ w0 w1 w2 w3 t0 t1 t2 t3, vs = [.int w0 t0, .int w1 t1, .int w2 t2, .int w3 t3] ∧ ns = [w0, w1, w2, w3] := by
  cases h with
  | nil => simp at hl
  | cons w0 t0 h =>
    cases h with
    | nil => simp at hl
    | cons w1 t1 h =>
      cases h with
      | nil => simp at hl
      | cons w2 t2 h =>
        cases h with
        | nil => simp at hl
        | cons w3 t3 h =>
          cases h with
          | nil => exact ⟨w0, w1, w2, w3, t0, t1, t2, t3, rfl, rfl⟩
          | cons w4 t4 h => simp at hl
theorem ints3w {vs : List Value} {a b c : Int} (h : IntsAre vs [a, b, c]) : ∃ t0 t1 t2, vs = [.int a t0, .int b t1, .int c t2] := by
  cases h with
  | cons _ t0 h =>
    cases h with
    | cons _ t1 h =>
      cases h with
      | cons _ t2 h =>
        cases h
        exact ⟨t0, t1, t2, rfl⟩
noncomputable def J3 (W : Led) (ws : List Int) : Inv := fun i ys nx _ => nx = W ∧ IntsAre ys ((List.range i).map fun j => ws.getD (j + 1) 0 - ws.getD j 0) ∧ ys.length = i
theorem J3.next {W nx : Led} {ws : List Int} {i : Nat} {t' : Tok} {ys : List Value} {mC mC' : Str → Option Value} (h : J3 W ws i ys nx mC) : J3 W ws (i + 1) (ys ++ [.int (ws.getD ((i : Int) + 1).toNat 0 - ws.getD ((i : Int)).toNat 0) t']) nx mC' := by
  obtain ⟨h0, h1, h2⟩ := h
  refine ⟨h0, ?_, by simp [h2]⟩
  rw [List.range_succ, List.map_append, List.map_cons, List.map_nil, show ((i : Int) + 1).toNat = i + 1 by omega, Int.toNat_natCast]
  exact ints_snoc' h1 _ t'
noncomputable def turnS (z : Int) (ms : List Int) (low hi : Int) : Nat := ((rowL (rowsF (2 * z) (2 * low.fmod z) (digsF ms low (hi - low + 1).toNat)) (rowsF (2 * z) (2 * low.fmod z) (digsF ms low (hi - low + 1).toNat)).length).sum.fmod 4).toNat
noncomputable def toldG (z : Int) (ws : List Int) (t : Nat) : List Int := (gapsF z ws).drop t ++ (gapsF z ws).take t
end
section
open PySem PySem.W PyProof.Rows PySem.Flt PySem.Spec PyProof.Rows.LCg
set_option maxHeartbeats 1000000
theorem fmtRun_map {α β : Type} {mx : Int} {f : α → β} : ∀ {ds : List α} {st : List (List α) × Int × List α}, (ds.map f).foldl (fmtStep mx) (st.1.map (·.map f), st.2.1, st.2.2.map f) = (let r := ds.foldl (fmtStep mx) st; (r.1.map (·.map f), r.2.1, r.2.2.map f))
  | [], st => rfl
  | d :: ds, st => by
    simp only [List.map_cons, List.foldl_cons]
    rw [← fmtRun_map]
    congr 1
    unfold fmtStep
    simp only [List.length_map]
    split <;> simp
theorem rowsF_map {α β : Type} {mx c0 : Int} {f : α → β} {ds : List α} : rowsF mx c0 (ds.map f) = (rowsF mx c0 ds).map (·.map f) := by
  unfold rowsF fmtRun
  have h := fmtRun_map (mx := mx) (f := f) (ds := ds) (st := ([], c0, []))
  simp only [List.map_nil] at h
  rw [h]
  simp
theorem rowL_sum {rows : List (List Str)} : (rowL rows rows.length).sum = turnF (rows.map (·.map digN)) := by
  unfold turnF rowL rowK
  rw [List.length_map]
  congr 2
  funext k
  simp only [List.getD_eq_getElem?_getD, List.getElem?_map]
  cases rows[k]? <;> simp [Function.comp_def]
theorem placeN_digs {ms : List Int} {lo : Int} {n : Nat} (h : ms.length = 4) : placeN ms lo n = (digsF ms lo n).map digN := by
  unfold placeN digsF
  rw [List.map_map]
  refine List.map_congr_left fun i _ => ?_
  exact (digN_digC (count_le4 h _)).symm
theorem lo_eq {a b c low : Int} (h1 : low ∈ marksT a b c) (h2 : ∀ x ∈ marksT a b c, low ≤ x) : low = loF a b c := by
  unfold marksT at h1 h2
  simp only [List.mem_cons, List.not_mem_nil, or_false, forall_eq_or_imp, forall_eq] at h1 h2
  obtain ⟨l0, l1, l2, l3⟩ := h2
  unfold loF
  refine Int.le_antisymm (Int.le_min.mpr ⟨Int.le_min.mpr ⟨Int.le_min.mpr ⟨l0, l1⟩, l2⟩, l3⟩) ?_
  have e3 := Int.min_le_right (min (min 0 a) (a + b)) (a + b + c)
  have f3 := Int.min_le_left (min (min 0 a) (a + b)) (a + b + c)
  have e2 := Int.min_le_right (min 0 a) (a + b)
  have f2 := Int.min_le_left (min 0 a) (a + b)
  rcases h1 with h | h | h | h
  · rw [h]; exact Int.le_trans f3 (Int.le_trans f2 (Int.min_le_left 0 a))
  · rw [h]; exact Int.le_trans f3 (Int.le_trans f2 (Int.min_le_right 0 a))
  · rw [h]; exact Int.le_trans f3 e2
  · rw [h]; exact e3
theorem hi_eq {a b c hi : Int} (h1 : hi ∈ marksT a b c) (h2 : ∀ x ∈ marksT a b c, x ≤ hi) : hi = hiF a b c := by
  unfold marksT at h1 h2
  simp only [List.mem_cons, List.not_mem_nil, or_false, forall_eq_or_imp, forall_eq] at h1 h2
  obtain ⟨l0, l1, l2, l3⟩ := h2
  unfold hiF
  refine Int.le_antisymm ?_ (Int.max_le.mpr ⟨Int.max_le.mpr ⟨Int.max_le.mpr ⟨l0, l1⟩, l2⟩, l3⟩)
  have e3 := Int.le_max_right (max (max 0 a) (a + b)) (a + b + c)
  have f3 := Int.le_max_left (max (max 0 a) (a + b)) (a + b + c)
  have e2 := Int.le_max_right (max 0 a) (a + b)
  have f2 := Int.le_max_left (max 0 a) (a + b)
  rcases h1 with h | h | h | h
  · rw [h]; exact Int.le_trans (Int.le_max_left 0 a) (Int.le_trans f2 f3)
  · rw [h]; exact Int.le_trans (Int.le_max_right 0 a) (Int.le_trans f2 f3)
  · rw [h]; exact Int.le_trans e2 f3
  · rw [h]; exact e3
theorem turnS_eq {a b c z low hi : Int} (ha : Three a) (hb : Three b) (hc : Three c) (hz1 : 1 ≤ z) (hz9 : z ≤ 9) (h1 : low ∈ marksT a b c) (h2 : ∀ x ∈ marksT a b c, low ≤ x) (h3 : hi ∈ marksT a b c) (h4 : ∀ x ∈ marksT a b c, x ≤ hi) :
    turnS z (marksT a b c) low hi = (((marksT a b c).map (· / z)).sum % 4).toNat := by
  unfold turnS
  rw [lo_eq h1 h2, hi_eq h3 h4, rowL_sum, ← rowsF_map, ← placeN_digs rfl, Int.fmod_eq_emod_of_nonneg _ (by omega), Int.fmod_eq_emod_of_nonneg _ (by omega), turn_ok ha hb hc ⟨hz1, hz9⟩]
/-- what is told is the ring at the end of the game -/
theorem turn_law {a b c z low hi n r0 r1 r2 r3 : Int} {ws : List Int} (ha : Three a) (hb : Three b) (hc : Three c) (hz1 : 1 ≤ z) (hz9 : z ≤ 9) (P : PlayEnd z a b c n r0 r1 r2 r3) (h1 : low ∈ marksT a b c) (h2 : ∀ x ∈ marksT a b c, low ≤ x) (h3 : hi ∈ marksT a b c) (h4 : ∀ x ∈ marksT a b c, x ≤ hi)
    (hp : ws.Perm ((marksT a b c).map fun m => m.fmod z)) (ho : ws.Pairwise (· ≤ ·)) : toldG z ws (turnS z (marksT a b c) low hi) = [r0, r1, r2, r3] := by
  obtain ⟨_, p0, p1, p2, p3, hs, e, hS⟩ := P
  rw [turnS_eq ha hb hc hz1 hz9 h1 h2 h3 h4]
  have hp' : ws.Perm ((marksT a b c).map (· % z)) := by
    have : (marksT a b c).map (fun m => m.fmod z) = (marksT a b c).map (· % z) := List.map_congr_left fun x _ => Int.fmod_eq_emod_of_nonneg _ (by omega)
    rwa [this] at hp
  exact told_ring hz1 p0 p1 p2 p3 hs hS hp' ho
end
section
open PySem PySem.W PyProof.Rows PySem.Flt PySem.Spec PyProof.Rows.LCg
set_option maxHeartbeats 1000000
/-- names for what the first two rows of the law have made -/
theorem law_open {h₀ h : Heap} {L l D m1 m2 x y z : Addr} {ol ox oz oy : Obj} {a b c d e f : Int} {u0 u1 u2 u3 v0 v1 v2 v3 : Tok} {tl : Led}
    (N : News h₀ L h ((l, ol) :: (D, lst [.ref m1, .ref m2]) :: (m2, listOf #[.int 0 v0, .int ([d, e, f].getD (Int.toNat 0) 0) v1, .int ([d, e, f].getD (Int.toNat 0) 0 + [d, e, f].getD (Int.toNat 1) 0) v2, .int (d + (e + (f + 0))) v3] 0) :: (m1, listOf #[.int 0 u0, .int ([a, b, c].getD (Int.toNat 0) 0) u1, .int ([a, b, c].getD (Int.toNat 0) 0 + [a, b, c].getD (Int.toNat 1) 0) u2, .int (a + (b + (c + 0))) u3] 0) :: (x, ox) :: (z, oz) :: (y, oy) :: tl)) :
    ∃ V1 V2, IntsAre V1 (marksT a b c) ∧ IntsAre V2 (marksT d e f) ∧
      News h₀ L h ((l, ol) :: (D, listOf (List.toArray [.ref m1, .ref m2]) 2) :: (m1, listOf (List.toArray V1) 0) :: (m2, listOf (List.toArray V2) 0) :: (x, ox) :: (z, oz) :: (y, oy) :: tl) := by
  refine ⟨[.int 0 u0, .int a u1, .int (a + b) u2, .int (a + b + c) u3], [.int 0 v0, .int d v1, .int (d + e) v2, .int (d + e + f) v3], .cons _ _ (.cons _ _ (.cons _ _ (.cons _ _ .nil))), .cons _ _ (.cons _ _ (.cons _ _ (.cons _ _ .nil))), fun p hp => ?_⟩
  have e1 : a + (b + (c + 0)) = a + b + c := by omega
  have e2 : d + (e + (f + 0)) = d + e + f := by omega
  rw [e1, e2] at N
  rcases List.mem_cons.mp hp with rfl | hp
  · exact N _ (.head _)
  rcases List.mem_cons.mp hp with rfl | hp
  · exact N _ (.tail _ (.head _))
  rcases List.mem_cons.mp hp with rfl | hp
  · exact N _ (.tail _ (.tail _ (.tail _ (.head _))))
  rcases List.mem_cons.mp hp with rfl | hp
  · exact N _ (.tail _ (.tail _ (.head _)))
  · exact N _ (.tail _ (.tail _ (.tail _ (.tail _ hp))))
/-- all distances of the marks of the rows -/
noncomputable def dist1 (o : Int) (row : List Int) : List Int := row.map fun p => ((o - p).natAbs : Int)
noncomputable def dist2 (row : List Int) (n : Nat) : List Int := (row.take n).flatMap fun o => dist1 o row
noncomputable def dist3 (rows : List (List Int)) (n : Nat) : List Int := (rows.take n).flatMap fun r => dist2 r r.length
theorem flat_take {α : Type} {f : α → List Int} {l : List α} {n : Nat} (h : n < l.length) : (l.take (n + 1)).flatMap f = (l.take n).flatMap f ++ f l[n] := by
  rw [List.take_add_one, List.getElem?_eq_getElem h, Option.toList_some, List.flatMap_append]
  simp
theorem dist3_succ {rows : List (List Int)} {n : Nat} (h : n < rows.length) : dist3 rows (n + 1) = dist3 rows n ++ dist2 rows[n] rows[n].length := flat_take h
theorem dist2_succ {row : List Int} {n : Nat} (h : n < row.length) : dist2 row (n + 1) = dist2 row n ++ dist1 row[n] row := flat_take h
theorem dist1_succ {o : Int} {row : List Int} {n : Nat} (h : n < row.length) : dist1 o (row.take (n + 1)) = dist1 o (row.take n) ++ [((o - row[n]).natAbs : Int)] := by
  unfold dist1
  rw [List.take_add_one, List.getElem?_eq_getElem h, Option.toList_some, List.map_append]
  rfl
noncomputable def K1 (W : Led) (rows : List (List Int)) : Inv := fun i ys nx _ => nx = W ∧ IntsAre ys (dist3 rows i) ∧ ys.length ≤ 16 * i
noncomputable def K2 (W : Led) (rows : List (List Int)) (i : Nat) (row : List Int) (r : Addr) : Inv := fun j ys nx mC => nx = W ∧ IntsAre ys (dist3 rows i ++ dist2 row j) ∧ ys.length ≤ 16 * i + 4 * j ∧ mC (Str.ofString "row") = some (.ref r)
noncomputable def K3 (W : Led) (rows : List (List Int)) (i : Nat) (row : List Int) (j : Nat) (o : Int) (t : Tok) (r : Addr) : Inv := fun k ys nx mC => nx = W ∧ IntsAre ys (dist3 rows i ++ dist2 row j ++ dist1 o (row.take k)) ∧ ys.length ≤ 16 * i + 4 * j + k ∧ mC (Str.ofString "row") = some (.ref r) ∧ mC (Str.ofString "one") = some (.int o t)
theorem nine_marks {a b c : Int} (ha : Three a) (hb : Three b) (hc : Three c) (j k : Nat) : Nine ((marksT a b c).getD j 0 - (marksT a b c).getD k 0) := by
  revert ha hb hc
  revert a b c j k
  refine (?zh : ∀ a b c j k, (?zP : _ → _ → _ → _ → _ → Prop) a b c j k)
  refine fun a b c j k => allE (P := un2 fun a => un2 fun b => un2 fun c => un2 fun j k => ?zP a b c j k) ?zn ?zk (a, b, c, j, k)
  case zn => walk_at "ne"
  clear a b c j k
  refine (?zj : AtE _ ?zE)
  refine (?zF : ∀ a b c j k, ?zP a b c j k) ?zE.1 ?zE.2.1 ?zE.2.2.1 ?zE.2.2.2.1 ?zE.2.2.2.2
  intros a b c j k
  intro ha hb hc
  unfold Three at ha hb hc
  unfold Nine marksT
  rcases j with _ | _ | _ | _ | j <;> rcases k with _ | _ | _ | _ | k <;> simp [List.getD] <;> omega
theorem row_at {m1 m2 : Addr} {V1 V2 : List Value} {r1 r2 : List Int} {nx : Led} {i : Nat} {v : Value} (h : ([.ref m1, .ref m2] : List Value)[i]? = some v) (h1 : (m1, listOf (List.toArray V1) 0) ∈ nx) (h2 : (m2, listOf (List.toArray V2) 0) ∈ nx) (i1 : IntsAre V1 r1) (i2 : IntsAre V2 r2) (l1 : r1.length = 4) (l2 : r2.length = 4) (n1 : ∀ j k, Nine (r1.getD j 0 - r1.getD k 0)) (n2 : ∀ j k, Nine (r2.getD j 0 - r2.getD k 0)) :
    ∃ r V row, (∀ j k, Nine (row.getD j 0 - row.getD k 0)) ∧ v = .ref r ∧ (r, listOf (List.toArray V) 0) ∈ nx ∧ IntsAre V row ∧ row.length = 4 ∧ dist3 [r1, r2] (i + 1) = dist3 [r1, r2] i ++ dist2 row 4 := by
  rcases i with _ | _ | i
  · simp only [List.getElem?_cons_zero, Option.some.injEq] at h
    exact ⟨m1, V1, r1, n1, h.symm, h1, i1, l1, by rw [← l1]; exact dist3_succ (rows := [r1, r2]) (n := 0) (by simp)⟩
  · simp only [List.getElem?_cons_succ, List.getElem?_cons_zero, Option.some.injEq] at h
    exact ⟨m2, V2, r2, n2, h.symm, h2, i2, l2, by rw [← l2]; exact dist3_succ (rows := [r1, r2]) (n := 1) (by simp)⟩
  · simp at h
theorem K3.next {W : Led} {rows : List (List Int)} {i j k : Nat} {row : List Int} {o q : Int} {t t' : Tok} {r : Addr} {ys : List Value} {mC mC' : Str → Option Value} {x : Int} (h : K3 W rows i row j o t r k ys W mC) (hk : k < row.length) (hq : q = row.getD k 0) (hx : x = ((o - q).natAbs : Int)) (e1 : mC' (Str.ofString "row") = mC (Str.ofString "row")) (e2 : mC' (Str.ofString "one") = mC (Str.ofString "one")) : K3 W rows i row j o t r (k + 1) (ys ++ [.int x t']) W mC' := by
  obtain ⟨_, h1, h2, h3, h4⟩ := h
  subst hq hx
  refine ⟨rfl, ?_, by simp; omega, e1.trans h3, e2.trans h4⟩
  rw [dist1_succ hk, ← List.append_assoc, List.getD, List.getElem?_eq_getElem hk, Option.getD_some]
  exact ints_snoc' h1 _ t'
theorem K3.fin {W W' : Led} {rows : List (List Int)} {i j : Nat} {row : List Int} {o : Int} {t : Tok} {r : Addr} {ys : List Value} {nx : Led} {mC : Str → Option Value} (h : K3 W rows i row j o t r row.length ys nx mC) (hl : row.length = 4) (hj : j < row.length) (ho : o = row.getD j 0) : K2 W' rows i row r (j + 1) ys W' mC := by
  obtain ⟨_, h1, h2, h3, _⟩ := h
  refine ⟨rfl, ?_, by omega, h3⟩
  rw [List.take_of_length_le (Nat.le_refl _), List.append_assoc] at h1
  rw [dist2_succ hj]
  have e : row[j] = o := by rw [ho, List.getD, List.getElem?_eq_getElem hj, Option.getD_some]
  rw [e]; exact h1
theorem K2.fin {W W' : Led} {rows : List (List Int)} {i : Nat} {row : List Int} {r : Addr} {ys : List Value} {nx : Led} {mC mC' : Str → Option Value} (h : K2 W rows i row r row.length ys nx mC) (hl : row.length = 4) (e : dist3 rows (i + 1) = dist3 rows i ++ dist2 row 4) : K1 W' rows (i + 1) ys W' mC' := by
  obtain ⟨_, h1, h2, _⟩ := h
  refine ⟨rfl, ?_, by omega⟩
  rw [e, ← hl]; exact h1
end
section
open PySem PySem.W PyProof.Rows PySem.Flt PySem.Spec PyProof.Rows.LCg
set_option maxHeartbeats 1000000
noncomputable def dueF (f g : Int → Int) (i : Nat) : List (Int × Int × Int) := wit (fun _ _ => true) f g i
theorem dueF_succ {f g : Int → Int} {i : Nat} : dueF f g (i + 1) = dueF f g i ++ [(1 + (i : Int), f (1 + (i : Int)), g (1 + (i : Int)))] := wit_yes rfl
/-- the law's loop over the sizes -/
inductive LwJ (f g : Int → Int) (m₀ : Str → Option Value) (base : Led) (i : Nat) (m : Str → Option Value) (nx : Led) (gg : Array GenState) : Prop where
  | mk (f0 : AllBare gg) (u : Str → Option Value) (la : Addr) (vs : List Value) (k : Nat) (tl : Led) (psA psB : Array Value) (f1 : m = (fun y => if y = Str.ofString "played" then u y else if y = Str.ofString "due" then some (.ref la) else m₀ y)) (f2 : nx = (la, listOf vs.toArray k) :: (234, tabObj psA) :: (241, tabObj psB) :: (tl ++ base)) (f3 : TriplesOk psA.toList) (f4 : TriplesOk psB.toList) (f5 : DatAll tl vs ((dueF f g i).map rowD)) (f6 : ∀ p ∈ tl ++ base, p.1 ≠ la ∧ p.1 ≠ 234 ∧ p.1 ≠ 241) (f7 : @Ne Nat la 234) (f8 : @Ne Nat la 241) (f9 : vs.length = i) : LwJ f g m₀ base i m nx gg
theorem LwJ.next {f g : Int → Int} {h₀ h' : Heap} {L I c la D : Addr} {oI oc : Obj} {m₀ m' u : Str → Option Value} {base : Led} {i k k' : Nat} {vs : List Value} {tl news' : Led} {psA psB : Array Value} {s₁ : Shared} {tk : Nat} {g' : Array GenState} {t1 t2 t3 : Tok} {x y z : Int} {v : Option Value}
    (F : Fr h₀ L h' m') (N : News h₀ L h' news') (hI : (I, oI) ∈ news') (hc : (c, oc) ∈ news') (hoc : oc.data = .cell v) (hD : (D, tupO [.int x t1, .int y t2, .int z t3]) ∈ news') (hla : (la, listOf (vs ++ [Value.ref D]).toArray k') ∈ news') (hA : (234, tabObj psA) ∈ news') (hB : (241, tabObj psB) ∈ news') (hs : ∀ p ∈ tl ++ base, p ∈ news')
    (hx : x = 1 + (i : Int)) (hy : y = f x) (hz : z = g x) (hD1 : D ≠ I ∧ D ≠ c ∧ D ≠ la ∧ @Ne Nat D 234 ∧ @Ne Nat D 241) (hla1 : la ≠ I ∧ la ≠ c) (hp1 : @Ne Nat 234 I ∧ @Ne Nat 234 c) (hp2 : @Ne Nat 241 I ∧ @Ne Nat 241 c) (hne : ∀ p ∈ tl ++ base, p.1 ≠ I ∧ p.1 ≠ c)
    (hm : m' = (fun y => if y = Str.ofString "played" then u y else if y = Str.ofString "due" then some (.ref la) else m₀ y)) (ta : TriplesOk psA.toList) (tb : TriplesOk psB.toList) (dd : DatAll tl vs ((dueF f g i).map rowD)) (hn : ∀ p ∈ tl ++ base, p.1 ≠ la ∧ p.1 ≠ 234 ∧ p.1 ≠ 241) (n1 : @Ne Nat la 234) (n2 : @Ne Nat la 241) (hl : vs.length = i) (hgb : AllBare g') :
    EndC h₀ L (LwJ f g m₀ base (i + 1)) I oI c s₁ { s₁ with heap := h', gens := g', toks := tk } := by
  subst hx hy hz
  refine ⟨h', g', tk, m', news', (la, listOf (vs ++ [Value.ref D]).toArray k') :: (234, tabObj psA) :: (241, tabObj psB) :: (((D, tupO [.int (1 + (i : Int)) t1, .int (f (1 + (i : Int))) t2, .int (g (1 + (i : Int))) t3]) :: tl) ++ base), oc, v, rfl, F, N, hI, hc, hoc, ?_, ?_, hgb, u, la, _, k', _, psA, psB, hm, rfl, ta, tb, ?_, ?_, n1, n2, by simp [hl]⟩
  · intro p hp
    rcases List.mem_cons.mp hp with rfl | hp
    · exact hla
    rcases List.mem_cons.mp hp with rfl | hp
    · exact hA
    rcases List.mem_cons.mp hp with rfl | hp
    · exact hB
    rcases List.mem_cons.mp hp with rfl | hp
    · exact hD
    · exact hs p hp
  · intro p hp
    rcases List.mem_cons.mp hp with rfl | hp
    · exact hla1
    rcases List.mem_cons.mp hp with rfl | hp
    · exact hp1
    rcases List.mem_cons.mp hp with rfl | hp
    · exact hp2
    rcases List.mem_cons.mp hp with rfl | hp
    · exact ⟨hD1.1, hD1.2.1⟩
    · exact hne p hp
  · rw [dueF_succ, List.map_append]
    refine DatAll.append (dd.mono fun p hp => List.Mem.tail _ hp) (.one ?_)
    exact DatIn.tuple (vs := [.int _ _, .int _ _, .int _ _]) (List.Mem.head _) (.cons (.int _ _) (.cons (.int _ _) (.cons (.int _ _) .nil)))
  · intro p hp
    rcases List.mem_cons.mp hp with rfl | hp
    · exact hD1.2.2
    · exact hn p hp
/-- the comprehension that asks told of both rows -/
noncomputable def K4 (rs : List (List Int)) (W : Led) : Inv := fun i ys nx _ =>
  ∃ (tl : Led) (psA psB : Array Value), nx = (234, tabObj psA) :: (241, tabObj psB) :: (tl ++ W) ∧ TriplesOk psA.toList ∧ TriplesOk psB.toList ∧ DatAll tl ys ((rs.take i).map fun r => Dat.list (r.map Dat.int)) ∧ (∀ p ∈ tl ++ W, p.1 ≠ 234 ∧ p.1 ≠ 241) ∧ ys.length = i
theorem K4.next {rs : List (List Int)} {W : Led} {i : Nat} {ys : List Value} {tl : Led} {psA psB : Array Value} {D : Addr} {vs : List Value} {n : Nat} {r : List Int} {mC : Str → Option Value} (hr : rs[i]? = some r) (ta : TriplesOk psA.toList) (tb : TriplesOk psB.toList) (dd : DatAll tl ys ((rs.take i).map fun r => Dat.list (r.map Dat.int))) (hn : ∀ p ∈ tl ++ W, p.1 ≠ 234 ∧ p.1 ≠ 241) (hl : ys.length = i) (hi : IntsAre vs r) (n1 : @Ne Nat D 234) (n2 : @Ne Nat D 241) :
    K4 rs W (i + 1) (ys ++ [.ref D]) ((234, tabObj psA) :: (241, tabObj psB) :: (((D, listOf vs.toArray n) :: tl) ++ W)) mC := by
  refine ⟨_, psA, psB, rfl, ta, tb, ?_, ?_, by simp [hl]⟩
  · rw [List.take_add_one, hr, Option.toList_some, List.map_append]
    refine DatAll.append (dd.mono fun p hp => List.Mem.tail _ hp) (.one ?_)
    exact DatIn.list (List.Mem.head _) (ints_dat hi)
  · intro p hp
    rcases List.mem_cons.mp hp with rfl | hp
    · exact ⟨n1, n2⟩
    · exact hn p hp
end
section
open PySem PySem.W PyProof.Rows PySem.Flt PySem.Spec PyProof.Rows.LCg
set_option maxHeartbeats 1000000
theorem law_base {h₀ h : Heap} {L l D3 D l1 c2 : Addr} {ol o3 oD o1 oc2 : Obj} {p1 p2 p3 p4 p5 p6 p7 pA pB : Addr × Obj} (N : News h₀ L h ((l, ol) :: (D3, o3) :: (D, oD) :: (l1, o1) :: p1 :: p2 :: p3 :: p4 :: p5 :: p6 :: (c2, oc2) :: p7 :: pA :: pB :: [])) :
    ∃ base, base = [p1, p2, p3, p4, p5, p6, p7] ∧ News h₀ L h ((c2, oc2) :: (l, ol) :: pA :: pB :: base) := by
  refine ⟨_, rfl, fun p hp => N p ?_⟩
  simp only [List.mem_cons, List.not_mem_nil, or_false] at hp ⊢
  rcases hp with h | h | h | h | h | h | h | h | h | h | h <;> simp [h]
theorem len64 {xs : List Int} (h : xs.length ≤ 63) : (xs ++ [0]).length ≤ 64 ∧ 1 ≤ (xs ++ [0]).length := by simp; omega
theorem tab_ne {h₀ h : Heap} {L P x : Addr} {o : Obj} {ps : Array Value} {news : Led} (N : News h₀ L h news) (h1 : (P, tabObj ps) ∈ news) (h2 : (x, o) ∈ news) (hc : o.cls ≠ .none) : @Ne Nat x P := by
  intro e
  have e1 := (N _ h1).1
  have e2 := (N _ h2).1
  dsimp only at e1 e2
  have e' : x = P := e
  rw [e', e1] at e2
  injection e2 with e2
  exact hc (by rw [← e2])
theorem forall_cons2 {q : Addr × Obj} {l : Led} {a b : Addr} (h1 : @Ne Nat q.1 a) (h2 : @Ne Nat q.1 b) (h : ∀ p ∈ l, p.1 ≠ a ∧ p.1 ≠ b) : ∀ p ∈ q :: l, p.1 ≠ a ∧ p.1 ≠ b := by
  intro p hp
  rcases List.mem_cons.mp hp with rfl | hp
  · exact ⟨h1, h2⟩
  · exact h p hp
theorem turn_open {h₀ h : Heap} {L DL PL x1 x2 R1 R2 I c la : Addr} {NUM1 NUM2 r0 r1 r2 r3 q0 q1 q2 q3 z a b cc a' b' c' : Int} {t1 t2 u0 u1 u2 u3 w0 w1 w2 w3 : Tok} {p1 p2 p3 p4 : Addr × Obj} {oI oc ol : Obj} {psA psB : Array Value} {tl : Led}
    (N : News h₀ L h ((DL, lst [.ref R1, .ref R2]) :: (PL, lst [.ref x1, .ref x2]) :: (x2, tupO [.int NUM2 t2, .ref R2]) :: (R2, listOf #[.int q0 w0, .int q1 w1, .int q2 w2, .int q3 w3] 0) :: p1 :: p2 :: (x1, tupO [.int NUM1 t1, .ref R1]) :: (R1, listOf #[.int r0 u0, .int r1 u1, .int r2 u2, .int r3 u3] 0) :: p3 :: p4 :: (I, oI) :: (c, oc) :: (la, ol) :: (234, tabObj psA) :: (241, tabObj psB) :: tl))
    (e1 : PlayEnd z a b cc NUM1 r0 r1 r2 r3) (e2 : PlayEnd z a' b' c' NUM2 q0 q1 q2 q3) (hA : ((234, tabObj psA) : Addr × Obj).1 ≠ I ∧ ((234, tabObj psA) : Addr × Obj).1 ≠ c) (hB : ((241, tabObj psB) : Addr × Obj).1 ≠ I ∧ ((241, tabObj psB) : Addr × Obj).1 ≠ c) (n1 : @Ne Nat la 234) (n2 : @Ne Nat la 241) (hn : ∀ p ∈ tl, p.1 ≠ la ∧ p.1 ≠ 234 ∧ p.1 ≠ 241) :
    ∃ (W : Led) (ds : List Int) (es : List Int) (VA VB : List Value), ds = [r0, r1, r2, r3] ∧ es = [q0, q1, q2, q3] ∧ IntsAre VA ds ∧ IntsAre VB es ∧
      W = (DL, lst [.ref R1, .ref R2]) :: (PL, lst [.ref x1, .ref x2]) :: (x1, tupO [.int NUM1 t1, .ref R1]) :: (x2, tupO [.int NUM2 t2, .ref R2]) :: (R1, listOf VA.toArray 0) :: (R2, listOf VB.toArray 0) :: (I, oI) :: (c, oc) :: (la, ol) :: tl ∧
      (∀ p ∈ W, p.1 ≠ 234 ∧ p.1 ≠ 241) ∧ News h₀ L h ((234, tabObj psA) :: (241, tabObj psB) :: W) := by
  have N2 : News h₀ L h ((234, tabObj psA) :: (241, tabObj psB) :: (DL, lst [.ref R1, .ref R2]) :: (PL, lst [.ref x1, .ref x2]) :: (x1, tupO [.int NUM1 t1, .ref R1]) :: (x2, tupO [.int NUM2 t2, .ref R2]) :: (R1, listOf #[.int r0 u0, .int r1 u1, .int r2 u2, .int r3 u3] 0) :: (R2, listOf #[.int q0 w0, .int q1 w1, .int q2 w2, .int q3 w3] 0) :: (I, oI) :: (c, oc) :: (la, ol) :: tl) := by
    exact nsub N (subs_cons (by repeat (first | exact List.Mem.head _ | refine List.Mem.tail _ ?_)) (subs_cons (by repeat (first | exact List.Mem.head _ | refine List.Mem.tail _ ?_)) (subs_cons (by repeat (first | exact List.Mem.head _ | refine List.Mem.tail _ ?_)) (subs_cons (by repeat (first | exact List.Mem.head _ | refine List.Mem.tail _ ?_)) (subs_cons (by repeat (first | exact List.Mem.head _ | refine List.Mem.tail _ ?_)) (subs_cons (by repeat (first | exact List.Mem.head _ | refine List.Mem.tail _ ?_)) (subs_cons (by repeat (first | exact List.Mem.head _ | refine List.Mem.tail _ ?_)) (subs_cons (by repeat (first | exact List.Mem.head _ | refine List.Mem.tail _ ?_)) (subs_cons (by repeat (first | exact List.Mem.head _ | refine List.Mem.tail _ ?_)) (subs_cons (by repeat (first | exact List.Mem.head _ | refine List.Mem.tail _ ?_)) (subs_cons (by repeat (first | exact List.Mem.head _ | refine List.Mem.tail _ ?_)) fun p hp => by repeat (first | exact hp | refine List.Mem.tail _ ?_))))))))))))
  have tA : ∀ {x : Addr} {o : Obj}, (x, o) ∈ _ → o.cls ≠ .none → @Ne Nat x 234 := fun h2 hc => tab_ne N2 (.head _) h2 hc
  have tB : ∀ {x : Addr} {o : Obj}, (x, o) ∈ _ → o.cls ≠ .none → @Ne Nat x 241 := fun h2 hc => tab_ne N2 (.tail _ (.head _)) h2 hc
  refine ⟨_, _, _, [.int r0 u0, .int r1 u1, .int r2 u2, .int r3 u3], [.int q0 w0, .int q1 w1, .int q2 w2, .int q3 w3], rfl, rfl, .cons _ _ (.cons _ _ (.cons _ _ (.cons _ _ .nil))), .cons _ _ (.cons _ _ (.cons _ _ (.cons _ _ .nil))), rfl, ?_, N2⟩
  refine forall_cons2 (tA (by repeat (first | exact List.Mem.head _ | refine List.Mem.tail _ ?_)) (by simp)) (tB (by repeat (first | exact List.Mem.head _ | refine List.Mem.tail _ ?_)) (by simp)) ?_
  refine forall_cons2 (tA (by repeat (first | exact List.Mem.head _ | refine List.Mem.tail _ ?_)) (by simp)) (tB (by repeat (first | exact List.Mem.head _ | refine List.Mem.tail _ ?_)) (by simp)) ?_
  refine forall_cons2 (tA (by repeat (first | exact List.Mem.head _ | refine List.Mem.tail _ ?_)) (by simp)) (tB (by repeat (first | exact List.Mem.head _ | refine List.Mem.tail _ ?_)) (by simp)) ?_
  refine forall_cons2 (tA (by repeat (first | exact List.Mem.head _ | refine List.Mem.tail _ ?_)) (by simp)) (tB (by repeat (first | exact List.Mem.head _ | refine List.Mem.tail _ ?_)) (by simp)) ?_
  refine forall_cons2 (tA (by repeat (first | exact List.Mem.head _ | refine List.Mem.tail _ ?_)) (by simp [W.listOf])) (tB (by repeat (first | exact List.Mem.head _ | refine List.Mem.tail _ ?_)) (by simp [W.listOf])) ?_
  refine forall_cons2 (tA (by repeat (first | exact List.Mem.head _ | refine List.Mem.tail _ ?_)) (by simp [W.listOf])) (tB (by repeat (first | exact List.Mem.head _ | refine List.Mem.tail _ ?_)) (by simp [W.listOf])) ?_
  refine forall_cons2 (Ne.symm hA.1) (Ne.symm hB.1) (forall_cons2 (Ne.symm hA.2) (Ne.symm hB.2) (forall_cons2 n1 n2 fun p hp => (hn p hp).2))
theorem marks_bd {a b c : Int} (ha : Three a) (hb : Three b) (hc : Three c) (j : Nat) : -9 ≤ (marksT a b c).getD j 0 ∧ (marksT a b c).getD j 0 ≤ 9 := by
  unfold Three at ha hb hc
  unfold marksT
  rcases j with _ | _ | _ | _ | j <;> simp [List.getD] <;> omega
theorem row_told {m1 m2 : Addr} {V1 V2 : List Value} {a b c a' b' c' z n1 n2 r0 r1 r2 r3 q0 q1 q2 q3 : Int} {W : Led} {i : Nat} {v : Value} (h : ([.ref m1, .ref m2] : List Value)[i]? = some v) (h1 : (m1, listOf (List.toArray V1) 0) ∈ W) (h2 : (m2, listOf (List.toArray V2) 0) ∈ W) (i1 : IntsAre V1 (marksT a b c)) (i2 : IntsAre V2 (marksT a' b' c'))
    (ha : Three a) (hb : Three b) (hc : Three c) (ha' : Three a') (hb' : Three b') (hc' : Three c') (hz1 : 1 ≤ z) (hz9 : z ≤ 9) (e1 : PlayEnd z a b c n1 r0 r1 r2 r3) (e2 : PlayEnd z a' b' c' n2 q0 q1 q2 q3) :
    ∃ lm V row r, v = .ref lm ∧ (lm, listOf (List.toArray V) 0) ∈ W ∧ IntsAre V row ∧ row.length = 4 ∧ (∀ j, -9 ≤ row.getD j 0 ∧ row.getD j 0 ≤ 9) ∧ [[r0, r1, r2, r3], [q0, q1, q2, q3]][i]? = some r ∧
      ∀ ws low hi, low ∈ row → (∀ x ∈ row, low ≤ x) → hi ∈ row → (∀ x ∈ row, x ≤ hi) → ws.Perm (row.map fun m => m.fmod z) → ws.Pairwise (· ≤ ·) → toldG z ws (turnS z row low hi) = r := by
  rcases i with _ | _ | i
  · simp only [List.getElem?_cons_zero, Option.some.injEq] at h
    exact ⟨m1, V1, _, _, h.symm, h1, i1, rfl, marks_bd ha hb hc, rfl, fun ws low hi k1 k2 k3 k4 k5 k6 => turn_law ha hb hc hz1 hz9 e1 k1 k2 k3 k4 k5 k6⟩
  · simp only [List.getElem?_cons_succ, List.getElem?_cons_zero, Option.some.injEq] at h
    exact ⟨m2, V2, _, _, h.symm, h2, i2, rfl, marks_bd ha' hb' hc', rfl, fun ws low hi k1 k2 k3 k4 k5 k6 => turn_law ha' hb' hc' hz1 hz9 e2 k1 k2 k3 k4 k5 k6⟩
  · simp at h
theorem elt_told {h₀ h' : Heap} {L I C D Dn lm : Addr} {oI oC ol : Obj} {m mC : Str → Option Value} {s : Shared} {ys vs' : List Value} {nn i tk' : Nat} {g' : Array GenState} {pA pB qA qB : Array Value} {tl W : Led} {rs : List (List Int)} {r r' : List Int} (hgk : AllBare s.gens → AllBare g') (F : Fr h₀ L h' m) (N : News h₀ L h' ((Dn, listOf (List.toArray vs') nn) :: (lm, ol) :: (234, tabObj pA) :: (241, tabObj pB) :: ((I, oI) :: (C, oC) :: (D, lst ys) :: (tl ++ W))))
    (hlt : ∀ p ∈ ((I, oI) :: (C, oC) :: (D, lst ys) :: (tl ++ W)), p.1 < Dn) (h241 : @LT.lt Nat _ 241 Dn) (off : ∀ p ∈ (234, tabObj qA) :: (241, tabObj qB) :: (tl ++ W), p.1 ≠ I ∧ p.1 ≠ C ∧ p.1 ≠ D) (hr : rs[i]? = some r) (ta : TriplesOk pA.toList) (tb : TriplesOk pB.toList) (dd : DatAll tl ys ((rs.take i).map fun r => Dat.list (r.map Dat.int))) (hn : ∀ p ∈ tl ++ W, p.1 ≠ 234 ∧ p.1 ≠ 241) (hl : ys.length = i) (he : r' = r) (hi : IntsAre vs' r') :
    EltCh h₀ L m s I oI C oC D ys (K4 rs W (i + 1)) mC (.ref Dn) { s with heap := h', gens := g', toks := tk' } := by
  subst he
  have g1 : @LT.lt Nat _ I Dn := hlt _ (.head _)
  have g2 : @LT.lt Nat _ C Dn := hlt _ (.tail _ (.head _))
  have g3 : @LT.lt Nat _ D Dn := hlt _ (.tail _ (.tail _ (.head _)))
  refine ⟨h', g', tk', _, rfl, hgk, F, fun p hp => N p ?_, ?_, K4.next (n := nn) hr ta tb dd hn hl hi (by show @Ne Nat _ _; omega) (by show @Ne Nat _ _; omega)⟩
  · rcases List.mem_cons.mp hp with rfl | hp
    · exact .tail _ (.tail _ (.tail _ (.tail _ (.head _))))
    rcases List.mem_cons.mp hp with rfl | hp
    · exact .tail _ (.tail _ (.tail _ (.tail _ (.tail _ (.head _)))))
    rcases List.mem_cons.mp hp with rfl | hp
    · exact .tail _ (.tail _ (.tail _ (.tail _ (.tail _ (.tail _ (.head _))))))
    rcases List.mem_cons.mp hp with rfl | hp
    · exact .tail _ (.tail _ (.head _))
    rcases List.mem_cons.mp hp with rfl | hp
    · exact .tail _ (.tail _ (.tail _ (.head _)))
    rcases List.mem_cons.mp hp with rfl | hp
    · exact .head _
    · exact .tail _ (.tail _ (.tail _ (.tail _ (.tail _ (.tail _ (.tail _ hp))))))
  · intro p hp
    rcases List.mem_cons.mp hp with rfl | hp
    · exact off (234, tabObj qA) (.head _)
    rcases List.mem_cons.mp hp with rfl | hp
    · exact off (241, tabObj qB) (.tail _ (.head _))
    rcases List.mem_cons.mp hp with rfl | hp
    · exact ⟨Nat.ne_of_gt g1, Nat.ne_of_gt g2, Nat.ne_of_gt g3⟩
    · exact off p (.tail _ (.tail _ hp))
theorem fz_bd {z x : Int} (hz1 : 1 ≤ z) (hz9 : z ≤ 9) (hx : -9 ≤ x ∧ x ≤ 9) : 0 ≤ fz z x ∧ fz z x ≤ 20 := by
  refine ⟨fz_nonneg hz1 x, ?_⟩
  unfold fz
  split
  · exact Int.le_trans (Int.ediv_le_self _ (by omega)) (by omega)
  · split
    · exact Int.le_trans (Int.ediv_le_self _ (by omega)) (by omega)
    · omega
theorem Iz_bd {z a b c : Int} (ha : Three a) (hb : Three b) (hc : Three c) (hz1 : 1 ≤ z) (hz9 : z ≤ 9) : 0 ≤ Iz z a b c ∧ Iz z a b c ≤ 120 := by
  unfold Three at ha hb hc
  have h1 := fz_bd (x := a) hz1 hz9 (by omega)
  have h2 := fz_bd (x := b) hz1 hz9 (by omega)
  have h3 := fz_bd (x := c) hz1 hz9 (by omega)
  have h4 := fz_bd (x := a + b) hz1 hz9 (by omega)
  have h5 := fz_bd (x := b + c) hz1 hz9 (by omega)
  have h6 := fz_bd (x := a + b + c) hz1 hz9 (by omega)
  unfold Iz; omega
theorem rest_ne2 {I C D : Addr} {oA oB oI oC oD : Obj} {l : Led} (off : ∀ p ∈ (234, oA) :: (241, oB) :: l, p.1 ≠ I ∧ p.1 ≠ C ∧ p.1 ≠ D) (hn : ∀ p ∈ l, p.1 ≠ 234 ∧ p.1 ≠ 241) :
    (∀ p ∈ (I, oI) :: (C, oC) :: (D, oD) :: l, p.1 ≠ 234) ∧ (∀ p ∈ (I, oI) :: (C, oC) :: (D, oD) :: l, p.1 ≠ 241) := by
  have h1 := off (234, oA) (.head _)
  have h2 := off (241, oB) (.tail _ (.head _))
  constructor
  · intro p hp
    rcases List.mem_cons.mp hp with rfl | hp
    · exact Ne.symm h1.1
    rcases List.mem_cons.mp hp with rfl | hp
    · exact Ne.symm h1.2.1
    rcases List.mem_cons.mp hp with rfl | hp
    · exact Ne.symm h1.2.2
    · exact (hn p hp).1
  · intro p hp
    rcases List.mem_cons.mp hp with rfl | hp
    · exact Ne.symm h2.1
    rcases List.mem_cons.mp hp with rfl | hp
    · exact Ne.symm h2.2.1
    rcases List.mem_cons.mp hp with rfl | hp
    · exact Ne.symm h2.2.2
    · exact (hn p hp).2
open Classical in
theorem ne_same {prog : Program} {w : World} {A : Around} {E : Value → Shared → Prop} {s : Shared} {Q : Value → Shared → Prop} {h₀ : Heap} {L : Addr} {news : Led} {u v : Value} {d : Dat} (N : News h₀ L s.heap news) (Da : DatIn news u d) (Db : DatIn news v d) (ha : kqdOk 8 d = true) (hu : A.units + 64 < cLine) (h : Q (.bool false) s) :
    wpAny (model prog w) A (compareOp .NotEq u v) Q E s := by
  refine ne_dat N Da Db ha ha hu ?_
  rw [decide_eq_true rfl]; exact h
theorem ok_rings (rs : List (List Int)) : kqdOk 8 (.list (rs.map fun r => Dat.list (r.map Dat.int))) = true := by
  simp only [kqdOk, List.all_eq_true, List.mem_map]
  rintro d ⟨r, _, rfl⟩
  simp only [kqdOk, List.all_eq_true]
  exact ok_ints r 6
theorem turn_close {h₀ h : Heap} {L D DL PL xa xb RA RB I c la : Addr} {oD oA oB oDL oPL oxa oxb oRA oRB oI oc ol : Obj} {W tl tl2 : Led} (N : News h₀ L h ((D, oD) :: (234, oA) :: (241, oB) :: (tl2 ++ W))) (hW : W = (DL, oDL) :: (PL, oPL) :: (xa, oxa) :: (xb, oxb) :: (RA, oRA) :: (RB, oRB) :: (I, oI) :: (c, oc) :: (la, ol) :: tl) :
    News h₀ L h ((la, ol) :: (PL, oPL) :: (xa, oxa) :: (xb, oxb) :: (I, oI) :: (c, oc) :: (234, oA) :: (241, oB) :: tl) := by
  subst hW
  have up : ∀ p, p ∈ (DL, oDL) :: (PL, oPL) :: (xa, oxa) :: (xb, oxb) :: (RA, oRA) :: (RB, oRB) :: (I, oI) :: (c, oc) :: (la, ol) :: tl → p ∈ (D, oD) :: (234, oA) :: (241, oB) :: (tl2 ++ ((DL, oDL) :: (PL, oPL) :: (xa, oxa) :: (xb, oxb) :: (RA, oRA) :: (RB, oRB) :: (I, oI) :: (c, oc) :: (la, ol) :: tl)) := fun p hp => .tail _ (.tail _ (.tail _ (List.mem_append_right _ hp)))
  exact nsub N (subs_cons (up _ (by repeat (first | exact List.Mem.head _ | refine List.Mem.tail _ ?_))) (subs_cons (up _ (by repeat (first | exact List.Mem.head _ | refine List.Mem.tail _ ?_))) (subs_cons (up _ (by repeat (first | exact List.Mem.head _ | refine List.Mem.tail _ ?_))) (subs_cons (up _ (by repeat (first | exact List.Mem.head _ | refine List.Mem.tail _ ?_))) (subs_cons (up _ (by repeat (first | exact List.Mem.head _ | refine List.Mem.tail _ ?_))) (subs_cons (up _ (by repeat (first | exact List.Mem.head _ | refine List.Mem.tail _ ?_))) (subs_cons (by repeat (first | exact List.Mem.head _ | refine List.Mem.tail _ ?_)) (subs_cons (by repeat (first | exact List.Mem.head _ | refine List.Mem.tail _ ?_)) fun p hp => up _ (by repeat (first | exact hp | refine List.Mem.tail _ ?_))))))))))
theorem dat_two {news : Led} {DL RA RB : Addr} {VA VB : List Value} {ds es : List Int} {n1 n2 : Nat} (h1 : (DL, lst [.ref RA, .ref RB]) ∈ news) (h2 : (RA, listOf VA.toArray n1) ∈ news) (h3 : (RB, listOf VB.toArray n2) ∈ news) (hVA : IntsAre VA ds) (hVB : IntsAre VB es) :
    DatIn news (.ref DL) (.list ([ds, es].map fun r => Dat.list (r.map Dat.int))) := by
  have e : DatAll news [.ref RA, .ref RB] [Dat.list (ds.map Dat.int), Dat.list (es.map Dat.int)] := DatAll.cons (DatIn.list h2 (ints_dat hVA)) (DatAll.cons (DatIn.list h3 (ints_dat hVB)) DatAll.nil)
  exact DatIn.list (vs := [.ref RA, .ref RB]) (n := 2) h1 e
theorem forall_cons1 {q : Addr × Obj} {l : Led} {a : Addr} (h1 : @Ne Nat q.1 a) (h : ∀ p ∈ l, p.1 ≠ a) : ∀ p ∈ q :: l, p.1 ≠ a := by
  intro p hp
  rcases List.mem_cons.mp hp with rfl | hp
  · exact h1
  · exact h p hp
theorem turn_append {prog : Program} {w : World} {A : Around} {E : Value → Shared → Prop} {s : Shared} {Q : Value → Shared → Prop} {h₀ : Heap} {L D la I c : Addr} {m : Str → Option Value} {oD oI oc oA oB : Obj} {vs : List Value} {k i : Nat} {pP pa pb : Addr × Obj} {tl : Led} (F : Fr h₀ L s.heap m)
    (N : News h₀ L s.heap ((D, oD) :: (la, listOf vs.toArray k) :: pP :: pa :: pb :: (I, oI) :: (c, oc) :: (234, oA) :: (241, oB) :: tl)) (hD : @LT.lt Nat _ la D) (hI : ((la, listOf vs.toArray k) : Addr × Obj).1 ≠ I ∧ ((la, listOf vs.toArray k) : Addr × Obj).1 ≠ c) (n1 : @Ne Nat la 234) (n2 : @Ne Nat la 241) (hn : ∀ p ∈ tl, p.1 ≠ la ∧ p.1 ≠ 234 ∧ p.1 ≠ 241) (hl : vs.length = i) (hi : i ≤ 8)
    (h : ∀ h', Fr h₀ L h' m → News h₀ L h' ((D, oD) :: (la, listOf (vs ++ [Value.ref D]).toArray (k + 1)) :: (I, oI) :: (c, oc) :: (234, oA) :: (241, oB) :: tl) → Q .none { s with heap := h' }) :
    wpAny (model prog w) A (call (.builtin "list.append") [.ref la, .ref D]) Q E s := by
  have N2 : News h₀ L s.heap ((D, oD) :: (la, listOf vs.toArray k) :: (I, oI) :: (c, oc) :: (234, oA) :: (241, oB) :: tl) := nsub N (subs_cons (by repeat (first | exact List.Mem.head _ | refine List.Mem.tail _ ?_)) (subs_cons (by repeat (first | exact List.Mem.head _ | refine List.Mem.tail _ ?_)) (subs_cons (by repeat (first | exact List.Mem.head _ | refine List.Mem.tail _ ?_)) (subs_cons (by repeat (first | exact List.Mem.head _ | refine List.Mem.tail _ ?_)) (subs_cons (by repeat (first | exact List.Mem.head _ | refine List.Mem.tail _ ?_)) (subs_cons (by repeat (first | exact List.Mem.head _ | refine List.Mem.tail _ ?_)) fun p hp => by repeat (first | exact hp | refine List.Mem.tail _ ?_)))))))
  refine append_N F N2 (.tail (Nat.ne_of_gt hD) (.head ?_)) (by omega) h
  exact forall_cons1 (Ne.symm hI.1) (forall_cons1 (Ne.symm hI.2) (forall_cons1 (Ne.symm n1) (forall_cons1 (Ne.symm n2) fun p hp => (hn p hp).1)))
noncomputable def lawM (top : Int) (tt : Tok) (D1 x1 : Addr) (u0 : Str → Option Value) : Str → Option Value :=
  fun y => if y = Str.ofString "top" then some (.int top tt) else if y = Str.ofString "marks" then some (.ref D1) else if y = Str.ofString "rings" then some (.ref x1) else u0 y
theorem fr_law {h₀ h : Heap} {L la D1 x1 : Addr} {top : Int} {tt : Tok} {u0 : Str → Option Value}
    (F : Fr h₀ L h (fun y => if y = Str.ofString "due" then some (.ref la) else if y = Str.ofString "top" then some (.int top tt) else if y = Str.ofString "marks" then some (.ref D1) else (fun y => if y = Str.ofString "rings" then some (.ref x1) else u0 y) y)) :
    Fr h₀ L h (fun y => if y = Str.ofString "played" then u0 y else if y = Str.ofString "due" then some (.ref la) else lawM top tt D1 x1 u0 y) := by
  have e : (fun y => if y = Str.ofString "due" then some (Value.ref la) else if y = Str.ofString "top" then some (.int top tt) else if y = Str.ofString "marks" then some (.ref D1) else (fun y => if y = Str.ofString "rings" then some (.ref x1) else u0 y) y) = (fun y => if y = Str.ofString "played" then u0 y else if y = Str.ofString "due" then some (.ref la) else lawM top tt D1 x1 u0 y) := by
    funext y
    by_cases h : y = Str.ofString "played"
    · subst h
      rw [if_neg (by decide), if_neg (by decide), if_neg (by decide), if_pos rfl]
      exact if_neg (by decide)
    · rw [if_neg h]; rfl
  rw [← e]; exact F
theorem law_base_ne {l D1 m1 m2 x1 z1 y1 c1 c2 : Addr} {o1 o2 o3 o4 o5 o6 o7 : Obj} (h : @LT.lt Nat _ D1 l ∧ @LT.lt Nat _ m1 l ∧ @LT.lt Nat _ m2 l ∧ @LT.lt Nat _ x1 l ∧ @LT.lt Nat _ z1 l ∧ @LT.lt Nat _ y1 l ∧ @LT.lt Nat _ c2 l ∧ @LT.lt Nat _ c1 l ∧ @LT.lt Nat _ 234 l ∧ @LT.lt Nat _ 241 l)
    (hD : @Ne Nat 234 D1 ∧ @Ne Nat 241 D1) (hm1 : @LT.lt Nat _ 241 m1) (hm2 : @LT.lt Nat _ 241 m2) (hx1 : @LT.lt Nat _ 241 x1) (hz1 : @LT.lt Nat _ 241 z1) (hy1 : @LT.lt Nat _ 241 y1) (hc1 : @LT.lt Nat _ 241 c1) :
    (∀ p ∈ [(D1, o1), (m1, o2), (m2, o3), (x1, o4), (z1, o5), (y1, o6), (c1, o7)], p.1 ≠ l ∧ p.1 ≠ 234 ∧ p.1 ≠ 241) := by
  intro p hp
  show @Ne Nat _ _ ∧ @Ne Nat _ _ ∧ @Ne Nat _ _
  simp only [List.mem_cons, List.not_mem_nil, or_false] at hp
  rcases hp with h | h | h | h | h | h | h <;> (subst h; refine ⟨?_, ?_, ?_⟩ <;> (dsimp only at *; omega))
theorem LwJ.fin {f g : Int → Int} {h₀ h' : Heap} {L I c la D PL xa xb D1 x1 : Addr} {oI oc ol oA oB : Obj} {top : Int} {tt : Tok} {u0 u : Str → Option Value} {v : Value} {base : Led} {i k k' : Nat} {vs : List Value} {tl : Led} {psA psB : Array Value} {s₁ : Shared} {tk : Nat} {g' : Array GenState} {t1 t2 t3 : Tok} {y z : Int} {cv : Option Value}
    (F : Fr h₀ L h' (fun z => if z = Str.ofString "played" then some v else (fun y => if y = Str.ofString "played" then u y else if y = Str.ofString "due" then some (.ref la) else if y = Str.ofString "top" then some (.int top tt) else if y = Str.ofString "marks" then some (.ref D1) else if y = Str.ofString "rings" then some (.ref x1) else u0 y) z))
    (N : News h₀ L h' ((D, tupO [.int (1 + (i : Int)) t1, .int y t2, .int z t3]) :: (la, listOf (vs ++ [Value.ref D]).toArray k') :: (I, oI) :: (c, oc) :: (234, tabObj psA) :: (241, tabObj psB) :: (tl ++ base))) (hoc : oc.data = .cell cv)
    (hl9 : (@LT.lt Nat _ la D) ∧ (@LT.lt Nat _ PL D) ∧ (@LT.lt Nat _ xa D) ∧ (@LT.lt Nat _ xb D) ∧ (@LT.lt Nat _ I D) ∧ (@LT.lt Nat _ c D) ∧ (@LT.lt Nat _ 234 D) ∧ (@LT.lt Nat _ 241 D) ∧ AllLt D (tl ++ base)) (hne : ∀ p ∈ (la, ol) :: (234, oA) :: (241, oB) :: (tl ++ base), p.1 ≠ I ∧ p.1 ≠ c)
    (hy : y = f (1 + (i : Int))) (hz : z = g (1 + (i : Int))) (ta : TriplesOk psA.toList) (tb : TriplesOk psB.toList) (dd : DatAll tl vs ((dueF f g i).map rowD)) (hn : ∀ p ∈ tl ++ base, p.1 ≠ la ∧ p.1 ≠ 234 ∧ p.1 ≠ 241) (n1 : @Ne Nat la 234) (n2 : @Ne Nat la 241) (hl : vs.length = i) (hgb : AllBare g') :
    EndC h₀ L (LwJ f g (lawM top tt D1 x1 u0) base (i + 1)) I oI c s₁ { s₁ with heap := h', gens := g', toks := tk } := by
  obtain ⟨l1, l2, l3, l4, l5, l6, l7, l8, _⟩ := hl9
  refine LwJ.next (k := 0) (u := fun _ => some v) F N (.tail _ (.tail _ (.head _))) (.tail _ (.tail _ (.tail _ (.head _)))) hoc (.head _) (.tail _ (.head _)) (.tail _ (.tail _ (.tail _ (.tail _ (.head _))))) (.tail _ (.tail _ (.tail _ (.tail _ (.tail _ (.head _)))))) (fun p hp => .tail _ (.tail _ (.tail _ (.tail _ (.tail _ (.tail _ hp)))))) rfl hy hz
    ⟨Nat.ne_of_gt l5, Nat.ne_of_gt l6, Nat.ne_of_gt l1, Nat.ne_of_gt l7, Nat.ne_of_gt l8⟩ (hne (la, ol) (.head _)) (hne (234, oA) (.tail _ (.head _))) (hne (241, oB) (.tail _ (.tail _ (.head _)))) (fun p hp => hne p (.tail _ (.tail _ (.tail _ hp)))) ?_ ta tb dd hn n1 n2 hl hgb
  funext y
  by_cases hy : y = Str.ofString "played"
  · simp only [hy, if_true]
  · simp only [hy, if_false]; rfl
theorem law_nes {I1 C1 E1 I2 C2 E2 D3 D l1 l2 D1 m1 m2 x1 z1 y1 S : Addr} {o1 o2 o3 o4 o5 o6 o7 ol oA oB : Obj} (hlL : (@LT.lt Nat _ D3 l2) ∧ (@LT.lt Nat _ D l2) ∧ (@LT.lt Nat _ l1 l2) ∧ (@LT.lt Nat _ D1 l2) ∧ (@LT.lt Nat _ m1 l2) ∧ (@LT.lt Nat _ m2 l2) ∧ (@LT.lt Nat _ x1 l2) ∧ (@LT.lt Nat _ z1 l2) ∧ (@LT.lt Nat _ y1 l2) ∧ (@LT.lt Nat _ (S + 1 + 1) l2) ∧ (@LT.lt Nat _ (S + 1) l2) ∧ (@LT.lt Nat _ 234 l2) ∧ (@LT.lt Nat _ 241 l2))
    (hoD : (@Ne Nat m2 D1) ∧ (@Ne Nat m1 D1) ∧ (@Ne Nat x1 D1) ∧ (@Ne Nat z1 D1) ∧ (@Ne Nat y1 D1) ∧ (@Ne Nat (S + 1 + 1) D1) ∧ (@Ne Nat (S + 1) D1) ∧ (@Ne Nat 234 D1) ∧ (@Ne Nat 241 D1)) (hly : (@LT.lt Nat _ (S + 1 + 1) y1) ∧ (@LT.lt Nat _ (S + 1) y1) ∧ (@LT.lt Nat _ 234 y1) ∧ (@LT.lt Nat _ 241 y1)) (hzx : @LT.lt Nat _ z1 x1) (hyz : @LT.lt Nat _ y1 z1)
    (hm1 : (@LT.lt Nat _ I1 m1) ∧ (@LT.lt Nat _ C1 m1) ∧ (@LT.lt Nat _ E1 m1) ∧ (@LT.lt Nat _ x1 m1) ∧ (@LT.lt Nat _ z1 m1) ∧ (@LT.lt Nat _ y1 m1) ∧ (@LT.lt Nat _ (S + 1 + 1) m1) ∧ (@LT.lt Nat _ (S + 1) m1) ∧ (@LT.lt Nat _ 234 m1) ∧ (@LT.lt Nat _ 241 m1))
    (hm2 : (@LT.lt Nat _ I2 m2) ∧ (@LT.lt Nat _ C2 m2) ∧ (@LT.lt Nat _ E2 m2) ∧ (@LT.lt Nat _ m1 m2) ∧ (@LT.lt Nat _ x1 m2) ∧ (@LT.lt Nat _ z1 m2) ∧ (@LT.lt Nat _ y1 m2) ∧ (@LT.lt Nat _ (S + 1 + 1) m2) ∧ (@LT.lt Nat _ (S + 1) m2) ∧ (@LT.lt Nat _ 234 m2) ∧ (@LT.lt Nat _ 241 m2)) (h0 : (@LT.lt Nat _ 234 S) ∧ (@LT.lt Nat _ 241 S)) :
    (∀ p ∈ [(D1, o1), (m1, o2), (m2, o3), (x1, o4), (z1, o5), (y1, o6), (S + 1, o7)], p.1 ≠ l2 ∧ p.1 ≠ 234 ∧ p.1 ≠ 241) ∧ (∀ p ∈ (l2, ol) :: (234, oA) :: (241, oB) :: [(D1, o1), (m1, o2), (m2, o3), (x1, o4), (z1, o5), (y1, o6), (S + 1, o7)], p.1 ≠ S + 1 + 1) ∧ (@Ne Nat l2 234) ∧ (@Ne Nat l2 241) := by
  refine ⟨law_base_ne (c2 := S + 1 + 1) hlL.2.2.2 hoD.2.2.2.2.2.2.2 hm1.2.2.2.2.2.2.2.2.2 hm2.2.2.2.2.2.2.2.2.2.2 (Nat.lt_trans hly.2.2.2 (Nat.lt_trans hyz hzx)) (Nat.lt_trans hly.2.2.2 hyz) hly.2.2.2 (Nat.lt_succ_of_lt h0.2), ?_, Nat.ne_of_gt hlL.2.2.2.2.2.2.2.2.2.2.2.1, Nat.ne_of_gt hlL.2.2.2.2.2.2.2.2.2.2.2.2⟩
  have gt : ∀ {a b : Nat}, b < a → a ≠ b := fun h => Nat.ne_of_gt h
  have h2 : @LT.lt Nat _ 234 (S + 1 + 1) := Nat.lt_succ_of_lt (Nat.lt_succ_of_lt h0.1)
  have h3 : @LT.lt Nat _ 241 (S + 1 + 1) := Nat.lt_succ_of_lt (Nat.lt_succ_of_lt h0.2)
  have hz : @LT.lt Nat _ (S + 1 + 1) z1 := Nat.lt_trans hly.1 hyz
  intro p hp
  simp only [List.mem_cons, List.not_mem_nil, or_false] at hp
  rcases hp with h | h | h | h | h | h | h | h | h | h <;> subst h
  · exact gt hlL.2.2.2.2.2.2.2.2.2.1
  · exact Nat.ne_of_lt h2
  · exact Nat.ne_of_lt h3
  · exact Ne.symm hoD.2.2.2.2.2.1
  · exact gt hm1.2.2.2.2.2.2.1
  · exact gt hm2.2.2.2.2.2.2.2.1
  · exact gt (Nat.lt_trans hz hzx)
  · exact gt hz
  · exact gt hly.1
  · exact Nat.ne_of_lt (Nat.lt_succ_self _)
theorem LwJ.start {f g : Int → Int} {u0 m₀ : Str → Option Value} {la : Addr} {base : Led} {G : Array GenState} (h1 : ∀ p ∈ base, p.1 ≠ la ∧ p.1 ≠ 234 ∧ p.1 ≠ 241) (n1 : @Ne Nat la 234) (n2 : @Ne Nat la 241) (hG : AllBare G) :
    LwJ f g m₀ base 0 (fun y => if y = Str.ofString "played" then u0 y else if y = Str.ofString "due" then some (.ref la) else m₀ y) ((la, listOf #[] 0) :: (234, tabObj #[]) :: (241, tabObj #[]) :: base) G :=
  ⟨hG, u0, la, [], 0, [], #[], #[], rfl, rfl, True.intro, True.intro, by simpa [dueF, wit, rangeKs] using DatAll.nil, h1, n1, n2, rfl⟩
theorem dist_bd {a b c a' b' c' : Int} (ha : Three a) (hb : Three b) (hc : Three c) (ha' : Three a') (hb' : Three b') (hc' : Three c') {top : Int} (h : top ∈ [1] ++ dist3 [marksT a b c, marksT a' b' c'] 2) : top ≤ 9 := by
  have hh : ∀ r ∈ [marksT a b c, marksT a' b' c'], ∀ o ∈ r, ∀ p ∈ r, ((o - p).natAbs : Int) ≤ 9 := by
    unfold Three at *
    intro r hr o ho p hp
    simp only [List.mem_cons, List.not_mem_nil, or_false] at hr
    rcases hr with rfl | rfl <;>
    · unfold marksT at ho hp
      simp only [List.mem_cons, List.not_mem_nil, or_false] at ho hp
      rcases ho with rfl | rfl | rfl | rfl <;> rcases hp with rfl | rfl | rfl | rfl <;> omega
  rcases List.mem_append.mp h with h | h
  · simp at h; omega
  · simp only [dist3, dist2, dist1, List.mem_flatMap, List.mem_map] at h
    obtain ⟨r, hr, o, ho, p, hp, rfl⟩ := h
    exact hh r (List.mem_of_mem_take hr) o (List.mem_of_mem_take ho) p hp
section
variable {prog : Program} {w : World} {A : Around} {E : Value → Shared → Prop} {s : Shared} {env : Env} {h₀ : Heap} {x : Str} {body orelse : List Stmt} {Q : Flow → Shared → Prop}
theorem For_rngC {px pos : Pos} {iter : PySem.Expr} {m : Str → Option Value} {c : Addr} (F0 : Fr h₀ env.locals s.heap m) (J : Nat → (Str → Option Value) → List (Addr × Obj) → Array GenState → Prop)
    (hk : env.scope.kind = .function) (hx : env.kindOf x = some .cell) (hc : env.cells.lookup x = some c) (hh : A.handled = none)
    (h : wpAny (model prog w) A (eval iter env) (RngCAt prog w A env h₀ c body orelse Q E J) E s)
    (hs : ∀ x, foldedSetIterable iter env x = pure x := by intro _; rfl)
    (hE : PassesOwn (model prog w) A env E := by passes_own) :
    wpAny (model prog w) A (exec (.For (.Name x px) iter body orelse pos) env) Q E s :=
  For_rangeC F0 J hk hx hc hh h hs hE
end
end
section
open PySem PySem.W PyProof.Rows PySem.Flt PySem.Spec
set_option maxHeartbeats 1000000
noncomputable abbrev lawF (a b c : Int) : Int → Int := fun z => z * (6 + Iz z a b c)
noncomputable def rowsC (c : Int → Int → Bool) (f g : Int → Int) (k : Nat) : List (Int × Int × Int) := (dueF f g k).filter fun r => c r.2.1 r.2.2
theorem dueF_map {f g : Int → Int} {k : Nat} : dueF f g k = (rangeKs 1 k).map fun z => (z, f z, g z) := by
  unfold dueF wit
  rw [List.filter_eq_self.mpr (fun _ _ => rfl)]
theorem mem_range1 {k : Nat} {z : Int} : z ∈ rangeKs 1 k ↔ 1 ≤ z ∧ z ≤ k := by
  simp only [rangeKs, List.mem_map, List.mem_range]
  constructor
  · rintro ⟨i, h, rfl⟩; omega
  · intro h; exact ⟨(z - 1).toNat, by omega, by omega⟩
theorem wit_rows {c : Int → Int → Bool} {f g f' g' : Int → Int} {k : Nat} (hf : ∀ z : Int, 1 ≤ z → z ≤ k → f' z = f z) (hg : ∀ z : Int, 1 ≤ z → z ≤ k → g' z = g z) : wit c f' g' k = rowsC c f g k := by
  unfold wit rowsC
  rw [dueF_map, List.filter_map]
  have e : (rangeKs 1 k).filter (fun ts => c (f' ts) (g' ts)) = (rangeKs 1 k).filter ((fun r : Int × Int × Int => c r.2.1 r.2.2) ∘ fun z => (z, f z, g z)) := by
    refine List.filter_congr fun z hz => ?_
    obtain ⟨h1, h2⟩ := mem_range1.mp hz
    simp only [Function.comp_apply, hf z h1 h2, hg z h1 h2]
  rw [e]
  refine List.map_congr_left fun z hz => ?_
  obtain ⟨h1, h2⟩ := mem_range1.mp (List.mem_filter.mp hz).1
  rw [hf z h1 h2, hg z h1 h2]
theorem rows_nil {c : Int → Int → Bool} {f g : Int → Int} {k : Nat} : rowsC c f g k = [] ↔ ∀ z : Int, 1 ≤ z → z ≤ k → c (f z) (g z) = false := by
  unfold rowsC
  rw [List.filter_eq_nil_iff, dueF_map]
  constructor
  · intro h z h1 h2
    have := h (z, f z, g z) (List.mem_map.mpr ⟨z, mem_range1.mpr ⟨h1, h2⟩, rfl⟩)
    simpa using this
  · rintro h r hr
    obtain ⟨z, hz, rfl⟩ := List.mem_map.mp hr
    obtain ⟨h1, h2⟩ := mem_range1.mp hz
    simp [h z h1 h2]
section
variable {a b c a' b' c' b1 n1 nt1 b2 n2 nt2 : Int} {ns1 ns2 : List Int}
noncomputable def kT (a b c a' b' c' : Int) : Nat := max (topF a b c) (topF a' b' c')
theorem k_eq (h1 : LeadFacts a b c ns1 b1 n1 nt1) (h2 : LeadFacts a' b' c' ns2 b2 n2 nt2) : lrM (lrF ns1 b1) (lrF ns2 b2) + 1 = (kT a b c a' b' c' : Int) := by
  have e1 := h1.lr
  have e2 := h2.lr
  unfold lrM kT
  split <;> omega
theorem k_le (h1 : LeadFacts a b c ns1 b1 n1 nt1) (h2 : LeadFacts a' b' c' ns2 b2 n2 nt2) : kT a b c a' b' c' ≤ 9 := by
  have e1 := h1.top
  have e2 := h2.top
  unfold kT; omega
theorem k_pos : 1 ≤ kT a b c a' b' c' := by
  have : 1 ≤ topF a b c := Nat.le_max_left _ _
  unfold kT; omega
theorem wit_law (c0 : Int → Int → Bool) (h1 : LeadFacts a b c ns1 b1 n1 nt1) (h2 : LeadFacts a' b' c' ns2 b2 n2 nt2) :
    wit c0 (levF ns1 nt1 b1) (levF ns2 nt2 b2) (lrM (lrF ns1 b1) (lrF ns2 b2) + 1).toNat = rowsC c0 (lawF a b c) (lawF a' b' c') (kT a b c a' b' c') := by
  rw [k_eq h1 h2, Int.toNat_natCast]
  have hk := k_le h1 h2
  exact wit_rows (fun z z1 z2 => h1.lev z z1 (by omega)) (fun z z1 z2 => h2.lev z z1 (by omega))
theorem kT_comm : kT a b c a' b' c' = kT a' b' c' a b c := Nat.max_comm _ _
theorem less_law (h1 : LeadFacts a b c ns1 b1 n1 nt1) (h2 : LeadFacts a' b' c' ns2 b2 n2 nt2) :
    lessF n1 n2 nt1 nt2 (decide ((ns1.length : Int) ≤ 1)) (decide ((ns2.length : Int) ≤ 1)) (levF ns1 nt1 b1) (levF ns2 nt2 b2) (lrM (lrF ns1 b1) (lrF ns2 b2) + 1) = decide (rowsC (fun x y => decide (x ≥ y)) (lawF a b c) (lawF a' b' c') (kT a b c a' b' c') = []) := by
  revert a b c a' b' c' b1 n1 nt1 b2 n2 nt2 ns1 ns2
  refine (?zh : ∀ a b c a' b' c' b1 n1 nt1 b2 n2 nt2 ns1 ns2, (?zP : _ → _ → _ → _ → _ → _ → _ → _ → _ → _ → _ → _ → _ → _ → Prop) a b c a' b' c' b1 n1 nt1 b2 n2 nt2 ns1 ns2)
  refine fun a b c a' b' c' b1 n1 nt1 b2 n2 nt2 ns1 ns2 => allE (P := un2 fun a => un2 fun b => un2 fun c => un2 fun a' => un2 fun b' => un2 fun c' => un2 fun b1 => un2 fun n1 => un2 fun nt1 => un2 fun b2 => un2 fun n2 => un2 fun nt2 => un2 fun ns1 ns2 => ?zP a b c a' b' c' b1 n1 nt1 b2 n2 nt2 ns1 ns2) ?zn ?zk (a, b, c, a', b', c', b1, n1, nt1, b2, n2, nt2, ns1, ns2)
  case zn => walk_at "ne"
  clear a b c a' b' c' b1 n1 nt1 b2 n2 nt2 ns1 ns2
  refine (?zj : AtE _ ?zE)
  refine (?zF : ∀ a b c a' b' c' b1 n1 nt1 b2 n2 nt2 ns1 ns2, ?zP a b c a' b' c' b1 n1 nt1 b2 n2 nt2 ns1 ns2) ?zE.1 ?zE.2.1 ?zE.2.2.1 ?zE.2.2.2.1 ?zE.2.2.2.2.1 ?zE.2.2.2.2.2.1 ?zE.2.2.2.2.2.2.1 ?zE.2.2.2.2.2.2.2.1 ?zE.2.2.2.2.2.2.2.2.1 ?zE.2.2.2.2.2.2.2.2.2.1 ?zE.2.2.2.2.2.2.2.2.2.2.1 ?zE.2.2.2.2.2.2.2.2.2.2.2.1 ?zE.2.2.2.2.2.2.2.2.2.2.2.2.1 ?zE.2.2.2.2.2.2.2.2.2.2.2.2.2
  intros a b c a' b' c' b1 n1 nt1 b2 n2 nt2 ns1 ns2
  intro h1 h2
  have hk := k_le h1 h2
  have hk1 := k_pos (a := a) (b := b) (c := c) (a' := a') (b' := b') (c' := c')
  rw [k_eq h1 h2]
  have e1 := h1.one
  have e2 := h2.one
  have lr1 := h1.lr
  have lr2 := h2.lr
  unfold lessF
  by_cases hn : n2 ≤ n1
  · rw [if_pos hn]
    symm
    rw [decide_eq_false_iff_not, rows_nil]
    intro h
    have := h 1 (by omega) (by omega)
    simp only [lawF, Int.one_mul, decide_eq_false_iff_not, ge_iff_le] at this
    omega
  · rw [if_neg hn]
    by_cases hs : ns1.length ≤ 1 ∧ ns2.length ≤ 1
    · have s1 : decide ((ns1.length : Int) ≤ 1) = true := decide_eq_true (by omega)
      have s2 : decide ((ns2.length : Int) ≤ 1) = true := decide_eq_true (by omega)
      rw [s1, s2, if_pos (by decide)]
      have t1 := h1.simple hs.1
      have t2 := h2.simple hs.2
      rw [decide_eq_true (show nt1 ≤ nt2 by omega)]
      symm
      rw [decide_eq_true_eq, rows_nil]
      intro z z1 z2
      have z0 := h1.zero
      have z0' := h2.zero
      have hz : z = 1 := by
        have q1 : lrF ns1 b1 ≤ 0 := by unfold lrF; split <;> omega
        have q2 : lrF ns2 b2 ≤ 0 := by unfold lrF; split <;> omega
        unfold kT at z2
        omega
      subst hz
      simp only [lawF, Int.one_mul, decide_eq_false_iff_not, ge_iff_le]
      omega
    · have s3 : (decide ((ns1.length : Int) ≤ 1) && decide ((ns2.length : Int) ≤ 1)) = false := by
        rw [Bool.and_eq_false_iff, decide_eq_false_iff_not, decide_eq_false_iff_not]
        omega
      rw [s3, if_neg (by decide), Bool.eq_iff_iff, List.all_eq_true, decide_eq_true_eq, rows_nil]
      constructor
      · intro h z z1 z2
        by_cases hz : z = 1
        · subst hz
          simp only [lawF, Int.one_mul, decide_eq_false_iff_not, ge_iff_le]
          omega
        · have := h z (by
            simp only [rangeKs, List.mem_map, List.mem_range]
            exact ⟨(z - 2).toNat, by omega, by omega⟩)
          rw [h1.lev z z1 (by omega), h2.lev z z1 (by omega), decide_eq_true_eq] at this
          simp only [decide_eq_false_iff_not, ge_iff_le, lawF]
          omega
      · intro h z hz
        simp only [rangeKs, List.mem_map, List.mem_range] at hz
        obtain ⟨i, hi, rfl⟩ := hz
        have := h (2 + (i : Int)) (by omega) (by omega)
        simp only [decide_eq_false_iff_not, ge_iff_le, lawF] at this
        rw [h1.lev _ (by omega) (by omega), h2.lev _ (by omega) (by omega), decide_eq_true_eq]
        omega
theorem drop_sum : ∀ l : List Int, (l.dropWhile (· == 0)).sum = l.sum
  | [] => rfl
  | x :: l => by
    rw [List.dropWhile_cons]
    split
    · rename_i h
      have : x = 0 := by simpa using h
      rw [drop_sum l, this]; simp
    · rfl
theorem norm_sum (T : Nat → Int) : (normF T).sum = T 9 := by
  unfold normF
  simp only
  rw [List.sum_reverse, drop_sum, List.sum_reverse]
  simp only [List.sum_cons, List.sum_nil]
  omega
theorem norm_congr {T U : Nat → Int} (h : ∀ k : Nat, 1 ≤ k → k ≤ 9 → T k = U k) : normF T = normF U := by
  unfold normF
  rw [h 1 (by omega) (by omega), h 2 (by omega) (by omega), h 3 (by omega) (by omega), h 4 (by omega) (by omega), h 5 (by omega) (by omega), h 6 (by omega) (by omega), h 7 (by omega) (by omega), h 8 (by omega) (by omega), h 9 (by omega) (by omega)]
theorem equal_law (h1 : LeadFacts a b c ns1 b1 n1 nt1) (h2 : LeadFacts a' b' c' ns2 b2 n2 nt2) :
    decide (ns1 = ns2 ∧ b1 = b2) = decide (rowsC (fun x y => decide (x ≠ y)) (lawF a b c) (lawF a' b' c') (kT a b c a' b' c') = []) := by
  have hk := k_le h1 h2
  have hk1 := k_pos (a := a) (b := b) (c := c) (a' := a') (b' := b') (c' := c')
  rw [decide_eq_decide, rows_nil]
  have can : ∀ {z x y : Int}, 1 ≤ z → z * (6 + x) = z * (6 + y) → x = y := fun hz h => by
    have := Int.eq_of_mul_eq_mul_left (by omega) h
    omega
  constructor
  · rintro ⟨hn, hb⟩ z z1 z2
    have s1 : 6 + Iz 9 a b c = 6 + Iz 9 a' b' c' := by
      have q1 := norm_sum fun k => 6 + Iz (k : Int) a b c
      have q2 := norm_sum fun k => 6 + Iz (k : Int) a' b' c'
      rw [← h1.norm] at q1
      rw [← h2.norm] at q2
      rw [hn] at q1
      have q3 := q1.symm.trans q2
      exact q3
    have l1 := h1.lev 9 (by omega) (by omega)
    have l2 := h2.lev 9 (by omega) (by omega)
    have hnt : nt1 = nt2 := by
      unfold levF at l1 l2
      rw [hn, hb] at l1
      omega
    have m1 := h1.lev z z1 (by omega)
    have m2 := h2.lev z z1 (by omega)
    rw [hn, hb, hnt, m2] at m1
    simp only [lawF, decide_eq_false_iff_not, ne_eq, Decidable.not_not]
    exact m1.symm
  · intro h
    refine ⟨?_, by rw [h1.zero, h2.zero]⟩
    have key : ∀ z : Int, 1 ≤ z → z ≤ kT a b c a' b' c' → Iz z a b c = Iz z a' b' c' := fun z z1 z2 => by
      have := h z z1 z2
      simp only [lawF, decide_eq_false_iff_not, ne_eq, Decidable.not_not] at this
      exact can z1 this
    rw [h1.norm, h2.norm]
    refine norm_congr fun k k1 k9 => ?_
    by_cases hkk : k ≤ kT a b c a' b' c'
    · rw [key k (by omega) (by omega)]
    · have t1 : (topF a b c : Int) ≤ (kT a b c a' b' c' : Int) := by unfold kT; omega
      have t2 : (topF a' b' c' : Int) ≤ (kT a b c a' b' c' : Int) := by unfold kT; omega
      have f1 := h1.far (k : Int) (by omega) (by omega)
      have f2 := h2.far (k : Int) (by omega) (by omega)
      have f3 := h1.far (kT a b c a' b' c' : Int) t1 (by omega)
      have f4 := h2.far (kT a b c a' b' c' : Int) t2 (by omega)
      have f5 := key (kT a b c a' b' c' : Int) (by omega) (by omega)
      rw [f1, ← f3, f5, f4, ← f2]
theorem nb {x y : Int} {T : Nat} (h : x.natAbs ≤ T) (e : y = x ∨ y = -x) : y.natAbs ≤ T := by
  rcases e with rfl | rfl
  · exact h
  · rw [Int.natAbs_neg]; exact h
theorem dist_le {o p : Int} (ho : o ∈ marksT a b c) (hp : p ∈ marksT a b c) : (o - p).natAbs ≤ topF a b c := by
  unfold marksT at ho hp
  simp only [List.mem_cons, List.not_mem_nil, or_false] at ho hp
  obtain ⟨T, hT⟩ : ∃ T, T = topF a b c := ⟨_, rfl⟩
  have e0 : ∀ {x : Nat}, x ≤ max (max (max a.natAbs b.natAbs) c.natAbs) (max (max (a + b).natAbs (b + c).natAbs) (a + b + c).natAbs) → x ≤ T := fun h => by rw [hT]; exact Nat.le_trans h (Nat.le_max_right _ _)
  have t1 : a.natAbs ≤ T := e0 (Nat.le_trans (Nat.le_trans (Nat.le_max_left _ _) (Nat.le_max_left _ _)) (Nat.le_max_left _ _))
  have t2 : b.natAbs ≤ T := e0 (Nat.le_trans (Nat.le_trans (Nat.le_max_right _ _) (Nat.le_max_left _ _)) (Nat.le_max_left _ _))
  have t3 : c.natAbs ≤ T := e0 (Nat.le_trans (Nat.le_max_right _ _) (Nat.le_max_left _ _))
  have t4 : (a + b).natAbs ≤ T := e0 (Nat.le_trans (Nat.le_trans (Nat.le_max_left _ _) (Nat.le_max_left _ _)) (Nat.le_max_right _ _))
  have t5 : (b + c).natAbs ≤ T := e0 (Nat.le_trans (Nat.le_trans (Nat.le_max_right _ _) (Nat.le_max_left _ _)) (Nat.le_max_right _ _))
  have t6 : (a + b + c).natAbs ≤ T := e0 (Nat.le_trans (Nat.le_max_right _ _) (Nat.le_max_right _ _))
  rw [← hT]
  clear hT
  rcases ho with rfl | rfl | rfl | rfl <;> rcases hp with rfl | rfl | rfl | rfl <;> first | (simp; done) | exact nb t1 (.inl (by lia)) | exact nb t1 (.inr (by lia)) | exact nb t2 (.inl (by lia)) | exact nb t2 (.inr (by lia)) | exact nb t3 (.inl (by lia)) | exact nb t3 (.inr (by lia)) | exact nb t4 (.inl (by lia)) | exact nb t4 (.inr (by lia)) | exact nb t5 (.inl (by lia)) | exact nb t5 (.inr (by lia)) | exact nb t6 (.inl (by lia)) | exact nb t6 (.inr (by lia)) | omega
theorem le_dist {top : Int} (h0 : 1 ≤ top) (h : ∀ o ∈ marksT a b c, ∀ p ∈ marksT a b c, ((o - p).natAbs : Int) ≤ top) : (topF a b c : Int) ≤ top := by
  have q0 : (0 : Int) ∈ marksT a b c := by simp [marksT]
  have q1 : a ∈ marksT a b c := by simp [marksT]
  have q2 : a + b ∈ marksT a b c := by simp [marksT]
  have q3 : a + b + c ∈ marksT a b c := by simp [marksT]
  have r1 := h _ q1 _ q0
  have r2 := h _ q2 _ q1
  have r3 := h _ q3 _ q2
  have r4 := h _ q2 _ q0
  have r5 := h _ q3 _ q1
  have r6 := h _ q3 _ q0
  have k : topF a b c ≤ top.toNat := by
    unfold topF
    refine Nat.max_le.mpr ⟨by omega, Nat.max_le.mpr ⟨Nat.max_le.mpr ⟨Nat.max_le.mpr ⟨?_, ?_⟩, ?_⟩, Nat.max_le.mpr ⟨Nat.max_le.mpr ⟨?_, ?_⟩, ?_⟩⟩⟩
    · rw [Int.sub_zero] at r1; omega
    · rw [show a + b - a = b by omega] at r2; omega
    · rw [show a + b + c - (a + b) = c by omega] at r3; omega
    · rw [Int.sub_zero] at r4; omega
    · rw [show a + b + c - a = b + c by omega] at r5; omega
    · rw [Int.sub_zero] at r6; omega
  omega
theorem mem_dist3 {x : Int} {rs : List (List Int)} : x ∈ dist3 rs rs.length ↔ ∃ r ∈ rs, ∃ o ∈ r, ∃ p ∈ r, ((o - p).natAbs : Int) = x := by
  simp only [dist3, dist2, dist1, List.take_length, List.mem_flatMap, List.mem_map]
theorem top_eq {top : Int} (h1 : top ∈ [1] ++ dist3 [marksT a b c, marksT a' b' c'] 2) (h2 : ∀ x ∈ [1] ++ dist3 [marksT a b c, marksT a' b' c'] 2, x ≤ top) : top = (kT a b c a' b' c' : Int) := by
  have g1 : 1 ≤ top := h2 1 (by simp)
  have m : ∀ x, x ∈ dist3 [marksT a b c, marksT a' b' c'] 2 ↔ ∃ r ∈ [marksT a b c, marksT a' b' c'], ∃ o ∈ r, ∃ p ∈ r, ((o - p).natAbs : Int) = x := fun x => mem_dist3
  have l1 : (topF a b c : Int) ≤ top := le_dist g1 fun o ho p hp => h2 _ (List.mem_append_right _ ((m _).mpr ⟨_, by simp, o, ho, p, hp, rfl⟩))
  have l2 : (topF a' b' c' : Int) ≤ top := le_dist g1 fun o ho p hp => h2 _ (List.mem_append_right _ ((m _).mpr ⟨marksT a' b' c', by simp, o, ho, p, hp, rfl⟩))
  have k1 := k_pos (a := a) (b := b) (c := c) (a' := a') (b' := b') (c' := c')
  have l3 : top ≤ (kT a b c a' b' c' : Int) := by
    rcases List.mem_append.mp h1 with h | h
    · simp at h; omega
    · obtain ⟨r, hr, o, ho, p, hp, rfl⟩ := (m _).mp h
      simp only [List.mem_cons, List.not_mem_nil, or_false] at hr
      unfold kT
      rcases hr with rfl | rfl
      · have := dist_le ho hp; omega
      · have := dist_le ho hp; omega
  unfold kT at *
  omega
end
end
section
open PySem PySem.W PyProof.Rows PySem.Flt PySem.Spec PyProof.Rows.LCg
set_option maxHeartbeats 1000000
theorem rows_at {tl : Led} {vs : List Value} {rows : List (Int × Int × Int)} {i : Nat} {v : Value} (dd : DatAll tl vs (rows.map rowD)) (hv : vs[i]? = some v) :
    ∃ T r t1 t2 t3 n0, v = .ref T ∧ rows[i]? = some r ∧ (T, ({ cls := .type "tuple", data := .seq #[.int r.1 t1, .int r.2.1 t2, .int r.2.2 t3] n0 } : Obj)) ∈ tl := by
  revert tl vs rows i v
  refine (?zh : ∀ tl vs rows i v, (?zP : _ → _ → _ → _ → _ → Prop) tl vs rows i v)
  refine fun tl vs rows i v => allE (P := un2 fun tl => un2 fun vs => un2 fun rows => un2 fun i v => ?zP tl vs rows i v) ?zn ?zk (tl, vs, rows, i, v)
  case zn => walk_at "ne"
  clear tl vs rows i v
  refine (?zj : AtE _ ?zE)
  refine (?zF : ∀ tl vs rows i v, ?zP tl vs rows i v) ?zE.1 ?zE.2.1 ?zE.2.2.1 ?zE.2.2.2.1 ?zE.2.2.2.2
  intros tl vs rows i v
  intro dd hv
  have hl := dd.length
  have hi : i < vs.length := by
    rcases Nat.lt_or_ge i vs.length with h | h
    · exact h
    · rw [List.getElem?_eq_none h] at hv; cases hv
  obtain ⟨v', hv', hd⟩ := dd.get (k := i) (by omega)
  rw [hv] at hv'
  cases hv'
  have hir : i < rows.length := by rw [List.length_map] at hl; omega
  rw [List.getElem_map] at hd
  unfold rowD at hd
  cases hd with
  | tuple hm ha =>
    cases ha with
    | cons h1 ha =>
      cases ha with
      | cons h2 ha =>
        cases ha with
        | cons h3 ha =>
          cases ha with
          | nil =>
            cases h1; cases h2; cases h3
            exact ⟨_, rows[i], _, _, _, _, rfl, List.getElem?_eq_getElem hir, hm⟩
theorem dueF_get {f g : Int → Int} {n i : Nat} {r : Int × Int × Int} (h : (dueF f g n)[i]? = some r) : r = (1 + (i : Int), f (1 + (i : Int)), g (1 + (i : Int))) := by
  rw [dueF_map] at h
  simp only [rangeKs, List.getElem?_map, Option.map_eq_some_iff] at h
  obtain ⟨z, ⟨j, hj, rfl⟩, rfl⟩ := h
  rw [List.getElem?_eq_some_iff] at hj
  obtain ⟨h1, rfl⟩ := hj
  simp
theorem dueF_len {f g : Int → Int} {n : Nat} : (dueF f g n).length = n := by rw [dueF_map]; simp [rangeKs]
/-- the list back -/
noncomputable def J5 (f g : Int → Int) (W : Led) : Inv := fun i ys nx _ => ∃ tlb, nx = tlb ++ W ∧ DatAll tlb ys ((dueF g f i).map rowD) ∧ ys.length = i
theorem back_elt {f g : Int → Int} {h₀ h' : Heap} {L I C D T2 : Addr} {oI oC : Obj} {m mC : Str → Option Value} {s : Shared} {ys : List Value} {i tk' n0 : Nat} {t1 t2 t3 : Tok} {g' : Array GenState} {tlb W : Led} (hgk : AllBare s.gens → AllBare g') (F : Fr h₀ L h' m) (N : News h₀ L h' ((T2, ({ cls := .type "tuple", data := .seq #[.int (1 + (i : Int)) t1, .int (g (1 + (i : Int))) t2, .int (f (1 + (i : Int))) t3] n0 } : Obj)) :: (I, oI) :: (C, oC) :: (D, lst ys) :: (tlb ++ W)))
    (hlt : (@LT.lt Nat _ I T2) ∧ (@LT.lt Nat _ C T2) ∧ (@LT.lt Nat _ D T2) ∧ AllLt T2 (tlb ++ W)) (off : ∀ p ∈ tlb ++ W, p.1 ≠ I ∧ p.1 ≠ C ∧ p.1 ≠ D) (dd : DatAll tlb ys ((dueF g f i).map rowD)) (hl : ys.length = i) :
    EltCh h₀ L m s I oI C oC D ys (J5 f g W (i + 1)) mC (.ref T2) { s with heap := h', gens := g', toks := tk' } := by
  refine ⟨h', g', tk', ((T2, ({ cls := .type "tuple", data := .seq #[.int (1 + (i : Int)) t1, .int (g (1 + (i : Int))) t2, .int (f (1 + (i : Int))) t3] n0 } : Obj)) :: tlb) ++ W, rfl, hgk, F, fun p hp => N p ?_, ?_, _, rfl, ?_, by simp [hl]⟩
  · rcases List.mem_cons.mp hp with rfl | hp
    · exact .tail _ (.head _)
    rcases List.mem_cons.mp hp with rfl | hp
    · exact .tail _ (.tail _ (.head _))
    rcases List.mem_cons.mp hp with rfl | hp
    · exact .tail _ (.tail _ (.tail _ (.head _)))
    rcases List.mem_cons.mp hp with rfl | hp
    · exact .head _
    · exact .tail _ (.tail _ (.tail _ (.tail _ hp)))
  · intro p hp
    rcases List.mem_cons.mp hp with rfl | hp
    · exact ⟨Nat.ne_of_gt hlt.1, Nat.ne_of_gt hlt.2.1, Nat.ne_of_gt hlt.2.2.1⟩
    · exact off p hp
  · rw [dueF_succ, List.map_append]
    refine DatAll.append (dd.mono fun p hp => List.Mem.tail _ hp) (.one ?_)
    exact DatIn.tuple (vs := [.int _ _, .int _ _, .int _ _]) (List.Mem.head _) (.cons (.int _ _) (.cons (.int _ _) (.cons (.int _ _) .nil)))
/-- the ledger behind the lists due and back -/
theorem law_mid {h₀ h : Heap} {L D la c : Addr} {oD ol oc oA oB : Obj} {tlb tl : Led} {p1 p2 p3 p4 p5 p6 p7 : Addr × Obj} (N : News h₀ L h ((D, oD) :: (tlb ++ ((c, oc) :: (la, ol) :: (234, oA) :: (241, oB) :: (tl ++ [p1, p2, p3, p4, p5, p6, p7]))))) :
    ∃ TL, (∀ p ∈ tlb, p ∈ TL) ∧ (∀ p ∈ tl, p ∈ TL) ∧ News h₀ L h ((D, oD) :: (la, ol) :: p1 :: p2 :: p3 :: (234, oA) :: (241, oB) :: TL) := by
  refine ⟨tlb ++ tl, fun p hp => List.mem_append_left _ hp, fun p hp => List.mem_append_right _ hp, ?_⟩
  have up : ∀ p, p ∈ ((c, oc) :: (la, ol) :: (234, oA) :: (241, oB) :: (tl ++ [p1, p2, p3, p4, p5, p6, p7])) → p ∈ (D, oD) :: (tlb ++ ((c, oc) :: (la, ol) :: (234, oA) :: (241, oB) :: (tl ++ [p1, p2, p3, p4, p5, p6, p7]))) := fun p hp => .tail _ (List.mem_append_right _ hp)
  refine nsub N (subs_cons (.head _) (subs_cons (up _ (.tail _ (.head _))) (subs_cons (up _ ?_) (subs_cons (up _ ?_) (subs_cons (up _ ?_) (subs_cons (up _ (.tail _ (.tail _ (.head _)))) (subs_cons (up _ (.tail _ (.tail _ (.tail _ (.head _))))) fun p hp => ?_)))))))
  · exact .tail _ (.tail _ (.tail _ (.tail _ (List.mem_append_right _ (.head _)))))
  · exact .tail _ (.tail _ (.tail _ (.tail _ (List.mem_append_right _ (.tail _ (.head _))))))
  · exact .tail _ (.tail _ (.tail _ (.tail _ (List.mem_append_right _ (.tail _ (.tail _ (.head _)))))))
  · rcases List.mem_append.mp hp with hp | hp
    · exact .tail _ (List.mem_append_left _ hp)
    · exact up _ (.tail _ (.tail _ (.tail _ (.tail _ (List.mem_append_left _ hp)))))
theorem lead_end {h₀ h' : Heap} {L I C D : Addr} {m : Str → Option Value} {s₁ : Shared} {oI oC oD : Obj} {S : Led → Prop} {rest : Value → Led → Prop} {y : Value} {tk : Nat} {q1 q2 q3 q4 : Addr × Obj} {nx : Led} (F : Fr h₀ L h' m) (N : News h₀ L h' (q1 :: q2 :: q3 :: q4 :: (I, oI) :: (C, oC) :: (D, oD) :: nx))
    (l1 : ∀ q ∈ (I, oI) :: (C, oC) :: (D, oD) :: nx, q.1 < q4.1) (l2 : @LT.lt Nat _ q4.1 q3.1) (l3 : @LT.lt Nat _ q3.1 q2.1) (l4 : @LT.lt Nat _ q2.1 q1.1) (off : Off3 I C D nx) (hS : S (q1 :: q2 :: q3 :: q4 :: nx)) (r : rest y (q1 :: q2 :: q3 :: q4 :: nx)) :
    CompEnd h₀ L m s₁ I oI C oC D oD S rest y { s₁ with heap := h', toks := tk } := by
  have a1 : @LT.lt Nat _ I q4.1 := l1 _ (.head _)
  have a2 : @LT.lt Nat _ C q4.1 := l1 _ (.tail _ (.head _))
  have a3 : @LT.lt Nat _ D q4.1 := l1 _ (.tail _ (.tail _ (.head _)))
  have t3 := Nat.lt_trans l2 l3
  have t4 := Nat.lt_trans t3 l4
  have e : ∀ {x : Addr}, @LT.lt Nat _ q4.1 x → x ≠ I ∧ x ≠ C ∧ x ≠ D := fun h => ⟨Nat.ne_of_gt (Nat.lt_trans a1 h), Nat.ne_of_gt (Nat.lt_trans a2 h), Nat.ne_of_gt (Nat.lt_trans a3 h)⟩
  refine CompEnd.intro F N (q1 :: q2 :: q3 :: q4 :: nx) (fun p hp => ?_) (Off3.of fun p hp => ?_) hS r
  · rcases List.mem_cons.mp hp with rfl | hp
    · exact .tail _ (.tail _ (.tail _ (.tail _ (.head _))))
    rcases List.mem_cons.mp hp with rfl | hp
    · exact .tail _ (.tail _ (.tail _ (.tail _ (.tail _ (.head _)))))
    rcases List.mem_cons.mp hp with rfl | hp
    · exact .tail _ (.tail _ (.tail _ (.tail _ (.tail _ (.tail _ (.head _))))))
    rcases List.mem_cons.mp hp with rfl | hp
    · exact .head _
    rcases List.mem_cons.mp hp with rfl | hp
    · exact .tail _ (.head _)
    rcases List.mem_cons.mp hp with rfl | hp
    · exact .tail _ (.tail _ (.head _))
    rcases List.mem_cons.mp hp with rfl | hp
    · exact .tail _ (.tail _ (.tail _ (.head _)))
    · exact .tail _ (.tail _ (.tail _ (.tail _ (.tail _ (.tail _ (.tail _ hp))))))
  · rcases List.mem_cons.mp hp with rfl | hp
    · exact e t4
    rcases List.mem_cons.mp hp with rfl | hp
    · exact e t3
    rcases List.mem_cons.mp hp with rfl | hp
    · exact e l2
    rcases List.mem_cons.mp hp with rfl | hp
    · exact ⟨Nat.ne_of_gt a1, Nat.ne_of_gt a2, Nat.ne_of_gt a3⟩
    · exact off.mem p hp
theorem zero_bd {b : Int} (h : b = 0) : 0 ≤ b ∧ b ≤ 100 := by omega
/-- the ledger of the comparisons -/
theorem law_last {h₀ h : Heap} {L DM lb la D1 tnB tcB xB dB tnA tcA xA dA : Addr} {oDM olb ola o1 oA1 oA2 oA3 oA4 oB1 oB2 oB3 oB4 : Obj} {p2 p3 : Addr × Obj} {psA psB : Array Value} {TL : Led} {vs ys : List Value} {r1 r2 : List (Int × Int × Int)}
    (N : News h₀ L h ((DM, oDM) :: (tnB, oB1) :: (tcB, oB2) :: (xB, oB3) :: (dB, oB4) :: (tnA, oA1) :: (tcA, oA2) :: (xA, oA3) :: (dA, oA4) :: (lb, olb) :: (la, ola) :: (D1, o1) :: p2 :: p3 :: (234, tabObj psA) :: (241, tabObj psB) :: TL)) (d1 : DatAll TL vs (r1.map rowD)) (d2 : DatAll TL ys (r2.map rowD)) :
    ∃ (W : Led), News h₀ L h W ∧ (xA, oA3) ∈ W ∧ (dA, oA4) ∈ W ∧ (tnA, oA1) ∈ W ∧ (tcA, oA2) ∈ W ∧ (xB, oB3) ∈ W ∧ (dB, oB4) ∈ W ∧ (tnB, oB1) ∈ W ∧ (tcB, oB2) ∈ W ∧ (la, ola) ∈ W ∧ (lb, olb) ∈ W ∧ (234, tabObj psA) ∈ W ∧ (241, tabObj psB) ∈ W ∧ DatAll W vs (r1.map rowD) ∧ DatAll W ys (r2.map rowD) := by
  have up : ∀ p ∈ TL, p ∈ (DM, oDM) :: (tnB, oB1) :: (tcB, oB2) :: (xB, oB3) :: (dB, oB4) :: (tnA, oA1) :: (tcA, oA2) :: (xA, oA3) :: (dA, oA4) :: (lb, olb) :: (la, ola) :: (D1, o1) :: p2 :: p3 :: (234, tabObj psA) :: (241, tabObj psB) :: TL := fun p hp => by repeat (first | exact hp | refine List.Mem.tail _ ?_)
  exact ⟨_, N, (by repeat (first | exact List.Mem.head _ | refine List.Mem.tail _ ?_)), (by repeat (first | exact List.Mem.head _ | refine List.Mem.tail _ ?_)), (by repeat (first | exact List.Mem.head _ | refine List.Mem.tail _ ?_)), (by repeat (first | exact List.Mem.head _ | refine List.Mem.tail _ ?_)), (by repeat (first | exact List.Mem.head _ | refine List.Mem.tail _ ?_)), (by repeat (first | exact List.Mem.head _ | refine List.Mem.tail _ ?_)), (by repeat (first | exact List.Mem.head _ | refine List.Mem.tail _ ?_)), (by repeat (first | exact List.Mem.head _ | refine List.Mem.tail _ ?_)), (by repeat (first | exact List.Mem.head _ | refine List.Mem.tail _ ?_)), (by repeat (first | exact List.Mem.head _ | refine List.Mem.tail _ ?_)), (by repeat (first | exact List.Mem.head _ | refine List.Mem.tail _ ?_)), (by repeat (first | exact List.Mem.head _ | refine List.Mem.tail _ ?_)), d1.mono up, d2.mono up⟩
theorem end_same {h₀ h' : Heap} {L I C D : Addr} {m : Str → Option Value} {s₁ : Shared} {oI oC oD : Obj} {S : Led → Prop} {J : Value → Prop} {y : Value} {tk : Nat} {nx : Led} (F : Fr h₀ L h' m) (N : News h₀ L h' ((I, oI) :: (C, oC) :: (D, oD) :: nx)) (off : Off3 I C D nx) (hS : S nx) (hJ : J y) :
    CompEnd h₀ L m s₁ I oI C oC D oD S (fun y nw => nw = nx ∧ J y) y { s₁ with heap := h', toks := tk } := CompEnd.intro F N nx (fun _ hp => hp) off hS ⟨rfl, hJ⟩
noncomputable def fltR (c : Int → Int → Bool) (rows : List (Int × Int × Int)) (i : Nat) : List Dat := ((rows.take i).filter fun r => c r.2.1 r.2.2).map rowD
theorem take_get {rows : List (Int × Int × Int)} {i : Nat} {r : Int × Int × Int} (h : rows[i]? = some r) : rows.take (i + 1) = rows.take i ++ [r] := by
  rw [List.take_add_one, h]; rfl
theorem flt_yes {c : Int → Int → Bool} {rows : List (Int × Int × Int)} {i n0 : Nat} {r : Int × Int × Int} {W : Led} {ys : List Value} {T : Addr} {t1 t2 t3 : Tok} (h : DatAll W ys (fltR c rows i)) (hr : rows[i]? = some r) (hT : (T, ({ cls := .type "tuple", data := .seq #[.int r.1 t1, .int r.2.1 t2, .int r.2.2 t3] n0 } : Obj)) ∈ W) (hc : c r.2.1 r.2.2 = true) : DatAll W (ys ++ [.ref T]) (fltR c rows (i + 1)) := by
  unfold fltR at h ⊢
  rw [take_get hr, List.filter_append, List.map_append]
  refine DatAll.append h ?_
  rw [List.filter_cons_of_pos (by simpa using hc)]
  exact DatAll.one (DatIn.tuple (vs := [.int _ _, .int _ _, .int _ _]) hT (.cons (.int _ _) (.cons (.int _ _) (.cons (.int _ _) .nil))))
theorem flt_no {c : Int → Int → Bool} {rows : List (Int × Int × Int)} {i : Nat} {r : Int × Int × Int} {W : Led} {ys : List Value} (h : DatAll W ys (fltR c rows i)) (hr : rows[i]? = some r) (hc : c r.2.1 r.2.2 = false) : DatAll W ys (fltR c rows (i + 1)) := by
  unfold fltR at h ⊢
  rw [take_get hr, List.filter_append, List.map_append, List.filter_cons_of_neg (by simpa using hc)]
  simpa using h
theorem flt_fin {c : Int → Int → Bool} {f g : Int → Int} {k n : Nat} {W : Led} {vs ys : List Value} (h : DatAll W ys (fltR c (dueF f g k) n)) (hv : DatAll W vs ((dueF f g k).map rowD)) (hn : n = vs.length) : DatAll W ys ((rowsC c f g k).map rowD) := by
  have hl := hv.length
  rw [List.length_map] at hl
  unfold fltR at h
  rw [hn, hl, List.take_length] at h
  exact h
theorem ok_rows (rs : List (Int × Int × Int)) : kqdOk 8 (.list (rs.map rowD)) = true := by
  simp only [kqdOk, List.all_eq_true, List.mem_map]
  rintro d ⟨r, _, rfl⟩
  rfl
section
variable {prog : Program} {w : World} {A : Around} {E : Value → Shared → Prop} {s : Shared} {Q : Value → Shared → Prop} {h₀ : Heap} {L : Addr} {news : Led} {l D : Addr} {ys zs : List Value} {n1 n2 : Nat} {rs : List (Int × Int × Int)}
open Classical in
theorem eq_rows (N : News h₀ L s.heap news) (h1 : (l, listOf ys.toArray n1) ∈ news) (h2 : (D, listOf zs.toArray n2) ∈ news) (d1 : DatAll news ys (rs.map rowD)) (d2 : DatAll news zs (rs.map rowD)) (hu : A.units + 64 < cLine) (h : Q (.bool true) s) :
    wpAny (model prog w) A (compareOp .Eq (.ref l) (.ref D)) Q E s := by
  refine eq_dat N (DatIn.list h1 d1) (DatIn.list h2 d2) (ok_rows rs) (ok_rows rs) hu ?_
  rw [decide_eq_true rfl]; exact h
open Classical in
theorem eq_none (N : News h₀ L s.heap news) (h1 : (l, listOf ys.toArray n1) ∈ news) (h2 : (D, listOf #[] n2) ∈ news) (d1 : DatAll news ys (rs.map rowD)) (hu : A.units + 64 < cLine) (h : Q (.bool (decide (rs = []))) s) :
    wpAny (model prog w) A (compareOp .Eq (.ref l) (.ref D)) Q E s := by
  refine eq_dat N (DatIn.list h1 d1) (DatIn.list (vs := []) (ds := []) h2 .nil) (ok_rows rs) rfl hu ?_
  have e : (Dat.list (rs.map rowD) = Dat.list []) ↔ rs = [] := by
    constructor
    · intro h; injection h with h; exact List.map_eq_nil_iff.mp h
    · intro h; rw [h]; rfl
  rw [dec_iff e]; exact h
end
end
end
section
local macro_rules | `(tactic| omega) => `(tactic| (run_tac ar))
section
local macro_rules | `(tactic| k_ne) => `(tactic| (refine neN ?_; (try dsimp only); (run_tac ar)))
section
theorem fresh_T3 : True := by w_top off; exact True.intro
set_option maxHeartbeats 8000000
inductive PhaseT : Prop where
  | mk : PhaseT
local macro_rules | `(tactic| walk_at "subscriptTail Name Slice ref ref") => `(tactic| ((fail_if_success (fail_if_success (have : PhaseT := by assumption))); k_here; (with_reducible show wpAny _ _ (subscriptTail _ (PySem.Expr.Slice _ _ none _) (Value.ref _) (Value.ref _)) _ _ _); k_dflt (refine' kmk_slice_ints ?F ?N ?l ?p ?q ?i ?m ?c ?_ ?s ?t ?z; (case F => k_asm); (case N => k_asm); (case l => kmk_list); (case p => kmk_part); (case q => kmk_part); (case i => l_ints); (case m => first | ((with_reducible refine' kmk_from ?ma ?mb); (case ma => l_ints); (case mb => kmk_sign)) | ((with_reducible refine' kmk_upto ?ma ?mb); (case ma => l_ints); (case mb => kmk_sign))); (case c => kmk_len); (case s => with_unfolding_all rfl); (case t => kmk_pure); (case z => kmk_size)); intro D' ws' h' F' N' l1 hI' hC' hL'; clear hC' hL'; (try dsimp only); (try k_lt l1); (try k_sweep)))
section
variable {w : World} {pv : Program} {LSv : List Str} {mean : ExcName → Option Value} {mg mb : Str → Option Value}
    {dp un : Nat} {gd : Option (List Code)} {cn : Str} {cs : Scope} {a : Addr} {ccd : Value} {cl : List (Str × Addr)} {outer : List Env} {A₀ : Around} {base h₀ : Heap} {L : Addr} {m : Str → Option Value} {news : List (Addr × Obj)} {s : Shared}
    {Q E : Value → Shared → Prop}
theorem rows_T3_0 : True := by
  k_with_none
  k_with "binaryOp Mult int int" => (k_here; (first | refine mulR (by omega) (by omega) ?_ | refine mulL (by omega) (by omega) ?_); intro tQq7 tkQq7)
  k_with "call builtin:list.append" => (k_here; (with_reducible show wpAny _ _ (call (Value.builtin _) [Value.ref _, _]) _ _ _); k_dflt (refine' append_N ?k1 ?k2 ?k3 ?z ?_; (case k1 => k_asm); (case k2 => k_asm); (case k3 => k_upd); (case z => omega); k_whole); intro hQq7 FQq7 NQq7; (try k_sweep))
  k_with "call ref" => (k_here; (with_reducible show wpAny _ _ (call (Value.ref 94) _) _ _ _); k_dflt (refine' hls0_spec ?k1 ?k2 ?k3 ?k4 ?k5 ?k6 ?k7 ?k8  ?_; (case k1 => k_asm); (case k2 => k_asm); (case k3 => k_asm); (case k4 => k_asm); (case k5 => k_asm); (case k6 => first | rfl | assumption); (case k7 => ktr_room); (case k8 => ktr_units);  k_whole); intro x3Qq7 a3Qq7 t3Qq7 c3Qq7 t4Qq7 t5Qq7 hQq7 tkQq7 FQq7 NQq7 l1Qq7; (try k_lt l1Qq7); (try k_sweep))
  k_with "call ref" => (k_here; (with_reducible show wpAny _ _ (call (Value.ref 115) _) _ _ _); k_dflt (refine' hsv_spec ?k1 ?k2 ?k3 ?k4 ?k5 ?k6 ?k7 ?k8 ?p1 ?p2 ?p3 ?p4 ?_; (case k1 => k_asm); (case k2 => k_asm); (case k3 => k_asm); (case k4 => k_asm); (case k5 => k_asm); (case k6 => first | rfl | assumption); (case k7 => ktr_room); (case k8 => ktr_units); (case p1 => omega); (case p2 => omega); (case p3 => omega); (case p4 => omega); k_whole); intro x3Qq7 a3Qq7 t3Qq7 t4Qq7 t5Qq7 hQq7 tkQq7 FQq7 NQq7 l1Qq7; (try k_lt l1Qq7); (try k_sweep))
  k_with "call ref" => (k_here; (with_reducible show wpAny _ _ (call (Value.ref 101) _) _ _ _); k_dflt (refine' h2r_spec ?k1 ?k2 ?k3 ?k4 ?k5 ?k6 ?k7 ?k8  ?_; (case k1 => k_asm); (case k2 => k_asm); (case k3 => k_asm); (case k4 => k_asm); (case k5 => k_asm); (case k6 => first | rfl | assumption); (case k7 => ktr_room); (case k8 => ktr_units);  k_whole); intro x3Qq7 t3Qq7 t4Qq7 t5Qq7 hQq7 tkQq7 FQq7 NQq7 l1Qq7; (try k_lt l1Qq7); (try k_sweep))
  k_with "call ref" => (k_here; (with_reducible show wpAny _ _ (call (Value.ref 94) _) _ _ _); k_dflt (refine' hls_spec ?k1 ?k2 ?k3 ?k4 ?k5 ?k6 ?k7 ?k8 ?p1 ?p2 ?p3 ?p4 ?_; (case k1 => k_asm); (case k2 => k_asm); (case k3 => k_asm); (case k4 => k_asm); (case k5 => k_asm); (case k6 => first | rfl | assumption); (case k7 => ktr_room); (case k8 => ktr_units); (case p1 => assumption); (case p2 => assumption); (case p3 => assumption); (case p4 => assumption); k_whole); intro x3Qq7 t3Qq7 b3Qq7 t4Qq7 c3Qq7 t5Qq7 hQq7 tkQq7 FQq7 NQq7 l1Qq7; (try k_lt l1Qq7); (try k_sweep))
  k_with "exec For Name Name" => refine hold_out ?_
  k_with "PostM" => (dsimp only [PostM])
  k_with "exec For Name Call cons nil" => refine hold_out ?_
  k_with "call ref" => (k_here; (with_reducible show wpAny _ _ (call (Value.ref 188) _) _ _ _); k_dflt (refine' fmtn_spec ?k1 ?k2 ?k3 ?k4 ?k5 ?k6 ?k7 ?k8  ?_; (case k1 => k_asm); (case k2 => k_asm); (case k3 => k_asm); (case k4 => k_asm); (case k5 => k_asm); (case k6 => first | rfl | assumption); (case k7 => ktr_room); (case k8 => ktr_units);  k_whole); intro x4Qq7 dx4Qq7 l4Qq7 M4Qq7 dm4Qq7 e1Qq7 e2Qq7 e3Qq7 e4Qq7 e5Qq7 e6Qq7 k1Qq7 k2Qq7 k3Qq7 k4Qq7 k5Qq7 k6Qq7 q1Qq7 q2Qq7 q3Qq7 q4Qq7 n4Qq7 hh4Qq7 ks4Qq7 hQq7 tkQq7 FQq7 NQq7 l1Qq7 l2Qq7 l3Qq7 l4Qq7 l5Qq7; (try k_lt l1Qq7); (try k_lt2 l2Qq7); (try k_lt2 l3Qq7); (try k_lt2 l4Qq7); (try k_lt2 l5Qq7); (try k_sweep))
  k_with "call builtin:sorted" => refine hold_out ?_
  k_with "call builtin:len" => ((fail_if_success (have : PhaseT := by assumption)); k_here; (with_reducible show wpAny _ _ (call (Value.builtin "len") [Value.ref _]) _ _ _); k_dflt (refine' len_lstN ?k1 ?k2 ?k3 ?_; (case k1 => k_asm); (case k2 => k_mem); (case k3 => omega); k_whole); intro tQq7 tkQq7)
  k_with "call builtin:str.split" => refine hold_out ?_
  k_with "eval ListComp" => ((with_reducible show wpAny _ _ (eval (PySem.Expr.ListComp _ (_ :: _ :: _) _ _) _) _ _ _); refine hold_out ?_)
  k_with "subscriptTail" => ((fail_if_success (have : PhaseT := by assumption)); k_here; (with_reducible show wpAny _ _ (subscriptTail _ _ (Value.ref _) (Value.int (Nat.cast _) _)) _ _ _); k_dflt (refine' spot_item ?k1 ?k2 ?k3 ?k4 ?k5 ?k6 ?_; (case k1 => k_asm); (case k2 => k_mem); (case k3 => assumption); (case k4 => assumption); (case k5 => assumption); (case k6 => omega); k_whole); intro tQq7 hf1Qq7 hf2Qq7)
  k_with "call builtin:list.index" => ((fail_if_success (have : PhaseT := by assumption)); k_here; k_dflt (refine' idx_N ?k1 ?k2 ?k3 ?k4 ?k5 ?_; (case k1 => k_asm); (case k2 => k_mem); (case k3 => assumption); (case k4 => assumption); (case k5 => omega); k_whole); intro jQq7 tQq7 tkQq7 hjQq7 hjlQq7)
  k_with "call ref" => ((with_reducible show wpAny _ _ (call (Value.ref 185) _) _ _ _); refine hold_out ?_)
  k_with "call ref" => ((with_reducible show wpAny _ _ (call (Value.ref 136) _) _ _ _); refine hold_out ?_)
  k_with "eval ListComp" => ((fail_if_success (fail_if_success (have : PhaseT := by assumption))); refine hold_out ?_)
  k_with "subscriptTail Name BinOp ref int" => ((fail_if_success (fail_if_success (have : PhaseT := by assumption))); k_here; (with_reducible show wpAny _ _ (subscriptTail _ _ (Value.ref _) (Value.int _ _)) _ _ _); k_dflt (refine' item_lstN ?k1 ?k2 ?k3 ?k4 ?k5 ?k6 ?_; (case k1 => k_asm); (case k2 => k_mem); (case k3 => assumption); (case k4 => simp only [List.length_cons, List.length_nil]; omega); (case k5 => omega); (case k6 => simp only [List.length_cons, List.length_nil]; omega); k_whole); intro tQq7)
  k_with "subscriptTail Name Name ref int" => ((fail_if_success (fail_if_success (have : PhaseT := by assumption))); k_here; (with_reducible show wpAny _ _ (subscriptTail _ _ (Value.ref _) (Value.int _ _)) _ _ _); k_dflt (refine' item_lstN ?k1 ?k2 ?k3 ?k4 ?k5 ?k6 ?_; (case k1 => k_asm); (case k2 => k_mem); (case k3 => assumption); (case k4 => simp only [List.length_cons, List.length_nil]; omega); (case k5 => omega); (case k6 => simp only [List.length_cons, List.length_nil]; omega); k_whole); intro tQq7)
  k_with "subscriptTail Name Constant ref int" => ((fail_if_success (fail_if_success (have : PhaseT := by assumption))); k_here; (with_reducible show wpAny _ _ (subscriptTail _ _ (Value.ref _) (Value.int _ _)) _ _ _); k_dflt (refine' item_lstN ?k1 ?k2 ?k3 ?k4 ?k5 ?k6 ?_; (case k1 => k_asm); (case k2 => k_mem); (case k3 => assumption); (case k4 => simp only [List.length_cons, List.length_nil]; omega); (case k5 => omega); (case k6 => simp only [List.length_cons, List.length_nil]; omega); k_whole); intro tQq7)
  k_with "newList" => (k_here; k_dflt (refine' newList_K ?k1 ?k2 ?_ (hsz := ?k3); (case k1 => k_asm); (case k2 => k_asm); (case k3 => first | exact Nat.le_of_ble_eq_true rfl | size_fits); k_whole); intro lQq7 hQq7 FQq7 NQq7 l1Qq7; (try k_lt l1Qq7); (try k_sweep); run_tac hq)
  exact True.intro
theorem told_spec {lm : Addr} {vsm : List Value} {ms : List Int} {tz : Tok} {n0 : Nat} {z : Int} {ps1 ps2 : Array Value} {rest : List (Addr × Obj)} (B : Below A₀ base outer h₀) (F : Fr h₀ L s.heap m) (X : (hd.heap_39 w.params).In h₀) (N : News h₀ L s.heap ((lm, listOf vsm.toArray n0) :: (234, tabObj ps1) :: (241, tabObj ps2) :: rest)) (T : Top pv LSv mean mg mb h₀) (hk : cs.kind = .function)
    (hd1 : dp + 7 < recursionLimit) (hu : un + 700 < cLine) (hi : IntsAre vsm ms) (ht1 : TriplesOk ps1.toList) (ht2 : TriplesOk ps2.toList) (q4 : @Ne Nat lm 234) (q5 : @Ne Nat lm 241) (r4 : ∀ p ∈ rest, p.1 ≠ 234) (r5 : ∀ p ∈ rest, p.1 ≠ 241) (hml : ms.length = 4) (hz1 : 1 ≤ z) (hz9 : z ≤ 9) (hbd : ∀ j, -9 ≤ ms.getD j 0 ∧ ms.getD j 0 ≤ 9)
    (hret : ∀ D vs' nn ws low hi ps1' ps2' h' g' tk', (AllBare s.gens → AllBare g') → Fr h₀ L h' m → News h₀ L h' ((D, listOf (List.toArray vs') nn) :: (lm, listOf vsm.toArray n0) :: (234, tabObj ps1') :: (241, tabObj ps2') :: rest) → (@LT.lt Nat _ lm D) → (@LT.lt Nat _ 241 D) → (∀ p ∈ rest, p.1 < D) → TriplesOk ps1'.toList → TriplesOk ps2'.toList → low ∈ ms → (∀ a ∈ ms, low ≤ a) → hi ∈ ms → (∀ a ∈ ms, a ≤ hi) → ws.Perm (ms.map fun m => m.fmod z) → ws.Pairwise (· ≤ ·) → IntsAre vs' (toldG z ws (turnS z ms low hi)) → Q (.ref D) { s with heap := h', gens := g', toks := tk' }) :
    wpAny (model PySem.Challenge.rw_rl0132_01.prog w) (ktrTop dp un gd cn cs L a ccd cl outer) (call (.ref 291) [.ref lm, .int z tz]) Q E s := by
  revert w pv LSv mean mg mb dp un gd cn cs a ccd cl outer A₀ base h₀ L m s Q E lm vsm ms tz n0 z ps1 ps2 rest
  refine (?zh : ∀ w pv LSv mean mg mb dp un gd cn cs a ccd cl outer A₀ base h₀ L m s Q E lm vsm ms tz n0 z ps1 ps2 rest, (?zP : _ → _ → _ → _ → _ → _ → _ → _ → _ → _ → _ → _ → _ → _ → _ → _ → _ → _ → _ → _ → _ → _ → _ → _ → _ → _ → _ → _ → _ → _ → _ → _ → Prop) w pv LSv mean mg mb dp un gd cn cs a ccd cl outer A₀ base h₀ L m s Q E lm vsm ms tz n0 z ps1 ps2 rest)
  refine fun w pv LSv mean mg mb dp un gd cn cs a ccd cl outer A₀ base h₀ L m s Q E lm vsm ms tz n0 z ps1 ps2 rest => allE (P := un2 fun w => un2 fun pv => un2 fun LSv => un2 fun mean => un2 fun mg => un2 fun mb => un2 fun dp => un2 fun un => un2 fun gd => un2 fun cn => un2 fun cs => un2 fun a => un2 fun ccd => un2 fun cl => un2 fun outer => un2 fun A₀ => un2 fun base => un2 fun h₀ => un2 fun L => un2 fun m => un2 fun s => un2 fun Q => un2 fun E => un2 fun lm => un2 fun vsm => un2 fun ms => un2 fun tz => un2 fun n0 => un2 fun z => un2 fun ps1 => un2 fun ps2 rest => ?zP w pv LSv mean mg mb dp un gd cn cs a ccd cl outer A₀ base h₀ L m s Q E lm vsm ms tz n0 z ps1 ps2 rest) ?zn ?zk (w, pv, LSv, mean, mg, mb, dp, un, gd, cn, cs, a, ccd, cl, outer, A₀, base, h₀, L, m, s, Q, E, lm, vsm, ms, tz, n0, z, ps1, ps2, rest)
  case zn => walk_at "ne"
  clear w pv LSv mean mg mb dp un gd cn cs a ccd cl outer A₀ base h₀ L m s Q E lm vsm ms tz n0 z ps1 ps2 rest
  refine (?zj : AtE _ ?zE)
  refine (?zF : ∀ w pv LSv mean mg mb dp un gd cn cs a ccd cl outer A₀ base h₀ L m s Q E lm vsm ms tz n0 z ps1 ps2 rest, ?zP w pv LSv mean mg mb dp un gd cn cs a ccd cl outer A₀ base h₀ L m s Q E lm vsm ms tz n0 z ps1 ps2 rest) ?zE.1 ?zE.2.1 ?zE.2.2.1 ?zE.2.2.2.1 ?zE.2.2.2.2.1 ?zE.2.2.2.2.2.1 ?zE.2.2.2.2.2.2.1 ?zE.2.2.2.2.2.2.2.1 ?zE.2.2.2.2.2.2.2.2.1 ?zE.2.2.2.2.2.2.2.2.2.1 ?zE.2.2.2.2.2.2.2.2.2.2.1 ?zE.2.2.2.2.2.2.2.2.2.2.2.1 ?zE.2.2.2.2.2.2.2.2.2.2.2.2.1 ?zE.2.2.2.2.2.2.2.2.2.2.2.2.2.1 ?zE.2.2.2.2.2.2.2.2.2.2.2.2.2.2.1 ?zE.2.2.2.2.2.2.2.2.2.2.2.2.2.2.2.1 ?zE.2.2.2.2.2.2.2.2.2.2.2.2.2.2.2.2.1 ?zE.2.2.2.2.2.2.2.2.2.2.2.2.2.2.2.2.2.1 ?zE.2.2.2.2.2.2.2.2.2.2.2.2.2.2.2.2.2.2.1 ?zE.2.2.2.2.2.2.2.2.2.2.2.2.2.2.2.2.2.2.2.1 ?zE.2.2.2.2.2.2.2.2.2.2.2.2.2.2.2.2.2.2.2.2.1 ?zE.2.2.2.2.2.2.2.2.2.2.2.2.2.2.2.2.2.2.2.2.2.1 ?zE.2.2.2.2.2.2.2.2.2.2.2.2.2.2.2.2.2.2.2.2.2.2.1 ?zE.2.2.2.2.2.2.2.2.2.2.2.2.2.2.2.2.2.2.2.2.2.2.2.1 ?zE.2.2.2.2.2.2.2.2.2.2.2.2.2.2.2.2.2.2.2.2.2.2.2.2.1 ?zE.2.2.2.2.2.2.2.2.2.2.2.2.2.2.2.2.2.2.2.2.2.2.2.2.2.1 ?zE.2.2.2.2.2.2.2.2.2.2.2.2.2.2.2.2.2.2.2.2.2.2.2.2.2.2.1 ?zE.2.2.2.2.2.2.2.2.2.2.2.2.2.2.2.2.2.2.2.2.2.2.2.2.2.2.2.1 ?zE.2.2.2.2.2.2.2.2.2.2.2.2.2.2.2.2.2.2.2.2.2.2.2.2.2.2.2.2.1 ?zE.2.2.2.2.2.2.2.2.2.2.2.2.2.2.2.2.2.2.2.2.2.2.2.2.2.2.2.2.2.1 ?zE.2.2.2.2.2.2.2.2.2.2.2.2.2.2.2.2.2.2.2.2.2.2.2.2.2.2.2.2.2.2.1 ?zE.2.2.2.2.2.2.2.2.2.2.2.2.2.2.2.2.2.2.2.2.2.2.2.2.2.2.2.2.2.2.2
  intros w pv LSv mean mg mb dp un gd cn cs a ccd cl outer A₀ base h₀ L m s Q E lm vsm ms tz n0 z ps1 ps2 rest
  intro B F X N T hk hd1 hu hi ht1 ht2 q4 q5 r4 r5 hml hz1 hz9 hbd hret
  revert X; k_fill; intro X
  refine wpAny_call ?_
  k_dflt (refine' code_defC ?k1 ?k2 ?k3 ?k4 ?k5 ?kA ?kF ?kK ?k6 ?k7 ?k8 ?k9 ?kB ?kD ?_ ?c2 ?c3 ?c4; (case kA => exact rfl); (case kF => exact rfl); (case kK => assumption); (case k1 => k_asm); (case k2 => k_asm); (case k3 => k_asm); (case k4 => k_asm); (case k5 => k_asm); (case k6 => k_is); (case k7 => k_is); (case k8 => ktr_room); (case k9 => exact BindsTo.of_eq rfl); (case kB => exact rfl); (case kD => decide +kernel); (case c2 => exact rfl); (case c3 => exact rfl); (case c4 => exact rfl); k_whole; walk_at "e5"; intro g' L' h' tk' cells' FG' F' N' Y' B' X' T' l1; (try k_lt l1); k_cells Y'; (try simp only [List.cons_append, List.nil_append] at N'); (try dsimp only); (try k_fold))
  have hrl := allLt_mem l1.2.2.2
  k_steps
  refine hold_in ?_
  (rename Fr _ _ _ _ => lF'); (rename News _ _ _ _ => lN')
  (change (let G9 : Prop := _; G9)); intro G9
  obtain ⟨sp, base, rfl, hb, lN2, hne⟩ := news_tail lN' (by k_all)
  unfold G9; (try clear G9)
  have hlb : (lm, listOf vsm.toArray n0) ∈ base := by rw [hb]; k_mem
  clear lN'
  have hF0 := lF'
  k_dflt (refine For_lst hF0 [Str.ofString "red", Str.ofString "green", Str.ofString "blue"] (SpR z ms (lm, listOf vsm.toArray n0) sp base s.gens) rfl rfl rfl ?_)
  clear hF0
  k_steps
  (rename Fr _ _ _ _ => lF'); (rename News _ _ _ _ => lN')
  k_dflt (refine LstAt.intro (vs := vsm) (k := n0) (ps₀ := []) (fun i ps nx g hR => ?hax) lF' lN' ?hR True.intro ?turn ?done)
  case hax =>
    (change (let G9 : Prop := _; G9)); intro G9
    obtain ⟨_, _, h1, _, vs, k, rfl, _⟩ := hR
    unfold G9; (try clear G9)
    exact .tail _ h1
  case hR => exact ⟨rfl, rfl, hlb, Nat.zero_le _, [], _, rfl, .nil, hne⟩
  case turn =>
    intro i v ps nx u h g tk I oI hv hlt hneI hR F' N'
    (change (let G9 : Prop := _; G9)); intro G9
    obtain ⟨rfl, rfl, _, hil, vs, k, rfl, hI, _⟩ := hR
    unfold G9; (try clear G9)
    (change (let G9 : Prop := _; G9)); intro G9
    obtain ⟨hi4, tv, rfl⟩ := ints_at hi hv
    unfold G9; (try clear G9)
    (change (let G9 : Prop := _; G9)); intro G9
    obtain ⟨zm1, zm9⟩ := hbd i
    unfold G9; (try clear G9)
    (change (let G9 : Prop := _; G9)); intro G9
    obtain ⟨z0, z1, z2, z3, z4, z5, z6, z7⟩ := spot_facts zm1 zm9 hz1 hz9
    unfold G9; (try clear G9)
    simp only [spotX, spotR, spotG, spotB] at z0 z1 z2 z3 z4 z5 z6 z7
    have hvk : vs.length ≤ 10 := by rw [hI.length]; simp; omega
    clear hbd lF' lN'
    have hIs : @Ne Nat sp I := hneI _ (.head _)
    k_steps
    (rename Fr _ _ _ _ => lF'); (rename News _ _ _ _ => lN')
    exact sp_end lF' lN' (by k_mem) (by k_mem) (by intro z h1 h2; obtain ⟨h3, h4, h5⟩ := tmp3 h2; simp [h1, h3, h4, h5, upd]) z7 hi4 hI hlb (by intro p hp; k_mem) hne hneI
  case done =>
    intro ps nx u h g tk hR F' N'
    (change (let G9 : Prop := _; G9)); intro G9
    obtain ⟨rfl, rfl, _, _, vs, k, rfl, hI0, _⟩ := hR
    unfold G9; (try clear G9)
    rw [List.take_of_length_le (by rw [hi.length]; exact Nat.le_refl _)] at hI0
    have hvk : vs.length = 4 := by rw [hI0.length]; simp; omega
    clear lF' lN'
    (change (let G9 : Prop := _; G9)); intro G9
    subst hb
    unfold G9; (try clear G9)
    k_steps
    refine hold_in ?_
    (rename Fr _ _ _ _ => lF'); (rename News _ _ _ _ => lN')
    (rename _ ∈ ms => hlow9)
    (change (let G9 : Prop := _; G9)); intro G9
    obtain ⟨low, rfl⟩ := nm hlow9
    unfold G9; (try clear G9)
    (change (let G9 : Prop := _; G9)); intro G9
    obtain ⟨x, dx, l, M, dm, hh, ks, FM, rfl, rfl, rfl, rfl, rfl, rfl, rfl, hFM⟩ := fm_open lN'
    unfold G9; (try clear G9)
    (change (let G9 : Prop := _; G9)); intro G9
    obtain ⟨c1, c2, hc1, hc2⟩ := c_open lN'
    unfold G9; (try clear G9)
    (change (let G9 : Prop := _; G9)); intro G9
    obtain ⟨base, W, hW, lN2, hbW, hbb, hbi⟩ := base_of lN' [234, 241, x, dx, l, M, dm, c1.1, c2.1]
    unfold G9; (try clear G9)
    rw [hW] at hbW hbi
    clear lN2 hW
    clear W
    have hlmb : (lm, listOf vsm.toArray n0) ∈ base := hbi _ (by k_mem) (by rw [hc1, hc2]; exact bad9 q4 q5 (by k_ne) (by k_ne) (by k_ne) (by k_ne) (by k_ne) (by k_ne) (by k_ne))
    have hspb : (sp, listOf (List.toArray vs) k) ∈ base := hbi _ (by k_mem) (by rw [hc1, hc2]; exact bad9 (by omega) (by omega) (by k_ne) (by k_ne) (by k_ne) (by k_ne) (by k_ne) (by k_ne) (by k_ne))
    have hrb : ∀ p ∈ rest, p ∈ base := fun p hp => hbi p (by k_mem) (by have h9 : @LT.lt Nat _ p.1 L' := hrl p hp; rw [hc1, hc2]; exact bad9 (r4 p hp) (r5 p hp) (by omega) (by omega) (by omega) (by omega) (by omega) (by dsimp only; omega) (by dsimp only; omega))
    have hcs : ∀ p ∈ [c1, c2], p.1 ∉ [234, 241, x, dx, l] := by
      intro p hp
      rw [hc1, hc2] at hp
      rcases List.mem_cons.mp hp with rfl | hp
      · exact bad5 (by dsimp only; omega) (by dsimp only; omega) (by dsimp only; omega) (by dsimp only; omega) (by dsimp only; omega)
      · rw [List.mem_singleton.mp hp]
        exact bad5 (by dsimp only; omega) (by dsimp only; omega) (by dsimp only; omega) (by dsimp only; omega) (by dsimp only; omega)
    clear hbi
    (change (let G9 : Prop := _; G9)); intro G9
    obtain ⟨hi9, hx1, hx2⟩ := max_has (ms := ms) (by intro e; rw [e] at hml; cases hml)
    unfold G9; (try clear G9)
    have hl9 := mem_bd hbd hlow9
    have hh9 := mem_bd hbd hx1
    k_dflt (refine For_rng lF' [] (fun i ps nx g => PlR z ms low (hi9 - low + 1).toNat x dx l M dm hh ks FM [c1, c2] base (2 * low.fmod z) i ps nx g ∧ (AllBare s.gens → AllBare g)) rfl rfl rfl ?_)
    skip
    k_steps
    (rename Fr _ _ _ _ => lF'); (rename News _ _ _ _ => lN'); (rename IsRange _ _ _ _ _ _ _ _ => rgX)
    (rename ∀ a, a ∈ ms → a ≤ _ => hmx2); (rename _ ∈ ms => hmx1)
    have hmx : _ = hi9 := Int.le_antisymm (hx2 _ hmx1) (hmx2 _ hx1)
    have lN3 : News _ _ _ ((x, accObj dx [] _) :: (dx, dictOf [⟨hh, .str (Str.ofString "_initial_size") ks, .int (2 * low.fmod z) _⟩] 1) :: (l, listOf (List.toArray []) 0) :: (M, instObj 188 dm) :: (dm, FM) :: (234, tabObj ps1) :: (241, tabObj ps2) :: ([] ++ ([c1, c2] ++ base))) := nsub lN' (subs_cons (by k_mem) (subs_cons (by k_mem) (subs_cons (by k_mem) (subs_cons (by k_mem) (subs_cons (by rw [hFM]; k_mem) (subs_cons (by k_mem) (subs_cons (by k_mem) (subs_cons (by rw [hc1]; k_mem) (subs_cons (by rw [hc2]; k_mem) (fun p hp => by first | exact hbW p hp | exact List.mem_cons_of_mem _ (hbW p hp)))))))))))
    k_dflt (refine rng_intro (ps₀ := []) rgX lF' lN3 True.intro ⟨by omega, by omega, by omega, by omega⟩ ?hR ?turn ?done)
    case hR => exact ⟨⟨rfl, Nat.zero_le _, [], [], _, _, _, _, _, _, [], [], [], rfl, Ck.nil, ht1, ht2, .nil, rfl, by simp, by simp, by omega, by omega, by simp⟩, fun z9 => z9⟩
    case turn =>
      intro i t ps nx u h g tk I oI hit hlt hneI hR F' N'
      (change (let G9 : Prop := _; G9)); intro G9
      obtain ⟨⟨rfl, hiN, vs1, lv1, n1, nl1, c01, tc1, ps11, ps21, chs, ds, ls, rfl, hCk, htA, htB, hStr, hRun, hvl, hll, hc01, hc02, hch⟩, hgk0⟩ := hR
      unfold G9; (try clear G9)
      (change (let G9 : Prop := _; G9)); intro G9
      subst hFM
      unfold G9; (try clear G9)
      clear lF' lN' lN3 rgX
      have lN5 := nsub N' (subs_cons (show (lm, listOf vsm.toArray n0) ∈ _ from by k_mem) (fun p hp => hp))
      clear N'
      have hcnt := count_le4 hml (low + (i : Int))
      k_steps
      refine hold_in ?_
      (rename Fr _ _ _ _ => lF'); (rename News _ _ _ _ => lN')
      (change (let G9 : Prop := _; G9)); intro G9
      obtain ⟨y1, y2, y3, y4, y5⟩ := apc_rest (oI := oI) hneI hch hcs hbb
      unfold G9; (try clear G9)
      k_dflt (refine' apc_spec (d := digC (ms.count (low + (i : Int)))) (rest := (I, oI) :: (chs ++ ([c1, c2] ++ base))) ?k1 lF' ?k3 (nsub lN' ?kS) ?k5 ?k6 ?k7 ?k8 ?o1 ?o2 ?o3 ?o4 ?o5 y1 y2 y3 y4 y5 (hCk.up (fun p hp => .tail _ hp)) (digC_facts hcnt).1 htA htB ?g1 ?g2 hStr hc01 ?g3 ?g4 ?g5 ?g6 ?_)
      case k1 => k_asm
      case k3 => k_asm
      case kS => exact subs_cons (by k_mem) (subs_cons (by k_mem) (subs_cons (by k_mem) (subs_cons (by k_mem) (subs_cons (by k_mem) (subs_cons (by k_mem) (subs_cons (by k_mem) (subs_cons (by k_mem) (fun p hp => by k_mem))))))))
      case k5 => k_asm
      case k6 => first | rfl | assumption
      case k7 => ktr_room
      case k8 => ktr_units
      case o1 => omega
      case o2 => omega
      case o3 => omega
      case o4 => omega
      case o5 => omega
      case g1 => omega
      case g2 => omega
      case g3 => omega
      case g4 => omega
      case g5 => omega
      case g6 => intro _; omega
      intro t' ta' tb' vs' n' c0' tc' lv' nl' ps1' ps2' ds' ls' h' g' tk' hgk1 F' N' ht1' ht2' hC' hlt' hS' hll' hst'
      clear lF' lN'
      k_steps
      (rename Fr _ _ _ _ => lF'); (rename News _ _ _ _ => lN')
      exact end_intro0 lF' lN' (by k_mem) (by intro z h1 h2; simp [h1, upd]) ⟨PlR.next (n' := n') (nl' := nl') (by omega) hCk ht1' ht2' hS' hRun hvl hll hll' hc01 hc02 hC' hst' hch hlt', fun z9 => hgk1 (hgk0 z9)⟩ (subs_cons (by k_mem) (subs_cons (by k_mem) (subs_cons (by k_mem) (subs_cons (by k_mem) (subs_cons (by k_mem) (subs_cons (by k_mem) (subs_cons (by k_mem) (subs_cons (by k_mem) (fun p hp => by k_mem))))))))) (pl_nI hneI hlt')
    case done =>
      intro ps nx u h g tk hR F' N'
      (change (let G9 : Prop := _; G9)); intro G9
      obtain ⟨⟨rfl, hiN, vs1, lv1, n1, nl1, c01, tc1, ps11, ps21, chs, ds, ls, rfl, hCk, htA, htB, hStr, hRun, hvl, hll, hc01, hc02, hch⟩, hgk0⟩ := hR
      unfold G9; (try clear G9)
      (change (let G9 : Prop := _; G9)); intro G9
      subst hFM
      unfold G9; (try clear G9)
      have hle9 : low ≤ hi9 := hx2 _ hlow9
      have hRun2 : (ls, c01, ds) = fmtRun (2 * z) (2 * low.fmod z) (digsF ms low (hi9 - low + 1).toNat) := by rw [hRun, List.take_of_length_le (by simp [digsF]; omega)]
      have hrd := run_dig (ms := ms) (low := low) (mx := 2 * z) (c0 := 2 * low.fmod z) (n := (hi9 - low + 1).toNat) hml
      have hdsn := run_pos (ms := ms) (low := low) (mx := 2 * z) (c0 := 2 * low.fmod z) (n := (hi9 - low + 1).toNat) (by omega)
      have hgr := glue_room (ms := ms) hml (show (hi9 - low + 1).toNat ≤ 100 by omega) hRun2
      rw [← hRun2] at hrd hdsn
      dsimp only at hrd hdsn
      (change (let G9 : Prop := _; G9)); intro G9
      obtain ⟨hrd1, hrd2⟩ := hrd
      unfold G9; (try clear G9)
      have hdl : 1 ≤ vs1.length := by rw [hCk.1]; exact List.length_pos_iff.mpr hdsn
      clear lF' lN' lN3 rgX hRun
      k_steps
      refine hold_in ?_
      (rename Fr _ _ _ _ => lF'); (rename News _ _ _ _ => lN')
      (change (let G9 : Prop := _; G9)); intro G9
      obtain ⟨y1, y2, y3, y4, y5⟩ := fst_rest hch hcs hbb
      unfold G9; (try clear G9)
      k_dflt (refine' fstr_spec (rest := chs ++ ([c1, c2] ++ base)) (ls := ls) ?k1 lF' ?k3 (nsub lN' ?kS) ?k5 ?k6 ?k7 ?k8 ?o1 ?o2 ?o3 ?o4 ?o5 y1 y2 y3 y4 y5 hCk htA htB ?hok hdl ?g1 ?g2 (line_nospace hrd1 hdsn) hc01 ?g3 hStr hgr ?_)
      case k1 => k_asm
      case k3 => k_asm
      case kS => exact subs_cons (by k_mem) (subs_cons (by k_mem) (subs_cons (by k_mem) (subs_cons (by k_mem) (subs_cons (by k_mem) (subs_cons (by k_mem) (subs_cons (by k_mem) (fun p hp => by k_mem)))))))
      case k5 => k_asm
      case k6 => first | rfl | assumption
      case k7 => ktr_room
      case k8 => ktr_units
      case o1 => omega
      case o2 => omega
      case o3 => omega
      case o4 => omega
      case o5 => omega
      case hok => intro d hd; obtain ⟨n, hn, rfl⟩ := hrd1 d hd; exact (digC_facts hn).2
      case g1 => omega
      case g2 => omega
      case g3 => omega
      intro t' ps1' ps2' h' g' tk' hgk2 F' N' ht1' ht2'
      have lN6 := nsub N' (show ∀ p ∈ (lm, listOf vsm.toArray n0) :: (sp, listOf (List.toArray vs) k) :: (234, tabObj ps1') :: (241, tabObj ps2') :: c1 :: c2 :: rest, p ∈ _ from subs_cons (by k_mem) (subs_cons (by k_mem) (subs_cons (by k_mem) (subs_cons (by k_mem) (subs_cons (by k_mem) (subs_cons (by k_mem) (fun p hp => .tail _ (.tail _ (List.mem_append_right _ (List.mem_append_right _ (hrb p hp)))))))))))
      clear lF' lN' N' hcs hbb hbW hlmb hspb hrb hCk hch y1 y2 y3 y4 y5
      subst hc1 hc2
      have hroom := bar_room (xs := (ls ++ [ds]).map lineS) (by simpa using hgr) (by simp)
      have hsplit := split_join (xs := (ls ++ [ds]).map lineS) (by simp) (by
        intro x hx
        (change (let G9 : Prop := _; G9)); intro G9
        obtain ⟨r, hr, rfl⟩ := List.mem_map.mp hx
        unfold G9; (try clear G9)
        rcases List.mem_append.mp hr with hr | hr
        · exact line_nobar (hrd2 r hr)
        · rw [List.mem_singleton.mp hr]; exact line_nobar hrd1)
      k_steps
      refine hold_in ?_
      refine KSpl.split1 (by k_asm) (by k_asm) (by decide) ?_ hroom
      intro rD rl h' k' eR aR F' N' l1
      k_lt l1
      rw [hsplit] at eR
      rw [eR] at aR
      generalize strValues rl = rv at aR N'
      clear lN6
      have hq1 : ∀ p ∈ rest, p.1 ≠ L' + 1 := fun p hp => by have h9 : @LT.lt Nat _ p.1 L' := hrl p hp; show @Ne Nat p.1 (L' + 1); omega
      have hq2 : ∀ p ∈ rest, p.1 ≠ L' + 1 + 1 := fun p hp => by have h9 : @LT.lt Nat _ p.1 L' := hrl p hp; show @Ne Nat p.1 (L' + 1 + 1); omega
      have hrf := rows_facts (ms := ms) hml (show (hi9 - low + 1).toNat ≤ 100 by omega) hRun2
      have hvl2 : rv.length = (ls ++ [ds]).length := by rw [aR.length]; simp
      have hvl3 := hrf.2
      k_steps
      refine hold_in ?_
      k_dflt (refine ListComp_M (by k_asm) (by with_unfolding_all rfl) (by decide) (by rfl) (by decide) (fun C I D => looping_mid rfl rfl) ?_)
      k_steps
      (rename Fr _ _ _ _ => lF'); (rename News _ _ _ _ => lN'); (rename IsRange _ _ _ _ _ _ _ _ => rgX)
      (change (let G9 : Prop := _; G9)); intro G9
      obtain ⟨rows, hrows⟩ : ∃ rows, rows = ls ++ [ds] := ⟨_, rfl⟩
      unfold G9; (try clear G9)
      rw [← hrows] at aR hrf hvl2
      (change (let G9 : Prop := _; G9)); intro G9
      obtain ⟨hrf1, hrf2⟩ := hrf
      unfold G9; (try clear G9)
      have hlenR : (rows.map lineS).length = rows.length := by simp
      k_dflt (refine SrcM.intro (n := rv.length) (dep := []) (J1 _ rows) (iter_range rfl rgX ⟨by omega, by omega, by omega, by omega⟩ (by omega)) lF' lN' (by simp) (fun mC => ⟨rfl, .nil, by simp⟩) ?turn ?done)
      case turn =>
        intro C D i v ys nx mC h g tk oC I oI E' Post hgk3 hi hP hJ hO F' N' off hne hPost
        (change (let G9 : Prop := _; G9)); intro G9
        obtain ⟨t, rfl⟩ := hP
        unfold G9; (try clear G9)
        (change (let G9 : Prop := _; G9)); intro G9
        obtain ⟨hnx, hI, hyl⟩ := hJ
        unfold G9; (try clear G9)
        rw [Int.zero_add]
        refine assign_nm rfl rfl hO F' N' off hne ?_
        intro h2 tk2 oC2 hO2 F2 N2
        (change (let G9 : Prop := _; G9)); intro G9
        obtain ⟨m2, hm2, hk2⟩ : ∃ m2 : Str → Option Value, m2 = (fun y => if y = Str.ofString "k" then some (.int (i : Int) t) else mC y) ∧ m2 (Str.ofString "k") = some (.int (i : Int) t) := ⟨_, rfl, by simp⟩
        unfold G9; (try clear G9)
        rw [← hm2] at hO2
        (change (let G9 : Prop := _; G9)); intro G9
        obtain ⟨hr1, hr2⟩ := rows_get (ls := ls) (ds := ds) (i := i) (by rw [← hrows]; omega)
        unfold G9; (try clear G9)
        rw [← hrows] at hr1 hr2
        (change (let G9 : Prop := _; G9)); intro G9
        obtain ⟨hr3, hr4⟩ := hrf1 _ hr2
        unfold G9; (try clear G9)
        have hlsz : (lineS (rows.getD i [])).length + 2 ≤ sizeLine := by rw [line_len hr3, sizeLine_eq]; omega
        clear lF' lN' F' N' hO
        rw [hnx] at N2
        unfold InnerMid
        k_steps
        refine hold_in ?_
        rw [Int.toNat_natCast, hr1]
        refine KSpl.split0 (by k_asm) (by k_asm) ?_ hlsz
        intro wD wl h' k' eW aW F' N' l1
        rw [line_words hr3] at eW
        rw [eW] at aW
        generalize strValues wl = wv at aW N'
        rw [← hnx] at N'
        k_dflt (refine mid_go rfl (fun I => looping_last rfl rfl) (iter_list rfl N' (.head _)) (J2 ((I, oI) :: (wD, listOf wv.toArray 0) :: nx) rows i t) F' (nsub N' ?sub) hO2 ?off hne.2.2 ?dep ⟨rfl, by simpa [rowK] using hI, by omega, hk2⟩ ?turn2 ?done2)
        case sub =>
          exact subs_cons (.tail _ (.tail _ (.head _))) (subs_cons (.tail _ (.tail _ (.tail _ (.head _)))) (subs_cons (.tail _ (.head _)) (subs_cons (.head _) (fun p hp => .tail _ (.tail _ (.tail _ (.tail _ hp)))))))
        case off =>
          intro p hp
          rcases List.mem_cons.mp hp with rfl | hp
          · exact ⟨hne.1, hne.2.1⟩
          · rcases List.mem_cons.mp hp with rfl | hp
            · exact ⟨Nat.ne_of_gt (l1 _ (.tail _ (.head _))), Nat.ne_of_gt (l1 _ (.tail _ (.tail _ (.head _))))⟩
            · exact (off p hp).2
        case dep =>
          intro p hp _ _ _ _ hJ
          rw [List.mem_singleton.mp hp, hJ.1]
          exact .tail _ (.head _)
        case turn2 =>
          intro j v2 ys2 nx2 mC2 h3 g3 tk3 oC3 I2 oI2 E2 Post2 hgk4 hj hP2 hJ2 hO3 F3 N3 off3 hne3 hPost2
          (change (let G9 : Prop := _; G9)); intro G9
          obtain ⟨hj2, t2, rfl⟩ := strs_at aW hP2
          unfold G9; (try clear G9)
          (change (let G9 : Prop := _; G9)); intro G9
          obtain ⟨rfl, hI2, hyl2, hk3⟩ := id hJ2
          unfold G9; (try clear G9)
          obtain ⟨n, hn, hdn⟩ : Dig ((rows.getD i []).getD j Str.empty) := by
            rw [List.getD, List.getElem?_eq_getElem hj2, Option.getD_some]
            exact hr3 _ (List.getElem_mem hj2)
          rw [hdn]
          refine assign_nm rfl rfl hO3 F3 N3 off3 hne3 ?_
          intro h4 tk4 oC4 hO4 F4 N4
          (change (let G9 : Prop := _; G9)); intro G9
          obtain ⟨m3, hm3, hs3, hk4⟩ : ∃ m3 : Str → Option Value, m3 = (fun y => if y = Str.ofString "sign" then some (.str (digC n) t2) else mC2 y) ∧ m3 (Str.ofString "sign") = some (.str (Str.ofString (toString ((n : Nat) : Int))) t2) ∧ m3 (Str.ofString "k") = some (.int (i : Int) t) := ⟨_, rfl, by simp [digC], (if_neg (by decide)).trans hk3⟩
          unfold G9; (try clear G9)
          rw [← hm3] at hO4
          have hsz9 : ys2.length ≤ sizeLine := by
            have h1 : ys2.length ≤ 100 * i + j := hyl2
            have h2 : j < (rows.getD i []).length := hj2
            have h3 : (rows.getD i []).length ≤ 100 := hr4
            have h4 : i < rv.length := hi
            rw [sizeLine_eq]; omega
          refine emit_ok hO4 off3 hne3 hsz9 hPost2 ⟨_, _, _, rfl, hgk4⟩ ?_
          clear F' N' F3 N3 hO3 F2 N2 hO2
          k_steps
          (rename Fr _ _ _ _ => lF'); (rename News _ _ _ _ => lN')
          exact EltEnd.intro lF' lN' (fun p hp => hp) (by rw [hm3]; exact J2.next hJ2 hj2 hn hdn)
        case done2 =>
          intro ys3 nx3 mC3 h5 g5 tk5 oC5 hgk4 hJ3 hO5 F5 N5 off5
          rw [aW.length] at hJ3
          have hJ4 := hJ3.1
          (change (let G9 : Prop := _; G9)); intro G9
          subst hJ4
          unfold G9; (try clear G9)
          exact hPost _ (TEnd.intro (nx := nx) (ys := ys3) (fun z9 => hgk4 (hgk3 z9)) F5 (nsub N5 (subs_cons (.tail _ (.tail _ (.head _))) (subs_cons (.head _) (subs_cons (.tail _ (.head _)) (fun p hp => .tail _ (.tail _ (.tail _ (.tail _ hp)))))))) hO5 off ⟨hnx, (J2.fin (W' := nx) (mC' := mC3) hJ3 hr4).2⟩)
      case done =>
        intro D ys nx mC h g tk hgk3 hJ F' N' hD
        (change (let G9 : Prop := _; G9)); intro G9
        obtain ⟨rfl, hI, hyl⟩ := hJ
        unfold G9; (try clear G9)
        have N7 := show News _ _ _ ((D, listOf ys.toArray ys.length) :: _) from N'
        have hys : ys.length ≤ 20000 := by omega
        have hd1 : @Ne Nat (L' + 1 + 1) D := hD _ (.tail _ (.tail _ (.tail _ (.tail _ (.tail _ (.head _))))))
        have hd2 : @Ne Nat (L' + 1) D := hD _ (.tail _ (.tail _ (.tail _ (.tail _ (.tail _ (.tail _ (.head _)))))))
        clear lF' lN' N'
        k_steps
        refine hold_in ?_
        (rename Fr _ _ _ _ => lF'); (rename News _ _ _ _ => lN')
        refine kso_sorted lF' lN' (News.isList lN' (by k_mem)) hI0 (by simp; omega) ?_
        intro wS wsv ws wc h' F' N' l1 iS hwl pS sS _
        k_lt l1
        have phT := PhaseT.mk
        (change (let G9 : Prop := _; G9)); intro G9
        obtain ⟨w0, w1, w2, w3, t0, t1, t2, t3, rfl, rfl⟩ := ints4w iS (by rw [hwl]; simp; omega)
        unfold G9; (try clear G9)
        clear lF' lN'
        k_steps
        refine hold_in ?_
        k_dflt (refine ListComp_M (by k_asm) (by with_unfolding_all rfl) (by decide) (by rfl) (by decide) (fun C I D => looping_last rfl rfl) ?_)
        k_steps
        (rename Fr _ _ _ _ => lF'); (rename News _ _ _ _ => lN'); (rename IsRange _ _ _ _ _ _ _ _ => rgX)
        k_dflt (refine SrcM.intro (n := 3) (dep := []) (J3 _ [w0, w1, w2, w3]) (iter_range rfl rgX ⟨by omega, by omega, by omega, by omega⟩ (by omega)) lF' lN' (by simp) (fun mC => ⟨rfl, .nil, rfl⟩) ?turn ?done)
        case turn =>
          intro C D2 i v ys2 nx mC h g tk oC I oI E' Post hgk3 hi hP hJ hO F' N' off hne hPost
          (change (let G9 : Prop := _; G9)); intro G9
          obtain ⟨t, rfl⟩ := hP
          unfold G9; (try clear G9)
          (change (let G9 : Prop := _; G9)); intro G9
          obtain ⟨hnx, hI3, hyl3⟩ := id hJ
          unfold G9; (try clear G9)
          rw [Int.zero_add]
          refine assign_nm rfl rfl hO F' N' off hne ?_
          intro h2 tk2 oC2 hO2 F2 N2
          (change (let G9 : Prop := _; G9)); intro G9
          obtain ⟨m2, hm2, hk2⟩ : ∃ m2 : Str → Option Value, m2 = (fun y => if y = Str.ofString "k" then some (.int (i : Int) t) else mC y) ∧ m2 (Str.ofString "k") = some (.int (i : Int) t) := ⟨_, rfl, by simp⟩
          unfold G9; (try clear G9)
          rw [← hm2] at hO2
          have hsz9 : ys2.length ≤ sizeLine := by
            have h1 : ys2.length = i := hyl3
            rw [sizeLine_eq]; omega
          refine emit_ok hO2 off hne hsz9 hPost ⟨_, _, _, rfl, hgk3⟩ ?_
          clear lF' lN' F' N' hO
          rw [hnx] at N2
          k_steps
          (rename Fr _ _ _ _ => lF'); (rename News _ _ _ _ => lN')
          rw [← hnx] at lN'
          exact EltEnd.intro lF' lN' (fun p hp => hp) (J3.next hJ)
        case done =>
          intro D2 ys2 nx mC h g tk hgk5 hJ F' N' hD2
          (change (let G9 : Prop := _; G9)); intro G9
          obtain ⟨rfl, hI3, hyl3⟩ := hJ
          unfold G9; (try clear G9)
          (change (let G9 : Prop := _; G9)); intro G9
          obtain ⟨t4, t5, t6, rfl⟩ := ints3w hI3
          unfold G9; (try clear G9)
          have N8 := show News _ _ _ ((D2, listOf (List.toArray _) 3) :: _) from N'
          clear lF' lN' N'
          k_steps
          (rename News h₀ L _ _ => kN9); (rename Fr h₀ L _ _ => kF9); (rename IntsAre _ (_ ++ _) => hres9)
          have hrw : rows = rowsF (2 * z) (2 * low.fmod z) (digsF ms low (hi9 - low + 1).toNat) := by rw [hrows]; unfold rowsF; rw [← hRun2]
          have hT : turnS z ms low hi9 = ((rowL rows rv.length).sum.fmod 4).toNat := by unfold turnS; rw [← hrw, ← hvl2]
          refine hret _ _ _ [w0, w1, w2, w3] low hi9 ps1' ps2' _ _ _ (by first | exact fun z9 => z9 | (intro z9; (repeat (first | exact z9 | apply_assumption)); done)) kF9 (nsub kN9 (subs_cons (by k_mem) (subs_cons (by k_mem) (subs_cons (by k_mem) (subs_cons (by k_mem) (fun p9 hp9 => by k_mem)))))) (by omega) (by omega) (fun p hp => Nat.lt_trans (hrl p hp) (by omega)) ht1' ht2' hlow9 (by assumption) hx1 hx2 pS sS ?_
          rw [hT]
          exact hres9
  run_tac fin
end
end
section
theorem fresh_L1 : True := by w_top off; exact True.intro
set_option maxHeartbeats 40000000
inductive PhaseQ2 : Prop where
  | mk : PhaseQ2
inductive PhaseR : Prop where
  | mk : PhaseR
inductive PhaseN : Prop where
  | mk : PhaseN
theorem le63 {n : Nat} (h : ¬ (((63 : Nat) : Int) < (n : Int))) : n ≤ 63 := by omega
inductive PhaseL : Prop where
  | mk : PhaseL
theorem rows_L1_0 : True := by
  k_with_none
  k_with "binaryOp Mult int int" => (k_here; (first | refine mulR (by omega) (by omega) ?_ | refine mulL (by omega) (by omega) ?_); intro tQq7 tkQq7; run_tac hq)
  k_with "call ref" => (k_here; (with_reducible show wpAny _ _ (call (Value.ref 281) _) _ _ _); k_dflt (refine' rings_spec ?k1 ?k2 ?k3 ?k4 ?k5 ?k6 ?k7 ?k8 ?p1 ?p2 ?p3 ?_; (case k1 => k_asm); (case k2 => k_asm); (case k3 => k_asm); (case k4 => k_asm); (case k5 => k_asm); (case k6 => first | rfl | assumption); (case k7 => first | decide | ktr_room); (case k8 => first | decide | ktr_units); (case p1 => assumption); (case p2 => assumption); (case p3 => assumption); k_whole); intro x4Qq7 y4Qq7 z4Qq7 a40Qq7 a41Qq7 a42Qq7 b40Qq7 b41Qq7 b42Qq7 t40Qq7 t41Qq7 t42Qq7 t43Qq7 t44Qq7 t45Qq7 hQq7 tkQq7 FQq7 NQq7 th0Qq7 th1Qq7 th2Qq7 th3Qq7 th4Qq7 th5Qq7 l1Qq7 l2Qq7 l3Qq7; (try k_lt l3Qq7); (try k_lt2 l2Qq7); (try k_lt2 l1Qq7); (try k_sweep); run_tac hq)
  k_with "call ref" => (k_here; (with_reducible show wpAny _ _ (call (Value.ref 286) _) _ _ _); k_dflt (refine' play_spec ?k1 ?k2 ?k3 ?k4 ?k5 ?k6 ?k7 ?k8 ?p1 ?p2 ?p3 ?p4 ?p5 ?p6 ?p7 ?_; (case k1 => k_asm); (case k2 => k_asm); (case k3 => k_asm); (case k4 => k_asm); (case k5 => k_asm); (case k6 => first | rfl | assumption); (case k7 => first | decide | ktr_room); (case k8 => first | decide | ktr_units); (case p1 => k_mem); (case p2 => k_mem); (case p3 => assumption); (case p4 => omega); (case p5 => omega); (case p6 => omega); (case p7 => omega); k_whole); intro x5Qq7 D5Qq7 n5Qq7 r50Qq7 r51Qq7 r52Qq7 r53Qq7 t50Qq7 u50Qq7 u51Qq7 u52Qq7 u53Qq7 hQq7 tkQq7 FQq7 NQq7 hendQq7 l1Qq7 l2Qq7; (try k_lt l2Qq7); (try k_lt2 l1Qq7); (try k_sweep); run_tac hq)
  k_with "call ref" => (k_here; (with_reducible show wpAny _ _ (call (Value.ref 298) _) _ _ _); k_dflt (refine' lead_spec ?k1 ?k2 ?k3 ?k4 ?k5 ?k6 ?k7 ?k8 ?p1 ?p2 ?p3 ?p4 ?_; (case k1 => k_asm); (case k2 => k_asm); (case k3 => k_asm); (case k4 => k_asm); (case k5 => k_asm); (case k6 => first | rfl | assumption); (case k7 => first | decide | ktr_room); (case k8 => first | decide | ktr_units); (case p1 => k_mem); (case p2 => assumption); (case p3 => rfl); (case p4 => assumption); k_whole); intro x6Qq7 dx6Qq7 tn6Qq7 tc6Qq7 vs6Qq7 ns6Qq7 b6Qq7 n6Qq7 nt6Qq7 raw6Qq7 rt6Qq7 g61Qq7 g62Qq7 g63Qq7 g64Qq7 g65Qq7 k61Qq7 k62Qq7 k63Qq7 k64Qq7 k65Qq7 q62Qq7 q63Qq7 q65Qq7 hQq7 tkQq7 FQq7 NQq7 hI6Qq7 hrun6Qq7 l1Qq7 l2Qq7 l3Qq7 l4Qq7; (try k_lt2 l1Qq7); (try k_sweep); run_tac hq)
  k_with "call ref" => (k_here; (with_reducible show wpAny _ _ (call (Value.ref 80) _) _ _ _); k_dflt (refine' nle_spec ?k1 ?k2 ?k3 ?k4 ?k5 ?k6 ?k7 ?k8 ?p1 ?p2 ?p3 ?p4 ?p5 ?p6 ?p7 ?p8 ?p9 ?p10 ?p11 ?p12 ?p13 ?p14 ?p15 ?p16 ?_; (case k1 => k_asm); (case k2 => k_asm); (case k3 => k_asm); (case k4 => k_asm); (case k5 => k_asm); (case k6 => first | rfl | assumption); (case k7 => first | decide | ktr_room); (case k8 => first | decide | ktr_units); (case p1 => k_mem); (case p2 => k_mem); (case p3 => k_mem); (case p4 => k_mem); (case p5 => assumption); (case p6 => assumption); (case p7 => k_mem); (case p8 => k_mem); (case p9 => k_mem); (case p10 => k_mem); (case p11 => assumption); (case p12 => assumption); (case p13 => assumption); (case p14 => assumption); (case p15 => assumption); (case p16 => assumption); k_whole); intro l8Qq7 vs8Qq7 k8Qq7 tl8Qq7 hQq7 tkQq7 hd8Qq7 hn8Qq7 hn9Qq7 hn10Qq7 FQq7 NQq7; (try k_sweep); run_tac hq)
  k_with "call ref" => (k_here; (with_reducible show wpAny _ _ (call (Value.ref 66) _) _ _ _); k_dflt (refine' neq_spec ?k1 ?k2 ?k3 ?k4 ?k5 ?k6 ?k7 ?k8 ?p1 ?p2 ?p3 ?p4 ?p5 ?p6 ?p7 ?p8 ?p9 ?p10 ?p11 ?p12 ?p13 ?p14 ?p15 ?p16 ?_; (case k1 => k_asm); (case k2 => k_asm); (case k3 => k_asm); (case k4 => k_asm); (case k5 => k_asm); (case k6 => first | rfl | assumption); (case k7 => first | decide | ktr_room); (case k8 => first | decide | ktr_units); (case p1 => k_mem); (case p2 => k_mem); (case p3 => k_mem); (case p4 => k_mem); (case p5 => assumption); (case p6 => assumption); (case p7 => k_mem); (case p8 => k_mem); (case p9 => k_mem); (case p10 => k_mem); (case p11 => assumption); (case p12 => assumption); (case p13 => assumption); (case p14 => assumption); (case p15 => assumption); (case p16 => assumption); k_whole); intro l8Qq7 vs8Qq7 k8Qq7 tl8Qq7 hQq7 tkQq7 hd8Qq7 hn8Qq7 hn9Qq7 hn10Qq7 FQq7 NQq7; (try k_sweep); run_tac hq)
  k_with "call ref" => (k_here; (with_reducible show wpAny _ _ (call (Value.ref 73) _) _ _ _); k_dflt (refine' less_spec ?k1 ?k2 ?k3 ?k4 ?k5 ?k6 ?k7 ?k8 ?p1 ?p2 ?p3 ?p4 ?p5 ?p6 ?p7 ?p8 ?p9 ?p10 ?p11 ?p12 ?p13 ?p14 ?p15 ?p16 ?_; (case k1 => k_asm); (case k2 => k_asm); (case k3 => k_asm); (case k4 => k_asm); (case k5 => k_asm); (case k6 => first | rfl | assumption); (case k7 => first | decide | ktr_room); (case k8 => first | decide | ktr_units); (case p1 => k_mem); (case p2 => k_mem); (case p3 => k_mem); (case p4 => k_mem); (case p5 => assumption); (case p6 => assumption); (case p7 => k_mem); (case p8 => k_mem); (case p9 => k_mem); (case p10 => k_mem); (case p11 => assumption); (case p12 => assumption); (case p13 => assumption); (case p14 => assumption); (case p15 => assumption); (case p16 => assumption); k_whole); intro r8Qq7 hQq7 tkQq7 hr8Qq7 FQq7 NQq7; (try k_sweep); run_tac hq)
  k_with "call ref" => (k_here; (with_reducible show wpAny _ _ (call (Value.ref 59) _) _ _ _); k_dflt (refine' equal_spec ?k1 ?k2 ?k3 ?k4 ?k5 ?k6 ?k7 ?k8 ?p1 ?p2 ?p3 ?p4 ?p5 ?p6 ?p7 ?p8 ?p9 ?p10 ?p11 ?p12 ?_; (case k1 => k_asm); (case k2 => k_asm); (case k3 => k_asm); (case k4 => k_asm); (case k5 => k_asm); (case k6 => first | rfl | assumption); (case k7 => first | decide | ktr_room); (case k8 => first | decide | ktr_units); (case p1 => k_mem); (case p2 => k_mem); (case p3 => k_mem); (case p4 => k_mem); (case p5 => assumption); (case p6 => assumption); (case p7 => k_mem); (case p8 => k_mem); (case p9 => k_mem); (case p10 => k_mem); (case p11 => assumption); (case p12 => assumption); k_whole); intro r8Qq7 hQq7 tkQq7 hr8Qq7 FQq7 NQq7; (try k_sweep); run_tac hq)
  k_with "call builtin:max" => refine hold_out ?_
  k_with "exec For Name Call" => refine hold_out ?_
  k_with "binaryOp Add ref ref" => refine hold_out ?_
  k_with "call builtin:abs" => (k_here; k_dflt (refine' absB ?k1 ?_; (case k1 => assumption); k_whole); intro rQq7 tQq7 tkQq7 haQq7 hlQq7 hhQq7; run_tac hq)
  k_with "eval ListComp" => ((with_reducible show wpAny _ _ (eval (PySem.Expr.ListComp _ (_ :: _ :: _) _ _) _) _ _ _); refine hold_out ?_)
  k_with "CompEnd" => ((fail_if_success (fail_if_success (have : PhaseL := by assumption))); k_here; k_dflt (refine end_gen (by k_asm) (by k_asm) (by assumption) (by lcg_src) ?_))
  k_with "exec Return some" => ((fail_if_success (fail_if_success (have : PhaseN := by assumption))); refine hold_out ?_)
  k_with "CompEnd" => ((fail_if_success (fail_if_success (have : PhaseR := by assumption))); refine hold_out ?_)
  k_with "CompSrcT" => ((fail_if_success (fail_if_success (have : PhaseR := by assumption))); refine hold_out ?_)
  k_with "eval ListComp" => ((fail_if_success (fail_if_success (have : PhaseR := by assumption))); (with_reducible show wpAny _ _ (eval (PySem.Expr.ListComp (PySem.Expr.Name _ _) _ _ _) _) _ _ _); refine hold_out ?_)
  k_with "compareOp Eq ref ref" => ((fail_if_success (fail_if_success (have : PhaseR := by assumption))); refine hold_out ?_)
  k_with "compareOp Is bool bool" => ((fail_if_success (fail_if_success (have : PhaseR := by assumption))); refine hold_out ?_)
  k_with "eval ListComp" => ((fail_if_success (fail_if_success (have : PhaseL := by assumption))); (with_reducible show wpAny _ _ (eval (PySem.Expr.ListComp (PySem.Expr.Call _ _ _ _) _ _ _) _) _ _ _); refine hold_out ?_)
  k_with "compareOp NotEq ref ref" => refine hold_out ?_
  k_with "call builtin:list.append" => refine hold_out ?_
  k_with "exec Assign cons ListComp" => ((with_reducible show wpAny _ _ (exec (PySem.Stmt.Assign _ (PySem.Expr.ListComp (PySem.Expr.Tuple _ _ _) _ _ _) _) _) _ _ _); refine hold_out ?_)
  k_with "CompEnd" => ((with_reducible show LCg.CompEnd _ _ _ _ _ _ _ _ _ _ _ _ _ _); (fail_if_success (fail_if_success (have : PhaseN := by assumption))); refine hold_out ?_)
  k_with "PostC" => (dsimp only [PostC])
  k_with "subscriptTail Name Constant ref int" => ((fail_if_success (fail_if_success (have : PhaseR := by assumption))); k_here; (first | ((with_reducible show wpAny _ _ (subscriptTail _ _ (Value.ref _) (Value.int 1 _)) _ _ _); k_dflt (refine row_item1 (by k_asm) (by k_mem) ?_)) | ((with_reducible show wpAny _ _ (subscriptTail _ _ (Value.ref _) (Value.int 2 _)) _ _ _); k_dflt (refine row_item2 (by k_asm) (by k_mem) ?_))))
  k_with "subscriptTail Name Constant ref int" => ((fail_if_success (fail_if_success (have : PhaseQ2 := by assumption))); k_here; (first | ((with_reducible show wpAny _ _ (subscriptTail _ _ (Value.ref _) (Value.int 0 _)) _ _ _); k_dflt (refine lst2_item0 (by k_asm) (by with_reducible (repeat (first | exact List.mem_cons_self | assumption | refine List.mem_cons_of_mem _ ?_))) ?_)) | ((with_reducible show wpAny _ _ (subscriptTail _ _ (Value.ref _) (Value.int 1 _)) _ _ _); k_dflt (refine lst2_item1 (by k_asm) (by with_reducible (repeat (first | exact List.mem_cons_self | assumption | refine List.mem_cons_of_mem _ ?_))) ?_))))
  k_with "subscriptTail" => ((fail_if_success (fail_if_success (have : PhaseQ2 := by assumption))); k_here; (with_reducible show wpAny _ _ (subscriptTail _ _ (Value.ref _) (Value.int _ _)) _ _ _); k_dflt (refine tup2_item0 (by k_asm) (by with_reducible (repeat (first | exact List.mem_cons_self | assumption | refine List.mem_cons_of_mem _ ?_))) ?_))
  k_with "eval Name" => (k_here; (with_reducible show wpAny _ _ (eval (PySem.Expr.Name _ _) (compEnvC _ _ _ _)) _ _ _); k_dflt (refine LCgL.ld_own (by k_asm) (by k_mem) (by with_reducible assumption) (by with_reducible assumption) ?_))
  k_with "newList" => (k_here; k_dflt (refine' newList_K ?k1 ?k2 ?_ (hsz := ?k3); (case k1 => k_asm); (case k2 => k_asm); (case k3 => first | exact Nat.le_of_ble_eq_true rfl | size_fits); k_whole); intro lQq7 hQq7 FQq7 NQq7 l1Qq7; (try k_lt l1Qq7); (try k_sweep); run_tac hq)
  k_with "SrcLP" => (k_here; k_dflt (refine LCp.SrcLP.ledger (by rfl) (by k_asm) (by k_asm) (by k_mem) (by first | exact Nat.le_of_ble_eq_true rfl | size_fits) ?_); intro gQq7; lcp_lit; run_tac hq)
  k_with "CompSrc" => (k_here; k_dflt (refine LCg.CompSrc.ledger (by rfl) (by k_asm) (by k_asm) (by k_mem) (by first | exact Nat.le_of_ble_eq_true rfl | size_fits) ?_); intro gQq7; lcg_lit; run_tac hq)
  k_with "call ref" => ((with_reducible show wpAny _ _ (call (Value.ref 291) _) _ _ _); refine hold_out ?_)
  exact True.intro
theorem law_holds0 : PySem.Challenge.rw_rl0132_01.Holds := by
  refine hd ?_
  w_strict (
    k_fill
    intro w s₀ s₁ mg mb G Y fa o pm cd doc dV kV ho hd0 hcd hD hmg hg args vals as hpre hlay hrd hwl hlo
    revert G Y ho hd0 hcd hD hmg hg hpre hlay hrd hwl hlo
    revert w s₀ s₁ mg mb fa o pm cd doc dV kV args vals as
    refine (?zh : ∀ w s₀ s₁ mg mb fa o pm cd doc dV kV args vals as, (?zP : _ → _ → _ → _ → _ → _ → _ → _ → _ → _ → _ → _ → _ → _ → _ → Prop) w s₀ s₁ mg mb fa o pm cd doc dV kV args vals as)
    refine fun w s₀ s₁ mg mb fa o pm cd doc dV kV args vals as => allE (P := un2 fun w => un2 fun s₀ => un2 fun s₁ => un2 fun mg => un2 fun mb => un2 fun fa => un2 fun o => un2 fun pm => un2 fun cd => un2 fun doc => un2 fun dV => un2 fun kV => un2 fun args => un2 fun vals as => ?zP w s₀ s₁ mg mb fa o pm cd doc dV kV args vals as) ?zn ?zk (w, s₀, s₁, mg, mb, fa, o, pm, cd, doc, dV, kV, args, vals, as)
    case zn => walk_at "ne"
    clear w s₀ s₁ mg mb fa o pm cd doc dV kV args vals as
    refine (?zj : AtE _ ?zE)
    refine (?zF : ∀ w s₀ s₁ mg mb fa o pm cd doc dV kV args vals as, ?zP w s₀ s₁ mg mb fa o pm cd doc dV kV args vals as) ?zE.1 ?zE.2.1 ?zE.2.2.1 ?zE.2.2.2.1 ?zE.2.2.2.2.1 ?zE.2.2.2.2.2.1 ?zE.2.2.2.2.2.2.1 ?zE.2.2.2.2.2.2.2.1 ?zE.2.2.2.2.2.2.2.2.1 ?zE.2.2.2.2.2.2.2.2.2.1 ?zE.2.2.2.2.2.2.2.2.2.2.1 ?zE.2.2.2.2.2.2.2.2.2.2.2.1 ?zE.2.2.2.2.2.2.2.2.2.2.2.2.1 ?zE.2.2.2.2.2.2.2.2.2.2.2.2.2.1 ?zE.2.2.2.2.2.2.2.2.2.2.2.2.2.2
    intros w s₀ s₁ mg mb fa o pm cd doc dV kV args vals as
    intro G Y ho hd0 hcd hD hmg hg hpre hlay hrd hwl hlo
    have KX := km_in_of Y
    have hT8 := km_tabs_of Y
    have X := (Ground.X G).1
    have V := (Ground.X G).2
    refine Ground.open G ?_
    intro T B D TE TW
    try (refine guard_noD D (by decide +kernel) ?_; clear D)
    have hT9 : TabsAt ([(238, 234), (245, 241)] : List (Addr × Addr)) _ := List.forall_mem_cons.mpr ⟨⟨codeHd_of_K (c := 238) (P := 234) KX (by kernel_rfl), hT8 234 (by k_mem)⟩, List.forall_mem_cons.mpr ⟨⟨codeHd_of_K (c := 245) (P := 241) KX (by kernel_rfl), hT8 241 (by k_mem)⟩, fun _ h => nomatch h⟩⟩
    clear hmg
    wrow_args hpre hlay hrd hwl hlo
    all_goals (
      first | refine callC_kw (enter_call ?_) | refine enter_call ?_
      w_top on
      refine post_true hT9 (fun _ => rfl) (by first | rfl | wrow_post) ?_
      w_call any ho hd0 hcd hD T F
      clear hd0
      kn_ghosts F T
      k_drop
      skip)
    (all_goals try k_fold)
    (rename ¬ _ < _ => hc63)
    have hln63 := le63 hc63
    have hgA : AllBare s₁.gens := AllBare.of_eq hg
    clear hD hcd
    (rename CellsAre _ _ _ => hX0); clear hX0
    (rename _ = Data.cell _ => hc2); revert hc2; (rename _ = Data.cell _ => hc1); intro hc2
    have hcz : _ = Data.cell none := hc1
    have hcs : _ = Data.cell (some (Value.ref _)) := hc2
    clear hc1 hc2
    (rename Fr _ _ _ _ => F0); obtain ⟨u0, F00⟩ : ∃ u, Fr _ _ _ u := ⟨_, F0⟩; clear F0
    k_steps
    refine hold_in ?_
    (rename Fr _ _ _ _ => lF'); (rename News _ _ _ _ => lN')
    rename_i x1 y1 z1 a b c a' b' c' _ _ _ _ _ _ _ _ _ _ _ _ _ _ _ _ _ _ _ _ _ _ _ _ _ _ _ _ _ _ _ _ _ _ _ _ _ _ _ m1 _ _ _ _ _ _ _ _ _ _ _ _ _ _ _ _ _ _ _ _ _ _ m2 _ _ D1 _ _ _ l1 _ _
    (change (let G9 : Prop := _; G9)); intro G9
    obtain ⟨V1, V2, hV1, hV2, lN2⟩ := law_open lN'
    unfold G9; (try clear G9)
    clear lN'
    k_dflt (refine ListComp_M (by k_asm) (by with_unfolding_all rfl) (by decide) (by rfl) (by decide) (fun C I D => looping_mid rfl rfl) ?_)
    k_steps
    (rename Fr _ _ _ _ => lF'); (rename News _ _ _ _ => lN')
    k_dflt (refine SrcM.intro (K1 _ [marksT a b c, marksT a' b' c']) (iter_list rfl lN' (.tail _ (.head _))) lF' lN' ?dep (fun mC => ⟨rfl, .nil, by simp⟩) ?turn ?done)
    case dep =>
      intro p hp _ _ _ _ hJ
      rw [List.mem_singleton.mp hp, hJ.1]
      exact .tail _ (.head _)
    case turn =>
      intro C D i v ys nx mC h g tk oC I oI E' Post hgk1 hi hP hJ hO F' N' off hne hPost
      (change (let G9 : Prop := _; G9)); intro G9
      obtain ⟨hnx, hI, hyl⟩ := hJ
      unfold G9; (try clear G9)
      (change (let G9 : Prop := _; G9)); intro G9
      obtain ⟨r, V, row, hn9, rfl, hrm, hrV, hrl, hd3⟩ := row_at (nx := nx) hP (by rw [hnx]; exact .tail _ (.tail _ (.head _))) (by rw [hnx]; exact .tail _ (.tail _ (.tail _ (.head _)))) hV1 hV2 rfl rfl (nine_marks (by assumption) (by assumption) (by assumption)) (nine_marks (by assumption) (by assumption) (by assumption))
      unfold G9; (try clear G9)
      refine assign_nm rfl rfl hO F' N' off hne ?_
      intro h2 tk2 oC2 hO2 F2 N2
      (change (let G9 : Prop := _; G9)); intro G9
      obtain ⟨mm, hm2, hk2⟩ : ∃ mm : Str → Option Value, mm = (fun y => if y = Str.ofString "row" then some (.ref r) else mC y) ∧ mm (Str.ofString "row") = some (.ref r) := ⟨_, rfl, by simp⟩
      unfold G9; (try clear G9)
      rw [← hm2] at hO2
      unfold InnerMid
      k_steps
      have offI : ∀ p ∈ (I, oI) :: nx, p.1 ≠ C ∧ p.1 ≠ D := by
        intro p hp
        rcases List.mem_cons.mp hp with rfl | hp
        · exact ⟨hne.1, hne.2.1⟩
        · exact (off p hp).2
      k_dflt (refine mid_go rfl (fun I => looping_mid rfl rfl) (iter_list rfl N2 (.tail _ (.tail _ (.tail _ hrm)))) (K2 ((I, oI) :: nx) [marksT a b c, marksT a' b' c'] i row r) F2 (nsub N2 ?sub) hO2 offI hne.2.2 ?dep ⟨rfl, by simpa [dist2] using hI, by omega, hk2⟩ ?turn2 ?done2)
      case sub => exact subs_cons (.tail _ (.head _)) (subs_cons (.tail _ (.tail _ (.head _))) (subs_cons (.head _) (fun p hp => .tail _ (.tail _ (.tail _ hp)))))
      case dep =>
        intro p hp _ _ _ _ hJ
        rw [List.mem_singleton.mp hp, hJ.1]
        exact .tail _ hrm
      case turn2 =>
        intro j v2 ys2 nx2 mC2 h3 g3 tk3 oC3 I2 oI2 E2 Post2 hgk2 hj hP2 hJ2 hO3 F3 N3 off3 hne3 hPost2
        (change (let G9 : Prop := _; G9)); intro G9
        obtain ⟨hj2, t2, rfl⟩ := ints_at hrV hP2
        unfold G9; (try clear G9)
        (change (let G9 : Prop := _; G9)); intro G9
        obtain ⟨hnx2, hI2, hyl2, hk3⟩ := id hJ2
        unfold G9; (try clear G9)
        refine assign_nm rfl rfl hO3 F3 N3 off3 hne3 ?_
        intro h4 tk4 oC4 hO4 F4 N4
        (change (let G9 : Prop := _; G9)); intro G9
        obtain ⟨m3, hm3, hs3, hk4⟩ : ∃ m3 : Str → Option Value, m3 = (fun y => if y = Str.ofString "one" then some (.int (row.getD j 0) t2) else mC2 y) ∧ m3 (Str.ofString "one") = some (.int (row.getD j 0) t2) ∧ m3 (Str.ofString "row") = some (.ref r) := ⟨_, rfl, by simp, (if_neg (by decide)).trans hk3⟩
        unfold G9; (try clear G9)
        rw [← hm3] at hO4
        unfold InnerMid
        k_steps
        have offI3 : ∀ p ∈ (I2, oI2) :: nx2, p.1 ≠ C ∧ p.1 ≠ D := by
          intro p hp
          rcases List.mem_cons.mp hp with rfl | hp
          · exact ⟨hne3.1, hne3.2.1⟩
          · exact (off3 p hp).2
        have hrm2 : (r, listOf (List.toArray V) 0) ∈ nx2 := by rw [hnx2]; exact .tail _ hrm
        k_dflt (refine mid_go rfl (fun I => looping_last rfl rfl) (iter_list rfl N4 (.tail _ (.tail _ (.tail _ hrm2)))) (K3 ((I2, oI2) :: nx2) [marksT a b c, marksT a' b' c'] i row j (row.getD j 0) t2 r) F4 (nsub N4 ?sub3) hO4 offI3 hne3.2.2 ?dep3 ⟨rfl, by simpa [dist1] using hI2, by omega, hk4, hs3⟩ ?turn3 ?done3)
        case sub3 => exact subs_cons (.tail _ (.head _)) (subs_cons (.tail _ (.tail _ (.head _))) (subs_cons (.head _) (fun p hp => .tail _ (.tail _ (.tail _ hp)))))
        case dep3 =>
          intro p hp _ _ _ _ hJ
          rw [List.mem_singleton.mp hp, hJ.1]
          exact .tail _ hrm2
        case turn3 =>
          intro k v3 ys3 nx3 mC3 h5 g5 tk5 oC5 I3 oI3 E3 Post3 hgk3 hk hP3 hJ3 hO5 F5 N5 off5 hne5 hPost3
          (change (let G9 : Prop := _; G9)); intro G9
          obtain ⟨hk9, t3, rfl⟩ := ints_at hrV hP3
          unfold G9; (try clear G9)
          (change (let G9 : Prop := _; G9)); intro G9
          obtain ⟨hnx3, hI3, hyl3, hq1, hq2⟩ := id hJ3
          unfold G9; (try clear G9)
          refine assign_nm rfl rfl hO5 F5 N5 off5 hne5 ?_
          intro h6 tk6 oC6 hO6 F6 N6
          (change (let G9 : Prop := _; G9)); intro G9
          obtain ⟨m4, hm4, hs4, hs5⟩ : ∃ m4 : Str → Option Value, m4 = (fun y => if y = Str.ofString "other" then some (.int (row.getD k 0) t3) else mC3 y) ∧ m4 (Str.ofString "other") = some (.int (row.getD k 0) t3) ∧ m4 (Str.ofString "one") = some (.int (row.getD j 0) t2) := ⟨_, rfl, by simp, (if_neg (by decide)).trans hq2⟩
          unfold G9; (try clear G9)
          rw [← hm4] at hO6
          have hsz9 : ys3.length ≤ sizeLine := by
            have e1 : ys3.length ≤ 16 * i + 4 * j + k := hyl3
            have e2 : i < 2 := hi
            rw [sizeLine_eq]; omega
          refine emit_ok hO6 off5 hne5 hsz9 hPost3 ⟨_, _, _, rfl, hgk3⟩ ?_
          have hn91 := hn9 j k
          k_steps
          (rename Fr _ _ _ _ => lF'); (rename News _ _ _ _ => lN'); (rename AbsIs _ _ => hab9)
          rw [hm4] at *
          (change (let G9 : Prop := _; G9)); intro G9
          subst hnx3
          unfold G9; (try clear G9)
          exact EltEnd.intro lF' lN' (fun p hp => hp) (K3.next hJ3 hk9 rfl hab9 (if_neg (by decide)) (if_neg (by decide)))
        case done3 =>
          intro ys5 nx5 mC5 h7 g7 tk7 oC7 hgk5 hJ5 hO7 F7 N7 off7
          rw [hrV.length] at hJ5
          have hJ6 := hJ5.1
          (change (let G9 : Prop := _; G9)); intro G9
          subst hJ6
          unfold G9; (try clear G9)
          (change (let G9 : Prop := _; G9)); intro G9
          subst hnx2
          unfold G9; (try clear G9)
          exact hPost2 _ (TEnd.intro (ys := ys5) (fun z9 => hgk5 (hgk2 z9)) F7 (nsub N7 (subs_cons (.tail _ (.tail _ (.head _))) (subs_cons (.head _) (subs_cons (.tail _ (.head _)) (fun p hp => .tail _ (.tail _ (.tail _ hp))))))) hO7 off3 (K3.fin hJ5 hrl hj2 rfl))
      case done2 =>
        intro ys5 nx5 mC5 h7 g7 tk7 oC7 hgk5 hJ5 hO7 F7 N7 off7
        rw [hrV.length] at hJ5
        have hJ6 := hJ5.1
        (change (let G9 : Prop := _; G9)); intro G9
        subst hJ6
        unfold G9; (try clear G9)
        exact hPost _ (TEnd.intro (nx := nx) (ys := ys5) (fun z9 => hgk5 (hgk1 z9)) F7 (nsub N7 (subs_cons (.tail _ (.tail _ (.head _))) (subs_cons (.head _) (subs_cons (.tail _ (.head _)) (fun p hp => .tail _ (.tail _ (.tail _ hp))))))) hO7 off ⟨hnx, (K2.fin (W' := nx) (mC' := mC5) hJ5 hrl hd3).2⟩)
    case done =>
      intro D ys nx mC h g tk hgk0 hJ F' N' hD
      have hgb0 := hgk0 hgA
      clear hgk0
      (change (let G9 : Prop := _; G9)); intro G9
      obtain ⟨hnx, hI, hyl⟩ := hJ
      unfold G9; (try clear G9)
      (change (let G9 : Prop := _; G9)); intro G9
      subst hnx
      unfold G9; (try clear G9)
      have hyl9 : ys.length ≤ 32 := hyl
      have N7 := show News _ _ _ ((D, listOf (List.toArray ys) ys.length) :: _) from N'
      k_steps
      refine hold_in ?_
      refine kmk_add_ints F' N7 (News.isList N7 (.tail _ (.head _))) (News.isList N7 (.head _)) (.cons 1 _ .nil) hI ?_ (by rw [← hI.length, sizeLine_eq]; simp only [List.length_cons, List.length_nil]; omega)
      intro D3 us h' F9 N9 l1' hI9
      k_lt l1'
      clear lF' lN' N' F' N7
      k_steps
      refine hold_in ?_
      refine max_N rfl F9 N9 (.head _) hI9 (by simp) ?_
      intro h4 top tt tk4 F4 N4 htop1 htop2
      clear F9 N9
      k_steps
      refine hold_in ?_
      (rename Fr _ _ _ _ => lF'); (rename News _ _ _ _ => lN')
      (change (let G9 : Prop := _; G9)); intro G9
      obtain ⟨base9, hbase9, lN3⟩ := law_base lN'
      unfold G9; (try clear G9)
      have lF3 := fr_law lF'
      (rename @LT.lt Nat _ D3 _ ∧ _ => hlL); (rename @Ne Nat m2 D1 ∧ _ => hoD); (rename @LT.lt Nat _ _ y1 ∧ _ => hly); (rename @LT.lt Nat _ z1 x1 => hzx); (rename @LT.lt Nat _ y1 z1 => hyz); (rename @LT.lt Nat _ _ m1 ∧ _ => hlm1); (rename @LT.lt Nat _ _ m2 ∧ _ => hlm2); (rename @LT.lt Nat _ 234 _ ∧ _ => hl0)
      (change (let G9 : Prop := _; G9)); intro G9
      obtain ⟨hB1, hB2, hB3, hB4⟩ := law_nes (ol := listOf #[] 0) (oA := tabObj #[]) (oB := tabObj #[]) hlL hoD hly hzx hyz hlm1 hlm2 hl0
      unfold G9; (try clear G9)
      rw [← hbase9] at hB1 hB2
      clear lN' lF'
      have hT9 := dist_bd (by assumption) (by assumption) (by assumption) (by assumption) (by assumption) (by assumption) htop1
      have hT1 : 1 ≤ top := htop2 1 (by simp)
      k_dflt (refine For_rngC lF3 (LwJ (fun z => z * (6 + Iz z a b c)) (fun z => z * (6 + Iz z a' b' c')) (lawM top tt D1 x1 u0) base9) rfl rfl rfl rfl ?_)
      unfold lawM at lF3
      k_steps
      (rename Fr _ _ _ _ => lF'); (rename News _ _ _ _ => lN'); (rename IsRange _ _ _ _ _ _ _ _ => rgX)
      k_dflt (refine RngCAt.intro rgX ⟨by omega, by omega, by omega, by omega⟩ lF' lN' hcz ?nec ?J0 ?turnL ?doneL)
      case nec => exact hB2
      case J0 => exact LwJ.start hB1 hB3 hB4 hgb0
      case turnL =>
        intro i t m₁ nx₁ h g tk I oI oc hi hlt hne hJ hoc F' N'
        (change (let G9 : Prop := _; G9)); intro G9
        obtain ⟨hgb, u, la, vs, k, tl, psA, psB, rfl, rfl, tA, tB, dd, hn, n1, n2, hvl⟩ := hJ
        unfold G9; (try clear G9)
        have phL := PhaseL.mk
        (change (let G9 : Prop := _; G9)); intro G9
        subst hbase9
        unfold G9; (try clear G9)
        have hi9 : i ≤ 8 := by omega
        (try clear lF3); (try clear lN3); (try clear lF'); (try clear lN'); (try clear htop1); (try clear htop2); (try clear hI9)
        unfold lawM at F'
        (change (let G9 : Prop := _; G9)); intro G9
        obtain ⟨h641, h642⟩ := len64 hln63
        unfold G9; (try clear G9)
        k_steps
        refine hold_in ?_
        (rename Fr _ _ _ _ => lF'); (rename News _ _ _ _ => lN')
        refine kmk_add_ints lF' lN' (lifted.at fun o e => lF'.keep _ o e) (News.isList lN' (.head _)) (by assumption) (.cons 0 _ .nil) ?_ (by rw [sizeLine_eq]; simp only [List.length_cons, List.length_nil]; omega)
        intro D5 us5 h5 lF5 lN5 l5 hI5
        k_lt l5
        clear lF' lN'
        have phN := PhaseN.mk
        k_steps
        refine hold_in ?_
        (rename Fr _ _ _ _ => lF'); (rename News _ _ _ _ => lN'); (rename (@Ne Nat _ _ ∧ _) ∧ _ => hoff)
        k_dflt (refine end_gen4 lF' lN' ?offA (by lcg_src) ?_)
        case offA => exact ⟨⟨by k_ne, by k_ne, by k_ne⟩, ⟨by k_ne, by k_ne, by k_ne⟩, ⟨by k_ne, by k_ne, by k_ne⟩, ⟨by k_ne, by k_ne, by k_ne⟩, hoff⟩
        clear lF' lN'
        k_steps
        refine hold_in ?_
        (rename Fr _ _ _ _ => lF'); (rename News _ _ _ _ => lN')
        refine kmk_add_ints lF' lN' (lifted.at fun o e => lF'.keep _ o e) (News.isList lN' (.head _)) (by assumption) (.cons 0 _ .nil) ?_ (by rw [sizeLine_eq]; simp only [List.length_cons, List.length_nil]; omega)
        intro D6 us6 h6 lF6 lN6 l6 hI6
        k_lt l6
        clear lF' lN'
        k_steps
        refine hold_in ?_
        (rename Fr _ _ _ _ => lF'); (rename News _ _ _ _ => lN'); (rename (@Ne Nat _ _ ∧ _) ∧ _ => hoff)
        k_dflt (refine end_gen4 lF' lN' ?offB (by lcg_src) ?_)
        case offB => exact ⟨⟨by k_ne, by k_ne, by k_ne⟩, ⟨by k_ne, by k_ne, by k_ne⟩, ⟨by k_ne, by k_ne, by k_ne⟩, ⟨by k_ne, by k_ne, by k_ne⟩, hoff⟩
        clear lF' lN'
        clear phN
        k_steps
        refine hold_in ?_
        (rename Fr _ _ _ _ => lF'); (rename News _ _ _ _ => lN')
        (rename PlayEnd _ a b c _ _ _ _ _ => hE1); (rename PlayEnd _ a' b' c' _ _ _ _ _ => hE2)
        rename_i RA _ _ _ _ _ _ _ _ _ _ _ _ _ _ _ _ _ _ _ _ _ _ _ _ _ _ _ _ _ _ _ _ RB _ _ _ _ _ _ _ _ _ _ _ _ _ _ _ _ _ _ _ _ _ _ _ _ _ _ _ _ _ _ _ _ _ _ _ _ _ _ _ _ _ _ _ _ _ _ _ _ _ _ _ _ _ _ _ DL _ _ _
        (change (let G9 : Prop := _; G9)); intro G9
        obtain ⟨W9, ds9, es9, VA, VB, hds9, hes9, hVA, hVB, hW9, hWn, lN7⟩ := turn_open lN' hE1 hE2 (hne (234, tabObj psA) (.tail _ (.head _))) (hne (241, tabObj psB) (.tail _ (.tail _ (.head _)))) n1 n2 hn
        unfold G9; (try clear G9)
        clear lN'
        have hD1W : (D1, listOf (List.toArray [.ref m1, .ref m2]) 2) ∈ W9 := by rw [hW9]; k_mem
        have hm1W : (m1, listOf (List.toArray V1) 0) ∈ W9 := by rw [hW9]; k_mem
        have hm2W : (m2, listOf (List.toArray V2) 0) ∈ W9 := by rw [hW9]; k_mem
        have hcW : (s₁.heap.objs.size + 1 + 1, oc) ∈ W9 := by rw [hW9]; k_mem
        k_dflt (refine ListComp_M (by k_asm) (by with_unfolding_all rfl) (by decide) (by rfl) (by decide) (fun C I D => looping_last rfl rfl) ?_)
        k_steps
        (rename Fr _ _ _ _ => lF')
        k_dflt (refine SrcM.intro (K4 [ds9, es9] W9) (iter_list rfl lN7 (.tail _ (.tail _ hD1W))) lF' lN7 ?dep4 (fun mC => ⟨[], psA, psB, rfl, tA, tB, .nil, hWn, rfl⟩) ?turn4 ?done4)
        case dep4 =>
          intro p hp _ _ _ _ hJ
          (change (let G9 : Prop := _; G9)); intro G9
          obtain ⟨tl2, pA, pB, rfl, _⟩ := hJ
          unfold G9; (try clear G9)
          rw [List.mem_singleton.mp hp]
          exact .tail _ (.tail _ (List.mem_append_right _ hD1W))
        case turn4 =>
          intro C D i2 v ys2 nx2 mC h2 g2 tk2 oC I2 oI2 E' Post hgk1 hi2 hP hJ hO F2 N2 off2 hne2 hPost
          (change (let G9 : Prop := _; G9)); intro G9
          obtain ⟨tl2, pA, pB, rfl, tpA, tpB, dd2, hn2, hl2⟩ := hJ
          unfold G9; (try clear G9)
          (change (let G9 : Prop := _; G9)); intro G9
          obtain ⟨lm, V, row, r, rfl, hlmW, hV, hrl, hrb, hrs, htold⟩ := row_told hP hm1W hm2W hV1 hV2 (by assumption) (by assumption) (by assumption) (by assumption) (by assumption) (by assumption) (by omega) (by omega) hE1 hE2
          unfold G9; (try clear G9)
          have hrs2 : [ds9, es9][i2]? = some r := by rw [hds9, hes9]; exact hrs
          have hsz9 : ys2.length ≤ sizeLine := by
            have e2 : i2 < 2 := hi2
            rw [sizeLine_eq]; omega
          refine assign_nm rfl rfl hO F2 N2 off2 hne2 ?_
          intro h3 tk3 oC3 hO3 F3 N3
          (change (let G9 : Prop := _; G9)); intro G9
          obtain ⟨mm, hmm, hrow⟩ : ∃ mm : Str → Option Value, mm = (fun y => if y = Str.ofString "row" then some (.ref lm) else mC y) ∧ mm (Str.ofString "row") = some (.ref lm) := ⟨_, rfl, by simp⟩
          unfold G9; (try clear G9)
          rw [← hmm] at hO3
          refine emit_ch hO3 hne2 hsz9 hPost ⟨_, _, _, rfl, hgk1⟩ ?_
          clear F2 N2 hO lF'
          k_steps
          refine hold_in ?_
          (rename Fr _ _ _ _ => lF'); (rename News _ _ _ _ => lN')
          have hrn := rest_ne2 (oI := oI2) (oC := oC3) (oD := LCg.lst ys2) off2 hn2
          k_dflt (refine' told_spec (rest := (I2, oI2) :: (C, oC3) :: (D, LCg.lst ys2) :: (tl2 ++ W9)) ?k1 lF' ?k3 (nsub lN' ?sub) ?k5 ?k6 ?k7 ?k8 hV tpA tpB (hWn _ hlmW).1 (hWn _ hlmW).2 hrn.1 hrn.2 hrl ?z1 ?z9 hrb ?_; (case k1 => k_asm); (case k3 => k_asm); (case k5 => k_asm); (case k6 => first | rfl | assumption); (case k7 => first | decide | ktr_room); (case k8 => first | decide | ktr_units); (case z1 => omega); (case z9 => omega); (case sub => exact subs_cons (.tail _ (.tail _ (.tail _ (.tail _ (.tail _ (List.mem_append_right _ hlmW)))))) (subs_cons (.tail _ (.tail _ (.tail _ (.head _)))) (subs_cons (.tail _ (.tail _ (.tail _ (.tail _ (.head _))))) (subs_cons (.head _) (subs_cons (.tail _ (.head _)) (subs_cons (.tail _ (.tail _ (.head _))) fun p hp => .tail _ (.tail _ (.tail _ (.tail _ (.tail _ hp)))))))))))
          intro Dn vs9 nn ws low hi9' pA' pB' h4 g4 tk4 hgk4 F4 N4 hlt1 hlt2 hlt3 tA' tB' e1 e2 e3 e4 e5 e6 hI4
          exact elt_told hgk4 F4 N4 hlt3 hlt2 off2 hrs2 tA' tB' dd2 hn2 hl2 (htold ws low hi9' e1 e2 e3 e4 e5 e6) hI4
        case done4 =>
          intro D ys2 nx2 mC h2 g2 tk2 hgk2 hJ F2 N2 hD
          have hgb2 := hgk2 hgb
          clear hgk2
          (change (let G9 : Prop := _; G9)); intro G9
          obtain ⟨tl2, pA, pB, rfl, tpA, tpB, dd2, hn2, hl2⟩ := hJ
          unfold G9; (try clear G9)
          have N3 := show News _ _ _ ((D, listOf (List.toArray ys2) ys2.length) :: _) from N2
          clear N2 lF'
          (repeat ((rename (@Ne Nat _ _ ∧ _) ∧ _ => hz9); clear hz9))
          (repeat ((rename @Ne Nat _ _ ∧ _ => hz9); clear hz9))
          (repeat ((rename @LT.lt Nat _ _ _ ∧ _ => hz9); clear hz9))
          k_steps
          refine hold_in ?_
          (rename Fr _ _ _ _ => lF'); (rename News _ _ _ _ => lN')
          have hDL : (DL, LCg.lst [.ref RA, .ref RB]) ∈ tl2 ++ W9 := by rw [hW9]; k_mem
          have hRA : (RA, listOf VA.toArray 0) ∈ tl2 ++ W9 := by rw [hW9]; k_mem
          have hRB : (RB, listOf VB.toArray 0) ∈ tl2 ++ W9 := by rw [hW9]; k_mem
          have hdt := dat_two (news := (D, W.listOf ys2.toArray ys2.length) :: (234, tabObj pA) :: (241, tabObj pB) :: (tl2 ++ W9)) (ds := ds9) (es := es9) (.tail _ (.tail _ (.tail _ hDL))) (.tail _ (.tail _ (.tail _ hRA))) (.tail _ (.tail _ (.tail _ hRB))) hVA hVB
          k_dflt (refine' ne_same (d := .list ([ds9, es9].map fun r => Dat.list (r.map Dat.int))) lN' hdt (DatIn.list (.head _) (dd2.mono fun p hp => .tail _ (.tail _ (.tail _ (List.mem_append_left _ hp))))) (ok_rings _) ?units ?_; (case units => first | decide | ktr_units))
          have lN9 := turn_close lN' hW9
          have hnaE := hE1.1
          have hnbE := hE2.1
          have hna := Iz_bd (a := a) (b := b) (c := c) (z := 1 + (i : Int)) (by assumption) (by assumption) (by assumption) (by omega) (by omega)
          have hnb := Iz_bd (a := a') (b := b') (c := c') (z := 1 + (i : Int)) (by assumption) (by assumption) (by assumption) (by omega) (by omega)
          clear lN' hDL hRA hRB dd2 hn2 hl2 hD hD1W hm1W hm2W hcW hW9 hWn lN7 hVA hVB hds9 hes9 hE1 hE2
          have phQ := PhaseQ2.mk
          k_steps
          refine hold_in ?_
          (rename Fr _ _ _ _ => lF'); (rename News _ _ _ _ => lN')
          (rename @LT.lt Nat _ la _ ∧ _ => hl9)
          refine turn_append lF' lN' hl9.1 (hne (la, listOf vs.toArray k) (.head _)) n1 n2 hn hvl hi9 ?_
          intro h6 F6 N6
          clear lF' lN'
          k_steps
          exact LwJ.fin (k := 0) F6 N6 hoc hl9 hne (by rw [hnaE]) (by rw [hnbE]) tpA tpB dd hn n1 n2 hvl hgb2
      case doneL =>
        intro m₁ nx₁ h g tk oc v hJ hoc F' N' hnc
        (change (let G9 : Prop := _; G9)); intro G9
        obtain ⟨hgb, u, la, vs, k, tl, psA, psB, rfl, rfl, tA, tB, dd, hn, n1, n2, hvl⟩ := hJ
        unfold G9; (try clear G9)
        have htopE := top_eq htop1 htop2
        have hkT : (top + 1 - 1).toNat = kT a b c a' b' c' := by omega
        rw [hkT] at dd hvl
        (try clear lF3); (try clear lN3); (try clear lF'); (try clear lN'); (try clear htop1); (try clear htop2)
        unfold lawM at F'
        (change (let G9 : Prop := _; G9)); intro G9
        subst hbase9
        unfold G9; (try clear G9)
        k_steps
        refine hold_in ?_
        (rename Fr _ _ _ _ => lF'); (rename News _ _ _ _ => lN')
        k_dflt (refine Assign_ListComp_P lF' (by rfl) (by with_unfolding_all rfl) (by with_unfolding_all rfl) (by decide) (by rfl) (by decide) (by rfl) (by rfl) (fun C I D => loopingP_last) ?_)
        k_steps
        (rename Fr _ _ _ _ => lF2)
        k_dflt (refine SrcPA.intro (J5 (lawF a b c) (lawF a' b' c') _) (iter_listL rfl lN' (.tail _ (.head _))) ?ref5 lF2 lN' ?dep5 (fun mC => ⟨[], rfl, .nil, rfl⟩) ?turn5 ?done5)
        case ref5 =>
          intro i v hv
          (change (let G9 : Prop := _; G9)); intro G9
          obtain ⟨T, r, t1, t2, t3, n0, rfl, _⟩ := rows_at dd hv
          unfold G9; (try clear G9)
          exact ⟨T, rfl⟩
        case dep5 =>
          intro p hp _ _ _ _ hJ
          (change (let G9 : Prop := _; G9)); intro G9
          obtain ⟨tlb, rfl, _⟩ := hJ
          unfold G9; (try clear G9)
          rw [List.mem_singleton.mp hp]
          exact List.mem_append_right _ (.tail _ (.head _))
        case turn5 =>
          intro C D i v ys nx mC h g tk oC I oI E' Post hgk1 hi hP hJ hO F2 N2 off2 hne2 hPost
          (change (let G9 : Prop := _; G9)); intro G9
          obtain ⟨tlb, rfl, ddb, hyl⟩ := hJ
          unfold G9; (try clear G9)
          (change (let G9 : Prop := _; G9)); intro G9
          obtain ⟨T, r, t1, t2, t3, n0, rfl, hr, hT⟩ := rows_at dd hP
          unfold G9; (try clear G9)
          obtain rfl := dueF_get hr
          have hsz9 : ys.length ≤ sizeLine := by
            have e2 : i < vs.length := hi
            rw [sizeLine_eq]; omega
          refine assign_t3 rfl rfl rfl rfl rfl hO F2 N2 (n0 := n0) (v1 := .int _ t1) (v2 := .int _ t2) (v3 := .int _ t3) (List.mem_append_right _ (.tail _ (.tail _ (.tail _ (.tail _ (List.mem_append_left _ hT)))))) off2 hne2 ?_
          intro h3 tk3 oC3 hO3 F3 N3
          (change (let G9 : Prop := _; G9)); intro G9
          obtain ⟨mm, hmm, hm1, hm2, hm3⟩ : ∃ mm : Str → Option Value, mm = (fun y => if y = Str.ofString "high" then some (.int (lawF a' b' c' (1 + (i : Int))) t3) else if y = Str.ofString "low" then some (.int (lawF a b c (1 + (i : Int))) t2) else if y = Str.ofString "size" then some (.int (1 + (i : Int)) t1) else mC y) ∧ mm (Str.ofString "size") = some (.int (1 + (i : Int)) t1) ∧ mm (Str.ofString "low") = some (.int (lawF a b c (1 + (i : Int))) t2) ∧ mm (Str.ofString "high") = some (.int (lawF a' b' c' (1 + (i : Int))) t3) := ⟨_, rfl, (if_neg (by decide)).trans ((if_neg (by decide)).trans (if_pos rfl)), (if_neg (by decide)).trans (if_pos rfl), if_pos rfl⟩
          unfold G9; (try clear G9)
          have hO4 : LCg.NsObj oC3 mm := by rw [hmm]; exact hO3
          clear hO3 hmm
          refine emit_ch hO4 hne2 hsz9 hPost ⟨_, _, _, rfl, hgk1⟩ ?_
          clear F2 N2 hO lF2
          k_steps
          (rename Fr _ _ _ _ => lF'); (rename News _ _ _ _ => lN'); (rename @LT.lt Nat _ I _ ∧ _ => hl9)
          exact back_elt (fun z9 => z9) lF' lN' hl9 off2 ddb hyl
        case done5 =>
          intro D5 ysb nxb mC h5 g5 tk5 hgk5 hJ F5 N5 hD5
          have hgb5 := hgk5 hgb
          clear hgk5
          (change (let G9 : Prop := _; G9)); intro G9
          obtain ⟨tlb, rfl, ddb, hbl⟩ := hJ
          unfold G9; (try clear G9)
          (change (let G9 : Prop := _; G9)); intro G9
          obtain ⟨TL, hTb, hTl, lN5⟩ := law_mid N5
          unfold G9; (try clear G9)
          have N6 := show News _ _ _ ((D5, listOf (List.toArray ysb) ysb.length) :: _) from lN5
          rw [hvl] at ddb
          have dd1 := dd.mono hTl
          have dd2 := ddb.mono hTb
          have phN := PhaseN.mk
          have hq1 : ∀ i j, ((marksT a b c).getD i 0 - (marksT a b c).getD j 0).natAbs ≤ 9 := nine_marks (by assumption) (by assumption) (by assumption)
          have hq2 : ∀ i j, ((marksT a' b' c').getD i 0 - (marksT a' b' c').getD j 0).natAbs ≤ 9 := nine_marks (by assumption) (by assumption) (by assumption)
          clear lN5 N5 dd ddb hTb hTl hD5 hn hnc
          (try clear lF'); (try clear lN'); (try clear lF2)
          (repeat ((rename (@Ne Nat _ _ ∧ _) ∧ _ => hz9); clear hz9))
          (repeat ((rename @Ne Nat _ _ ∧ _ => hz9); clear hz9))
          (repeat ((rename @LT.lt Nat _ _ _ ∧ _ => hz9); clear hz9))
          k_steps
          refine hold_in ?_
          (rename Fr _ _ _ _ => lF'); (rename News _ _ _ _ => lN'); (rename (@Ne Nat _ _ ∧ _) ∧ _ => hoff)
          rename_i hI6 hrun6 ll1 ll2 ll3 ll4
          k_dflt (refine lead_end lF' lN' ll1 ll2 ll3 ll4 hoff (by lcg_src) ?_)
          have lf1 := lead_facts (by assumption) (by assumption) (by assumption) hrun6
          clear lF' lN' ll1 ll2 ll3 ll4 hoff hrun6
          k_steps
          refine hold_in ?_
          (rename Fr _ _ _ _ => lF'); (rename News _ _ _ _ => lN'); (rename (@Ne Nat _ _ ∧ _) ∧ _ => hoff)
          rename_i hI7 hrun7 ll1 ll2 ll3 ll4
          k_dflt (refine lead_end lF' lN' ll1 ll2 ll3 ll4 hoff (by lcg_src) ?_)
          have lf2 := lead_facts (by assumption) (by assumption) (by assumption) hrun7
          clear lF' lN' ll1 ll2 ll3 ll4 hoff hrun7
          k_steps
          refine hold_in ?_
          (rename Fr _ _ _ _ => lF'); (rename News _ _ _ _ => lN')
          (change (let G9 : Prop := _; G9)); intro G9
          obtain ⟨W, lN8, a1, a2, a3, a4, b1, b2, b3, b4, hLA, hLB, h234, h241, e1, e2⟩ := law_last lN' dd1 dd2
          unfold G9; (try clear G9)
          have hlA := lf1.len
          have hlB := lf2.len
          have hbdA := lf1.bd
          have hbdB := lf2.bd
          have hbA := zero_bd lf1.zero
          have hbB := zero_bd lf2.zero
          clear lN' dd1 dd2
          clear phN
          have hkk := k_le lf1 lf2
          have hszA : vs.toArray.size ≤ sizeLine := by rw [List.size_toArray, hvl, sizeLine_eq]; omega
          have hszB : ysb.toArray.size ≤ sizeLine := by rw [List.size_toArray, hbl, hvl, sizeLine_eq]; omega
          (try clear hV1); (try clear hV2); (try clear hI); (try clear hyl); (try clear hD); (try clear hyl9); (try clear hT9); (try clear hT1); (try clear hB1); (try clear hB2); (try clear hB3); (try clear hB4); (try clear hoc); (try clear tA); (try clear tB); (try clear htopE); (try clear hkT); (try clear n1); (try clear n2); (try clear hq1); (try clear hq2); (try clear rgX); (try clear hc63); (try clear lifted); (try clear hcz); (try clear hcs); (try clear hzx); (try clear hyz); (try clear hln63); (try clear hT8); (try clear G); (try clear Y); (try clear ho); (try clear V); (try clear htop1); (try clear htop2)
          have phR := PhaseR.mk
          k_steps
          refine hold_in ?_
          (rename DatAll (_ ++ W) _ _ => hd8)
          (rename Fr _ _ _ _ => lF'); (rename News _ _ _ _ => lN')
          k_dflt (refine LCt.ListComp_T lF' (by with_unfolding_all rfl) (by decide) (by rfl) (by decide) (by rfl) ?_)
          k_steps
          refine hold_in ?_
          (rename Fr _ _ _ _ => lF'); (rename News _ _ _ _ => lN')
          k_dflt (refine LCt.CompSrcT.ledger rfl lF' lN' (by k_mem) ?sz1 ?_)
          case sz1 => first | exact hszA | exact hszB
          intro g9
          k_dflt (refine compT_inv (fun i ys => DatAll W ys (fltR (fun x y => decide (x ≥ y)) (dueF (lawF a b c) (lawF a' b' c') (kT a b c a' b' c')) i)) .nil ?fin1 ?turn1)
          case turn1 =>
            intro i ys v I oI C oC D m₂ h tk E' hi hJ hv hC hx F' N' off' ne'
            (change (let G9 : Prop := _; G9)); intro G9
            obtain ⟨T, r, t1, t2, t3, n0, rfl, hr, hT⟩ := rows_at e1 (by simpa using hv)
            unfold G9; (try clear G9)
            clear lF' lN'
            (try clear lf1); (try clear lf2); (try clear hlA); (try clear hlB); (try clear hbdA); (try clear hbdB); (try clear hbA); (try clear hbB); (try clear a1); (try clear a2); (try clear a3); (try clear a4); (try clear b1); (try clear b2); (try clear b3); (try clear b4); (try clear h234); (try clear h241); (try clear hI6); (try clear hI7); (try clear hgb5); (try clear hgA); (try clear hd8); (try clear hr8); (try clear e1); (try clear e2); (try clear hszA); (try clear hszB); (try clear hkk); (try clear hbl); (try clear hvl); (try clear X); (try clear B); (try clear TE); (try clear TW); (try clear lN9); (try clear lN8)
            k_steps
            all_goals (refine hold_in ?_; (rename Fr _ _ _ _ => lF2); (rename News _ _ _ _ => lN2))
            · exact end_same lF2 lN2 off' (by lcg_src) (flt_yes hJ hr hT (by simp only [decide_eq_true_eq]; omega))
            · exact end_same lF2 lN2 off' (by lcg_src) (flt_no hJ hr (by simp only [decide_eq_false_iff_not]; omega))
          case fin1 =>
            intro ysC hJ
            have hrows := flt_fin hJ e1 (by simp)
            clear lF' lN' hJ
            k_steps
            refine hold_in ?_
            (rename Fr _ _ _ _ => lF'); (rename News _ _ _ _ => lN')
            rw [wit_law _ lf1 lf2] at hd8
            refine eq_rows lN' (by k_mem) (by k_mem) (hd8.mono (by intro p hp; k_mem)) (hrows.mono (by intro p hp; k_mem)) (by first | decide | ktr_units) ?_
            have lN9 := nsub lN' (nw := W) (fun p hp => by k_mem)
            clear lN' hrows hd8
            (try clear hn8); (try clear hn9); (try clear hn10)
            k_steps
            refine hold_in ?_
            (rename DatAll (_ ++ W) _ _ => hd8)
            (rename Fr _ _ _ _ => lF'); (rename News _ _ _ _ => lN')
            k_dflt (refine LCt.ListComp_T lF' (by with_unfolding_all rfl) (by decide) (by rfl) (by decide) (by rfl) ?_)
            k_steps
            refine hold_in ?_
            (rename Fr _ _ _ _ => lF'); (rename News _ _ _ _ => lN')
            k_dflt (refine LCt.CompSrcT.ledger rfl lF' lN' (by k_mem) ?sz2 ?_)
            case sz2 => first | exact hszA | exact hszB
            intro g9
            k_dflt (refine compT_inv (fun i ys => DatAll W ys (fltR (fun x y => decide (x ≥ y)) (dueF (lawF a' b' c') (lawF a b c) (kT a b c a' b' c')) i)) .nil ?fin2 ?turn2)
            case turn2 =>
              intro i ys v I oI C oC D m₂ h tk E' hi hJ hv hC hx F' N' off' ne'
              (change (let G9 : Prop := _; G9)); intro G9
              obtain ⟨T, r, t1, t2, t3, n0, rfl, hr, hT⟩ := rows_at e2 (by simpa using hv)
              unfold G9; (try clear G9)
              clear lF' lN'
              (try clear lf1); (try clear lf2); (try clear hlA); (try clear hlB); (try clear hbdA); (try clear hbdB); (try clear hbA); (try clear hbB); (try clear a1); (try clear a2); (try clear a3); (try clear a4); (try clear b1); (try clear b2); (try clear b3); (try clear b4); (try clear h234); (try clear h241); (try clear hI6); (try clear hI7); (try clear hgb5); (try clear hgA); (try clear hd8); (try clear hr8); (try clear e1); (try clear e2); (try clear hszA); (try clear hszB); (try clear hkk); (try clear hbl); (try clear hvl); (try clear X); (try clear B); (try clear TE); (try clear TW); (try clear lN9); (try clear lN8)
              k_steps
              all_goals (refine hold_in ?_; (rename Fr _ _ _ _ => lF2); (rename News _ _ _ _ => lN2))
              · exact end_same lF2 lN2 off' (by lcg_src) (flt_yes hJ hr hT (by simp only [decide_eq_true_eq]; omega))
              · exact end_same lF2 lN2 off' (by lcg_src) (flt_no hJ hr (by simp only [decide_eq_false_iff_not]; omega))
            case fin2 =>
              intro ysC hJ
              have hrows := flt_fin hJ e2 (by simp)
              clear lF' lN' hJ
              k_steps
              refine hold_in ?_
              (rename Fr _ _ _ _ => lF'); (rename News _ _ _ _ => lN')
              rw [wit_law _ lf2 lf1, kT_comm (a := a') (b := b') (c := c')] at hd8
              refine eq_rows lN' (by k_mem) (by k_mem) (hd8.mono (by intro p hp; k_mem)) (hrows.mono (by intro p hp; k_mem)) (by first | decide | ktr_units) ?_
              have lN9 := nsub lN' (nw := W) (fun p hp => by k_mem)
              clear lN' hrows hd8
              (try clear hn8); (try clear hn9); (try clear hn10)
              k_steps
              refine hold_in ?_
              (rename DatAll (_ ++ W) _ _ => hd8)
              (rename Fr _ _ _ _ => lF'); (rename News _ _ _ _ => lN')
              k_dflt (refine LCt.ListComp_T lF' (by with_unfolding_all rfl) (by decide) (by rfl) (by decide) (by rfl) ?_)
              k_steps
              refine hold_in ?_
              (rename Fr _ _ _ _ => lF'); (rename News _ _ _ _ => lN')
              k_dflt (refine LCt.CompSrcT.ledger rfl lF' lN' (by k_mem) ?sz3 ?_)
              case sz3 => first | exact hszA | exact hszB
              intro g9
              k_dflt (refine compT_inv (fun i ys => DatAll W ys (fltR (fun x y => decide (x ≠ y)) (dueF (lawF a b c) (lawF a' b' c') (kT a b c a' b' c')) i)) .nil ?fin3 ?turn3)
              case turn3 =>
                intro i ys v I oI C oC D m₂ h tk E' hi hJ hv hC hx F' N' off' ne'
                (change (let G9 : Prop := _; G9)); intro G9
                obtain ⟨T, r, t1, t2, t3, n0, rfl, hr, hT⟩ := rows_at e1 (by simpa using hv)
                unfold G9; (try clear G9)
                clear lF' lN'
                (try clear lf1); (try clear lf2); (try clear hlA); (try clear hlB); (try clear hbdA); (try clear hbdB); (try clear hbA); (try clear hbB); (try clear a1); (try clear a2); (try clear a3); (try clear a4); (try clear b1); (try clear b2); (try clear b3); (try clear b4); (try clear h234); (try clear h241); (try clear hI6); (try clear hI7); (try clear hgb5); (try clear hgA); (try clear hd8); (try clear hr8); (try clear e1); (try clear e2); (try clear hszA); (try clear hszB); (try clear hkk); (try clear hbl); (try clear hvl); (try clear X); (try clear B); (try clear TE); (try clear TW); (try clear lN9); (try clear lN8)
                k_steps
                all_goals (refine hold_in ?_; (rename Fr _ _ _ _ => lF2); (rename News _ _ _ _ => lN2))
                · exact end_same lF2 lN2 off' (by lcg_src) (flt_yes hJ hr hT (by simp only [decide_eq_true_eq]; omega))
                · exact end_same lF2 lN2 off' (by lcg_src) (flt_no hJ hr (by simp only [decide_eq_false_iff_not]; omega))
              case fin3 =>
                intro ysC hJ
                have hrows := flt_fin hJ e1 (by simp)
                clear lF' lN' hJ
                k_steps
                refine hold_in ?_
                (rename Fr _ _ _ _ => lF'); (rename News _ _ _ _ => lN')
                rw [wit_law _ lf1 lf2] at hd8
                refine eq_rows lN' (by k_mem) (by k_mem) (hd8.mono (by intro p hp; k_mem)) (hrows.mono (by intro p hp; k_mem)) (by first | decide | ktr_units) ?_
                have lN9 := nsub lN' (nw := W) (fun p hp => by k_mem)
                clear lN' hrows hd8
                (try clear hn8); (try clear hn9); (try clear hn10)
                k_steps
                refine hold_in ?_
                (rename _ = _ => hr8)
                (rename Fr _ _ _ _ => lF'); (rename News _ _ _ _ => lN')
                k_dflt (refine LCt.ListComp_T lF' (by with_unfolding_all rfl) (by decide) (by rfl) (by decide) (by rfl) ?_)
                k_steps
                refine hold_in ?_
                (rename Fr _ _ _ _ => lF'); (rename News _ _ _ _ => lN')
                k_dflt (refine LCt.CompSrcT.ledger rfl lF' lN' (by k_mem) ?sz4 ?_)
                case sz4 => first | exact hszA | exact hszB
                intro g9
                k_dflt (refine compT_inv (fun i ys => DatAll W ys (fltR (fun x y => decide (x ≥ y)) (dueF (lawF a b c) (lawF a' b' c') (kT a b c a' b' c')) i)) .nil ?fin4 ?turn4)
                case turn4 =>
                  intro i ys v I oI C oC D m₂ h tk E' hi hJ hv hC hx F' N' off' ne'
                  (change (let G9 : Prop := _; G9)); intro G9
                  obtain ⟨T, r, t1, t2, t3, n0, rfl, hr, hT⟩ := rows_at e1 (by simpa using hv)
                  unfold G9; (try clear G9)
                  clear lF' lN'
                  (try clear lf1); (try clear lf2); (try clear hlA); (try clear hlB); (try clear hbdA); (try clear hbdB); (try clear hbA); (try clear hbB); (try clear a1); (try clear a2); (try clear a3); (try clear a4); (try clear b1); (try clear b2); (try clear b3); (try clear b4); (try clear h234); (try clear h241); (try clear hI6); (try clear hI7); (try clear hgb5); (try clear hgA); (try clear hd8); (try clear hr8); (try clear e1); (try clear e2); (try clear hszA); (try clear hszB); (try clear hkk); (try clear hbl); (try clear hvl); (try clear X); (try clear B); (try clear TE); (try clear TW); (try clear lN9); (try clear lN8)
                  k_steps
                  all_goals (refine hold_in ?_; (rename Fr _ _ _ _ => lF2); (rename News _ _ _ _ => lN2))
                  · exact end_same lF2 lN2 off' (by lcg_src) (flt_yes hJ hr hT (by simp only [decide_eq_true_eq]; omega))
                  · exact end_same lF2 lN2 off' (by lcg_src) (flt_no hJ hr (by simp only [decide_eq_false_iff_not]; omega))
                case fin4 =>
                  intro ysC hJ
                  have hrows := flt_fin hJ e1 (by simp)
                  clear lF' lN' hJ
                  k_steps
                  refine hold_in ?_
                  (rename Fr _ _ _ _ => lF'); (rename News _ _ _ _ => lN')
                  refine eq_none lN' (by k_mem) (by k_mem) (hrows.mono (by intro p hp; k_mem)) (by first | decide | ktr_units) ?_
                  have lN9 := nsub lN' (nw := W) (fun p hp => by k_mem)
                  clear lN' hrows
                  k_steps
                  refine hold_in ?_
                  rw [hr8, less_law lf1 lf2]
                  refine wpAny_is_self (by rfl) ?_
                  clear hr8
                  k_steps
                  refine hold_in ?_
                  (rename _ = _ => hr8)
                  (rename Fr _ _ _ _ => lF'); (rename News _ _ _ _ => lN')
                  k_dflt (refine LCt.ListComp_T lF' (by with_unfolding_all rfl) (by decide) (by rfl) (by decide) (by rfl) ?_)
                  k_steps
                  refine hold_in ?_
                  (rename Fr _ _ _ _ => lF'); (rename News _ _ _ _ => lN')
                  k_dflt (refine LCt.CompSrcT.ledger rfl lF' lN' (by k_mem) ?sz5 ?_)
                  case sz5 => first | exact hszA | exact hszB
                  intro g9
                  k_dflt (refine compT_inv (fun i ys => DatAll W ys (fltR (fun x y => decide (x ≥ y)) (dueF (lawF a' b' c') (lawF a b c) (kT a b c a' b' c')) i)) .nil ?fin5 ?turn5)
                  case turn5 =>
                    intro i ys v I oI C oC D m₂ h tk E' hi hJ hv hC hx F' N' off' ne'
                    (change (let G9 : Prop := _; G9)); intro G9
                    obtain ⟨T, r, t1, t2, t3, n0, rfl, hr, hT⟩ := rows_at e2 (by simpa using hv)
                    unfold G9; (try clear G9)
                    clear lF' lN'
                    (try clear lf1); (try clear lf2); (try clear hlA); (try clear hlB); (try clear hbdA); (try clear hbdB); (try clear hbA); (try clear hbB); (try clear a1); (try clear a2); (try clear a3); (try clear a4); (try clear b1); (try clear b2); (try clear b3); (try clear b4); (try clear h234); (try clear h241); (try clear hI6); (try clear hI7); (try clear hgb5); (try clear hgA); (try clear hd8); (try clear hr8); (try clear e1); (try clear e2); (try clear hszA); (try clear hszB); (try clear hkk); (try clear hbl); (try clear hvl); (try clear X); (try clear B); (try clear TE); (try clear TW); (try clear lN9); (try clear lN8)
                    k_steps
                    all_goals (refine hold_in ?_; (rename Fr _ _ _ _ => lF2); (rename News _ _ _ _ => lN2))
                    · exact end_same lF2 lN2 off' (by lcg_src) (flt_yes hJ hr hT (by simp only [decide_eq_true_eq]; omega))
                    · exact end_same lF2 lN2 off' (by lcg_src) (flt_no hJ hr (by simp only [decide_eq_false_iff_not]; omega))
                  case fin5 =>
                    intro ysC hJ
                    have hrows := flt_fin hJ e2 (by simp)
                    clear lF' lN' hJ
                    k_steps
                    refine hold_in ?_
                    (rename Fr _ _ _ _ => lF'); (rename News _ _ _ _ => lN')
                    refine eq_none lN' (by k_mem) (by k_mem) (hrows.mono (by intro p hp; k_mem)) (by first | decide | ktr_units) ?_
                    have lN9 := nsub lN' (nw := W) (fun p hp => by k_mem)
                    clear lN' hrows
                    k_steps
                    refine hold_in ?_
                    rw [hr8, less_law lf2 lf1, kT_comm (a := a') (b := b') (c := c')]
                    refine wpAny_is_self (by rfl) ?_
                    clear hr8
                    k_steps
                    refine hold_in ?_
                    (rename _ = _ => hr8)
                    (rename Fr _ _ _ _ => lF'); (rename News _ _ _ _ => lN')
                    k_dflt (refine LCt.ListComp_T lF' (by with_unfolding_all rfl) (by decide) (by rfl) (by decide) (by rfl) ?_)
                    k_steps
                    refine hold_in ?_
                    (rename Fr _ _ _ _ => lF'); (rename News _ _ _ _ => lN')
                    k_dflt (refine LCt.CompSrcT.ledger rfl lF' lN' (by k_mem) ?sz6 ?_)
                    case sz6 => first | exact hszA | exact hszB
                    intro g9
                    k_dflt (refine compT_inv (fun i ys => DatAll W ys (fltR (fun x y => decide (x ≠ y)) (dueF (lawF a b c) (lawF a' b' c') (kT a b c a' b' c')) i)) .nil ?fin6 ?turn6)
                    case turn6 =>
                      intro i ys v I oI C oC D m₂ h tk E' hi hJ hv hC hx F' N' off' ne'
                      (change (let G9 : Prop := _; G9)); intro G9
                      obtain ⟨T, r, t1, t2, t3, n0, rfl, hr, hT⟩ := rows_at e1 (by simpa using hv)
                      unfold G9; (try clear G9)
                      clear lF' lN'
                      (try clear lf1); (try clear lf2); (try clear hlA); (try clear hlB); (try clear hbdA); (try clear hbdB); (try clear hbA); (try clear hbB); (try clear a1); (try clear a2); (try clear a3); (try clear a4); (try clear b1); (try clear b2); (try clear b3); (try clear b4); (try clear h234); (try clear h241); (try clear hI6); (try clear hI7); (try clear hgb5); (try clear hgA); (try clear hd8); (try clear hr8); (try clear e1); (try clear e2); (try clear hszA); (try clear hszB); (try clear hkk); (try clear hbl); (try clear hvl); (try clear X); (try clear B); (try clear TE); (try clear TW); (try clear lN9); (try clear lN8)
                      k_steps
                      all_goals (refine hold_in ?_; (rename Fr _ _ _ _ => lF2); (rename News _ _ _ _ => lN2))
                      · exact end_same lF2 lN2 off' (by lcg_src) (flt_yes hJ hr hT (by simp only [decide_eq_true_eq]; omega))
                      · exact end_same lF2 lN2 off' (by lcg_src) (flt_no hJ hr (by simp only [decide_eq_false_iff_not]; omega))
                    case fin6 =>
                      intro ysC hJ
                      have hrows := flt_fin hJ e1 (by simp)
                      clear lF' lN' hJ
                      k_steps
                      refine hold_in ?_
                      (rename Fr _ _ _ _ => lF'); (rename News _ _ _ _ => lN')
                      refine eq_none lN' (by k_mem) (by k_mem) (hrows.mono (by intro p hp; k_mem)) (by first | decide | ktr_units) ?_
                      have lN9 := nsub lN' (nw := W) (fun p hp => by k_mem)
                      clear lN' hrows
                      k_steps
                      refine hold_in ?_
                      rw [hr8, equal_law lf1 lf2]
                      refine wpAny_is_self (by rfl) ?_
                      clear hr8
                      k_steps
                      (rename Fr _ _ _ _ => lF')
                      exact ⟨rfl, fun b o e => lF'.keep b o e, rfl, hgb5, GrownAt.of lN9 h234, GrownAt.of lN9 h241, True.intro⟩)
  run_tac fin
end
end
end
end Mine
theorem PySem.Challenge.cw_rl0132_01_holds : PySem.Challenge.rw_rl0132_01.Holds := by
  exact Mine.law_holds0
