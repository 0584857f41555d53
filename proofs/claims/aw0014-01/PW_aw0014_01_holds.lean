import PyProof.Rows.All
import Wide.All
import OpenK.AllK
import Wide.FinOn
import Lean
import PySem.Challenge.RW_aw0014_01
set_option maxRecDepth 100000
set_option maxHeartbeats 0
set_option Elab.async false
set_option linter.all false
namespace Mine
open PySem
def seeO (o : Obj) : Option Obj := match o with
 | ⟨_, _, .freed, _⟩ => none
 | o => some o
noncomputable def pickO (l : List Obj) : Nat → List Nat → List (Option Obj) :=
 List.rec (fun _ is => is.map fun _ => none) (fun o _ ih k is => List.rec [] (fun i is' _ => Bool.rec (ih (k + 1) (i :: is')) (seeO o :: ih (k + 1) is') (Nat.beq i k)) is) l
noncomputable def upO (is : List Nat) : Nat → Bool := List.rec (fun _ => true) (fun i _ ih k => Bool.rec false (ih (i + 1)) (Nat.ble k i)) is
theorem upO_cons {i : Nat} {is : List Nat} {k : Nat} (h : upO (i :: is) k = true) : k ≤ i ∧ upO is (i + 1) = true := by
 change Bool.rec (motive := fun _ => Bool) false (upO is (i + 1)) (Nat.ble k i) = true at h
 cases e : Nat.ble k i with
 | false => rw [e] at h; cases h
 | true => rw [e] at h; exact ⟨Nat.le_of_ble_eq_true e, h⟩
theorem upO_le {is : List Nat} {k q : Nat} (h : upO is k = true) (hq : q ≤ k) : upO is q = true := by
 cases is with
 | nil => rfl
 | cons i is =>
   obtain ⟨a, b⟩ := upO_cons h
   change Bool.rec (motive := fun _ => Bool) false (upO is (i + 1)) (Nat.ble q i) = true
   rw [Nat.ble_eq_true_of_le (Nat.le_trans hq a)]
   exact b
theorem pickO_eq (l : List Obj) : ∀ (k : Nat) (is : List Nat), upO is k = true → (is.map fun i => (l[i - k]?).bind seeO) = pickO l k is := by
 induction l with
 | nil =>
   intro k is _
   change _ = is.map fun _ => none
   simp
 | cons o l ih =>
   intro k is h
   cases is with
   | nil => rfl
   | cons i is =>
     obtain ⟨a, b⟩ := upO_cons h
     change _ = Bool.rec (motive := fun _ => List (Option Obj)) (pickO l (k + 1) (i :: is)) (seeO o :: pickO l (k + 1) is) (Nat.beq i k)
     have key : ∀ j, k + 1 ≤ j → ((o :: l)[j - k]?).bind seeO = (l[j - (k + 1)]?).bind seeO := by
      intro j hj
      obtain ⟨d, rfl⟩ : ∃ d, j = k + 1 + d := ⟨j - (k + 1), by omega⟩
      rw [show k + 1 + d - k = d + 1 by omega, show k + 1 + d - (k + 1) = d by omega]
      rfl
     have all : ∀ is : List Nat, upO is (k + 1) = true → ∀ j ∈ is, k + 1 ≤ j := by
      intro is
      suffices ∀ q, upO is q = true → ∀ j ∈ is, q ≤ j from this _
      induction is with
      | nil => intro q _ j hj; cases hj
      | cons x is ih2 =>
        intro q hq j hj
        obtain ⟨a, b⟩ := upO_cons hq
        rcases List.mem_cons.mp hj with rfl | hj
        ·exact a
        ·exact Nat.le_trans (Nat.le_trans a (Nat.le_succ _)) (ih2 _ b j hj)
     cases e : Nat.beq i k with
     | true =>
       obtain rfl := Nat.eq_of_beq_eq_true e
       show _ = seeO o :: pickO l (i + 1) is
       rw [← ih (i + 1) is b, List.map_cons]
       congr 1
       ·rw [Nat.sub_self]; rfl
       ·exact List.map_congr_left fun j hj => key j (all is b j hj)
     | false =>
       have ne : i ≠ k := Nat.ne_of_beq_eq_false e
       have lt : k + 1 ≤ i := by omega
       have hu : upO (i :: is) (k + 1) = true := by
        change Bool.rec (motive := fun _ => Bool) false (upO is (i + 1)) (Nat.ble (k + 1) i) = true
        rw [Nat.ble_eq_true_of_le lt]
        exact b
       show _ = pickO l (k + 1) (i :: is)
       rw [← ih (k + 1) (i :: is) hu]
       exact List.map_congr_left fun j hj => key j (all (i :: is) hu j hj)
theorem get_pickO (h : Heap) (is : List Nat) (u : upO is 0 = true) : is.map h.get? = pickO h.objs.toList 0 is := by
 rw [← pickO_eq h.objs.toList 0 is u]
 refine List.map_congr_left fun i _ => ?_
 unfold Heap.get?
 rw [Nat.sub_zero, Array.getElem?_toList]
 cases h.objs[i]? with
 | none => rfl
 | some o =>
   obtain ⟨a, b, c, d⟩ := o
   cases c <;> rfl
end Mine
theorem Mine.first : True := by
 run_tac do
  let env ← Lean.getEnv
  PySem.W.leftPieces.set (some fun _ _ _ rows => do if rows == ["first"] then Lean.setEnv env)
 trivial
namespace Mine
open Lean Meta Elab Tactic PySem PySem.W PySem.Calls PyProof.Rows
def pairsIn (e : Lean.Expr) : MetaM (Array (Lean.Expr × Lean.Expr × Lean.Expr)) := do
 let ds ← Fast.twinsIn e
 let mine : Std.HashSet Lean.Expr := ds.foldl (fun s d => if d.1.isConst then s.insert d.1 else s) {}
 ds.filterM fun (x, _, _) => do return ((Fast.bareType (← inferType x)).find? fun y => mine.contains y || y.isConstOf `PySem.W.Frag).isNone
def tableOf (ds : Array (Lean.Expr × Lean.Expr × Lean.Expr)) : Std.HashMap Lean.Expr Nat := ds.zipIdx.foldl (fun m (d, i) => m.insert d.1 i) {}
def fastForm (e : Lean.Expr) : MetaM Lean.Expr := do
 let ds ← pairsIn e
 if ds.isEmpty then return e
 return Fast.putIn (tableOf ds) (fun i => ds[i]!.2.1) e
def fastProof (e : Lean.Expr) : MetaM (Option (Lean.Expr × Lean.Expr)) := do
 let ds ← pairsIn e
 if ds.isEmpty then return none
 let all := ds
 let e0 := e
 let isS ← ds.mapM fun (x, _, _) => do return (← inferType x).isConstOf ``PySem.Str
 let dS := (ds.zip isS).filterMap fun (d, b) => if b then some d else none
 let ds := (ds.zip isS).filterMap fun (d, b) => if b then none else some d
 let e := Fast.putIn (tableOf dS) (fun i => dS[i]!.2.1) e
 let tab := tableOf ds
 let tys ← ds.mapM fun (x, _, _) => inferType x
 let G ← Fast.withLocals tys.toList #[] fun xs => mkLambdaFVars xs (Fast.putIn tab (fun i => xs[i]!) e)
 let T ← inferType e
 let n := ds.size
 let mut lv : Array Level := #[← getLevel T]
 let mut bs : Array Lean.Expr := #[T]
 let mut us : Array Level := #[]
 for j in [0:n] do
  let ty := tys[n - 1 - j]!
  let u ← getLevel ty
  us := us.push u
  bs := bs.push (.forallE `x ty bs.back! .default)
  lv := lv.push (mkLevelIMax' u lv.back!).normalize
 let mut f := G
 let mut f' := G
 let mut pf := mkApp2 (mkConst ``Eq.refl [lv[n]!]) bs[n]! G
 for k in [0:n] do
  let (a, b, h) := ds[k]!
  pf := mkAppN (mkConst ``congr [us[n - 1 - k]!, lv[n - 1 - k]!]) #[tys[k]!, bs[n - 1 - k]!, f, f', a, b, pf, h]
  f := mkApp f a
  f' := mkApp f' b
 let e' := Fast.putIn (tableOf all) (fun i => all[i]!.2.1) e0
 return some (e', mkApp2 (mkConst ``id [.zero]) (mkApp3 (mkConst ``Eq [lv[0]!]) T e0 e') pf)
def twinOf (c : Name) : MetaM Unit := do
 if let some (some (_, b)) := (← Fast.primed.get).get? c then
  if (← getEnv).contains b then return
 let some (.defnInfo d) := (← getEnv).find? c | return
 match ← fastProof d.value with
 | none => Fast.primed.modify (·.insert c none)
 | some (v, pf) =>
   let nm := (`Mine.Twin).str ("w" ++ toString c.hash)
   let en := (`Mine.Twin).str ("e" ++ toString c.hash)
   withOptions (Elab.async.set · false) do
    addDecl (.defnDecl { name := nm, levelParams := [], type := d.type, value := v, hints := d.hints, safety := .safe })
    addDecl (.thmDecl { name := en, levelParams := [], type := ← mkEq (mkConst c) (mkConst nm), value := pf })
   Fast.primed.modify (·.insert c (some (nm, en)))
def noTwin (e : Lean.Expr) : MetaM Unit := Fast.primed.modify (·.insert e.getAppFn.constName! none)
def byLook (P : Lean.Expr) : MetaM Lean.Expr := do
 let W := mkConst ``World
 let some (e', h) ← withLocalDeclD `w W (fun w => do
  let e := (mkApp P w).headBeta
  let some (e', h) ← fastProof e | return none
  return some (← mkLambdaFVars #[w] e', ← mkLambdaFVars #[w] h)) | byKernelOnce P []
 let lem ← byKernelOnce e' []
 let (ty, pf) ← withLocalDeclD `w W fun w => do
  let e := (mkApp P w).headBeta
  pure (← mkForallFVars #[w] e, ← mkLambdaFVars #[w] (← mkAppOptM ``Eq.mpr #[e, (mkApp e' w).headBeta, (mkApp h w).headBeta, mkApp lem w]))
 return mkConst (← withOptions (Elab.async.set · false) (mkAuxLemma [] ty pf (cache := false)))
def whnfFast (e : Lean.Expr) : MetaM Lean.Expr := do ofExceptKernelException (Kernel.whnf (← getEnv) (← getLCtx) (← fastForm e))
def pieceLook (l r : Lean.Expr → Lean.Expr → MetaM Lean.Expr) : MetaM Lean.Expr := do
 let P ← withLocalDeclD `w (mkConst ``World) fun w => withLocalDeclD `os (mkConst ``OsState) fun os => do
  let (a, b) := (← l w os, ← r w os)
  mkLambdaFVars #[w] (← mkEq (← mkLambdaFVars #[os] a) (← mkLambdaFVars #[os] b))
 byLook P
abbrev Laid := Array (Obj × Obj × Lean.Expr)
def layNow (old : Laid) (s s' : Shared) : MetaM Laid := do
 let P := mkConst ``Params
 let tyO ← mkArrow P (mkConst ``Obj)
 unless s.heap.objs.size == s'.heap.objs.size do throwError "left: two worlds part"
 let mut out := #[]
 for i in [0:s.heap.objs.size] do
  let (o, o') := (s.heap.objs[i]!, s'.heap.objs[i]!)
  if let some (a, a', e) := old[i]? then
   if sameObjNow a o && sameObjNow a' o' then out := out.push (a, a', e); continue
  let v ← withLocalDeclD `P P fun p => do
   let e := objE p o
   unless e == objE p o' do throwError "left: an object is the world's"
   mkLambdaFVars #[p] (← fastForm e)
  let c ← defAt `o tyO v
  noTwin c
  out := out.push (o, o', c)
 return out
structure Sta where
 heap : Option Lean.Expr := none
 tree : Option (Lean.Expr × Lean.Expr × Lean.Expr) := none
 gens : Lean.Expr
 drawn : Lean.Expr
 toks : Lean.Expr
def Sta.atT (x : Sta) (w os : Lean.Expr) : Lean.Expr := match x.tree with
 | some (t, n, l) => mkAppN (mkConst ``SharedT.mk) #[mkApp t (mkApp (mkConst ``World.params) w), n, l, x.gens, x.drawn, x.toks, os]
 | none => default
def Sta.at (x : Sta) (w os : Lean.Expr) : Lean.Expr := match x.heap with
 | some h => mkApp5 (mkConst ``Shared.mk) (mkApp h (mkApp (mkConst ``World.params) w)) x.gens x.drawn x.toks os
 | none => mkApp (mkConst ``SharedT.abs) (x.atT w os)
def btE (p : Lean.Expr) (os : Array Lean.Expr) : Nat → Nat → Nat → Lean.Expr
 | 0, _, _ => mkConst ``BT.nil
 | k + 1, a, b => match os[b]? with
   | some o => mkApp3 (mkConst ``BT.node) (mkApp o p) (btE p os k (2 * a) (a + b)) (btE p os k (2 * a) (2 * a + b))
   | none => mkConst ``BT.nil
def staOf (tree : Bool) (old : Laid) (s s' : Shared) : MetaM (Laid × Sta) := do
 let o ← layNow old s s'
 unless toExpr s.drawn == toExpr s'.drawn && s.toks == s'.toks && toExpr s.heap.life == toExpr s'.heap.life do throwError "left: two worlds part"
 let gens ← gensE s s'
 let P := mkConst ``Params
 let os := o.map (·.2.2)
 if tree then
  let v ← withLocalDeclD `P P fun p => mkLambdaFVars #[p] (btE p os 40 1 0)
  let t ← defAt `tree (← mkArrow P (mkConst ``BT)) v
  noTwin t
  return (o, { gens, drawn := toExpr s.drawn, toks := mkRawNatLit s.toks, tree := some (t, mkRawNatLit s.heap.objs.size, toExpr s.heap.life) })
 else
  let v ← withLocalDeclD `P P fun p => do
   mkLambdaFVars #[p] (mkApp2 (mkConst ``Heap.mk) (mkApp2 (mkConst ``Array.mk [0]) (mkConst ``Obj) (listE (mkConst ``Obj) (os.toList.map fun e => mkApp e p))) (toExpr s.heap.life))
  let h ← defAt `heapl (← mkArrow P (mkConst ``Heap)) v
  noTwin h
  return (o, { gens, drawn := toExpr s.drawn, toks := mkRawNatLit s.toks, heap := some h })
def lookParts : Nat → Lean.Expr → Lean.Expr → MetaM Lean.Expr
 | 0, _, _ => throwError "left: looks"
 | fuel + 1, l, r => do
   let W := mkConst ``World
   let O := mkConst ``OsState
   let parts ← withLocalDeclD `w W fun w => withLocalDeclD `os O fun os => do
    let see (e : Lean.Expr) : MetaM Lean.Expr := do
     let e := (mkApp2 e w os).headBeta
     if e.isAppOf ``openSeen || e.isAppOf ``openGood || e.isAppOf ``PySem.W.X.obsZ || e.isAppOf ``PySem.W.X.valZ then return ((← unfoldDefinition? e).getD e).headBeta
     if e.isAppOf ``Hook.obs || e.isAppOf ``Hook.val then
      let e := ((← unfoldDefinition? e).getD e).headBeta
      return (← whnfCore (← deltaExpand e (· == ``kHook))).headBeta
     return e
    let (a, b) := (← see l, ← see r)
    if fuel != 0 && a.isAppOfArity ``Prod.mk 4 && b.isAppOfArity ``Prod.mk 4 then
     let f (e : Lean.Expr) (i : Nat) := mkLambdaFVars #[w, os] e.getAppArgs[i]!
     return some (← f a 2, ← f a 3, ← f b 2, ← f b 3)
    return none
   match parts with
   | some (a1, a2, b1, b2) =>
     let x ← lookParts fuel a1 b1
     let y ← lookParts fuel a2 b2
     withLocalDeclD `w W fun w => withLocalDeclD `os O fun os => do
      mkLambdaFVars #[w, os] (← mkExpectedTypeHint (← mkAppM ``looks_pair #[(mkApp2 x w os).headBeta, (mkApp2 y w os).headBeta]) (← mkEq (mkApp2 l w os).headBeta (mkApp2 r w os).headBeta))
   | none =>
     let once ← withLocalDeclD `w W fun w => withLocalDeclD `os O fun os => do
      let a := (mkApp2 l w os).headBeta
      unless a.isAppOfArity ``List.map 4 && a.getAppArgs[2]!.isAppOfArity ``PySem.Heap.get? 1 do return none
      let (H, L) := (a.getAppArgs[2]!.appArg!, a.appArg!)
      let l' := mkApp3 (mkConst ``pickO) (mkApp2 (mkConst ``Array.toList [0]) (mkConst ``Obj) (mkApp (mkConst ``PySem.Heap.objs) H)) (mkRawNatLit 0) L
      let e := mkApp3 (mkConst ``get_pickO) H L (mkApp2 (mkConst ``Eq.refl [1]) (mkConst ``Bool) (mkConst ``Bool.true))
      return some (← mkLambdaFVars #[w, os] l', ← mkLambdaFVars #[w, os] e)
     if let some (l', e) := once then
      let x ← lookParts fuel l' r
      return ← withLocalDeclD `w W fun w => withLocalDeclD `os O fun os => do mkLambdaFVars #[w, os] (← mkEqTrans (mkApp2 e w os).headBeta (mkApp2 x w os).headBeta)
     let P ← withLocalDeclD `w W fun w => do
      let open_ (e : Lean.Expr) : MetaM Lean.Expr := do
       let e := (mkApp e w).headBeta
       withLocalDeclD `os O fun os => do
        let x := (mkApp e os).headBeta
        if x.isAppOf ``Hook.obs || x.isAppOf ``Hook.val then
         let x := ((← unfoldDefinition? x).getD x).headBeta
         return ← mkLambdaFVars #[os] (← whnfCore (← deltaExpand x (· == ``kHook))).headBeta
        return e
      mkLambdaFVars #[w] (← mkEq (← open_ (mkApp l w |> fun _ => l)) (← open_ r))
     let e ← byLook P
     withLocalDeclD `w W fun w => withLocalDeclD `os O fun os => do
      mkLambdaFVars #[w, os] (← mkAppM ``congrFun #[mkApp e w, os])
def sayT (t0 : Nat) (what : String) : MetaM Unit := do
 let t ← IO.monoMsNow
 IO.eprintln s!"{(t - t0) / 1000}s {what}"
def left (g : MVarId) (pE : Lean.Expr) (p : Program) (_rows : List String) : MetaM Unit := g.withContext do
 let t0 ← IO.monoMsNow
 let T := (← instantiateMVars (← g.getType)).consumeMData
 unless T.isAppOf ``LeftO do throwError "left: another goal"
 for c in T.getUsedConstants do
  if (`PySem).isPrefixOf c && !(`PySem.Challenge).isPrefixOf c then continue
  if let some ci := (← getEnv).find? c then
   if ci.type.isConstOf ``Program || (ci.type.isArrow && ci.type.bindingDomain!.isConstOf ``Params) then twinOf c
 let a := T.getAppArgs
 let (q, loose, Xt, al, Yf, Ya, NE, g0) := (a[1]!, a[2]!, a[3]!, a[4]!, a[5]!, a[6]!, a[7]!, a[8]!)
 let some N ← (Meta.evalNat NE).run | throwError "left: N"
 let (t, t') ← match ← traceTop p N 1, ← traceTop p N 2 with
  | .ok t, .ok t' => pure (t, t')
  | .error m, _ | _, .error m => throwError "left: {m}"
 sayT t0 "traced"
 let tb := mkConst ``treeTable
 let m0 := mkRawNatLit t.s0.heap.objs.size
 let annE := toExpr t.ann
 let one := mkRawNatLit 1
 let main ← mkAppM ``Program.main #[pE]
 let scope ← mkAppM ``Module.scope #[main]
 let side (ty pf : Lean.Expr) : MetaM Lean.Expr := do return mkConst (← withOptions (Elab.async.set · false) (mkAuxLemma [] ty pf (cache := false)))
 let boot ← do
  let names ← mkAppM ``Scope.names #[scope]
  let l ← mkAppM ``opening #[pE]
  let e ← side (← mkEq l (mkApp (mkConst ``plainProg) names)) (← mkEqRefl l)
  let f ← withLocalDeclD `s (mkConst ``Shared) fun s => do
   let r ← mkAppM ``some #[s]
   side (← mkForallFVars #[s] (← mkEq (mkApp2 (mkConst ``fenceModules?) pE s) r)) (← mkLambdaFVars #[s] (← mkEqRefl r))
  let le ← mkDecideProof (← mkEq (mkApp2 (mkConst ``Nat.ble) (mkRawNatLit 600) NE) (mkConst ``Bool.true))
  pure (mkAppN (mkConst ``boot_open) #[pE, NE, e, le, f])
 let bE ← mkAppM ``behindTheImports #[pE]
 let envE ← Term.TermElabM.run' do
  let pS ← Term.exprToSyntax scope
  let cS ← Term.exprToSyntax (toExpr t.code)
  let e ← Term.withSynthesize (Term.elabTermEnsuringType (← `(({ scope := $pS, locals := mainNs, globals := mainNs, cells := [], code := $cS, frame := some $(quote t.frame) } : Env))) (mkConst ``Env))
  instantiateMVars e
 let some cells ← cellsD? bE | throwError "left: the body"
 unless cells.length == t.pieces.length do throwError "left: the body"
 let envE ← defAt `env (mkConst ``Env) envE
 twinOf envE.constName!
 let qE := toExpr t.framePos
 let mut boots : Laid := #[]
 for i in [0:t.s0.heap.objs.size] do
  boots := boots.push (t.s0.heap.objs[i]!, t'.s0.heap.objs[i]!, ← fastForm (mkConst ((`PySem.W).str s!"boot_o_{i}")))
 let S0 : Sta := { heap := some (mkConst ``boot_heap), gens := mkApp2 (mkConst ``Array.mk [0]) (mkConst ``GenState) (mkApp (mkConst ``List.nil [0]) (mkConst ``GenState)), drawn := mkConst ``boot_drawn, toks := mkConst ``boot_toks }
 let (o, Sa) ← staOf false boots t.pre.s t'.pre.s
 let cE := mkApp2 (mkConst ``Code.body) bE envE
 let B := listE (mkConst ``Frame) [mkApp (mkConst ``topFrame) qE]
 let rst (n : Lean.Expr) (f : Name) (w : Lean.Expr) (extra : Array Lean.Expr) (s th : Lean.Expr) := mkAppN (mkConst f) (#[tb, pE, w, m0, annE] ++ extra ++ #[n, s, th])
 let stub := mkApp (mkConst ``topStub) pE
 let pair (a b : Lean.Expr) : MetaM Lean.Expr := mkAppM ``Prod.mk #[a, b]
 let some_ (a : Lean.Expr) : MetaM Lean.Expr := mkAppM ``some #[a]
 let res4 (s pos : Lean.Expr) : MetaM Lean.Expr := do some_ (← pair (mkConst ``Flow.next) (← pair s (← pair cE pos)))
 let bodyTh := mkApp4 (mkConst ``Thread.mk) (mkApp2 (mkConst ``denote) tb cE) cE (toExpr t.pre.pos) B
 let pre ← pieceLook (fun w os => pure (rst (mkRawNatLit t.pre.steps) ``topGo w #[] (S0.at w os) stub)) fun w os => do some_ (← pair (Sa.at w os) bodyTh)
 sayT t0 "pre"
 let (o, Sb) ← staOf true o t.block.s t'.block.s
 let block ← pieceLook (fun w os => pure (rst (mkRawNatLit t.block.steps.succ) ``segRun w #[one] (Sa.at w os) (mkAppN (mkConst ``blockOf) #[bE, envE, cE, toExpr t.pre.pos, B]))) fun w os => res4 (Sb.at w os) (toExpr t.block.pos)
 sayT t0 "block"
 let cap := 4000
 let mut groups : Array (List Lean.Expr × Nat × Snap × Snap) := #[]
 for (st, x, x') in cells.zip (t.pieces.zip t'.pieces) do
  let k := max x.steps x'.steps
  match groups.back? with
  | some (l, n, _, _) => if n + k ≤ cap then groups := groups.pop.push (l ++ [st], n + k, x, x') else groups := groups.push ([st], k, x, x')
  | none => groups := groups.push ([st], k, x, x')
 let mut o := o
 let mut S := Sb
 let mut pos := t.block.pos
 let mut lems := #[]
 let mut idx := 0
 let mut from1 := t.block.s
 let mut from2 := t'.block.s
 for (sts, steps, x, x') in groups do
  let stE ← defAt `sts (mkApp (mkConst ``List [0]) (mkConst ``Stmt)) (listE (mkConst ``Stmt) sts)
  twinOf stE.constName!
  let (o2, S2) ← staOf true o x.s x'.s
  let whole : Lean.Expr := mkAppN (mkConst ``piecesOf) #[stE, envE, cE, toExpr pos, B]
  let (S1, pos1) := (S, pos)
  let lem ← (do
   if steps ≤ cap * 3 / 2 || sts.length > 1 then
    liftT (← pieceLook (fun w os => pure (rst (mkRawNatLit steps.succ) ``segRunT w #[one] (S1.atT w os) whole)) fun w os => res4 (S2.atT w os) (toExpr x.pos)) ``segRun_of
   else
    let th := piecesOf ((t.body.drop idx).take sts.length) t.benv t.bcode pos1 [topFrame t.framePos]
    let (cuts, _) ← cutsNow p 1 cap steps from1 th
    let (cuts', _) ← cutsNow p 2 cap steps from2 th
    unless cuts.size == cuts'.size do throwError "left: two worlds part"
    let mut done : Array (Nat × Sta × (Lean.Expr → Lean.Expr → Lean.Expr) × Sta × (Lean.Expr → Lean.Expr → Lean.Expr) × Lean.Expr) := #[]
    let mut Sj := S1
    let mut oj := o
    let mut thr : Lean.Expr → Lean.Expr → Lean.Expr := fun _ _ => whole
    let mut rest := steps
    for ((c, sj, _), (c', sj', _)) in cuts.toList.zip cuts'.toList do
     unless c == c' do throwError "left: two worlds part"
     let (o3, Sn) ← staOf true oj sj sj'
     let (Sp, tp) := (Sj, thr)
     let thE ← withLocalDeclD `w (mkConst ``World) fun w => withLocalDeclD `os (mkConst ``OsState) fun os => do
      let r ← whnfFast (rst (mkRawNatLit c) ``segGoT w #[one] (Sp.atT w os) (tp w os))
      unless r.isAppOfArity ``Option.some 2 do throwError "left: a cut"
      let r2 ← Dig.kw r.appArg!
      unless r2.isAppOfArity ``Prod.mk 4 do throwError "left: a cut, no pair"
      mkLambdaFVars #[w, os] r2.appArg!
     let thC ← defAt `thread (← mkArrow (mkConst ``World) (← mkArrow (mkConst ``OsState) (mkConst ``Thread))) thE
     noTwin thC
     let tn (w os : Lean.Expr) : Lean.Expr := mkApp2 thC w os
     let l ← liftT (← pieceLook (fun w os => pure (rst (mkRawNatLit c) ``segGoT w #[one] (Sp.atT w os) (tp w os))) fun w os => do some_ (← pair (Sn.atT w os) (tn w os))) ``segGo_of
     done := done.push (c, Sp, tp, Sn, tn, l)
     Sj := Sn
     thr := tn
     oj := o3
     rest := rest - c
     sayT t0 s!"  cut {c}, left {rest}"
    let (Sl, tl) := (Sj, thr)
    let last ← liftT (← pieceLook (fun w os => pure (rst (mkRawNatLit rest.succ) ``segRunT w #[one] (Sl.atT w os) (tl w os))) fun w os => res4 (S2.atT w os) (toExpr x.pos)) ``segRun_of
    let (ty, pf) ← withLocalDeclD `w (mkConst ``World) fun w => do
     let f ← withLocalDeclD `os (mkConst ``OsState) fun os => do
      let r ← res4 (S2.at w os) (toExpr x.pos)
      let mut k ← mkAppM ``congrFun #[mkApp last w, os]
      let mut n := mkRawNatLit rest.succ
      for (c, Sp, tp, Sn, tn, l) in done.toList.reverse do
       k := mkAppN (mkConst ``seg_go) #[tb, pE, w, m0, annE, one, mkRawNatLit c, n, Sp.at w os, Sn.at w os, tp w os, tn w os, r.appArg!, ← mkAppM ``congrFun #[mkApp l w, os], k]
       n := mkApp2 (mkConst ``Nat.add) (mkRawNatLit c) n
      mkLambdaFVars #[os] k
     let l ← withLocalDeclD `os (mkConst ``OsState) fun os => do mkLambdaFVars #[os] (rst (mkRawNatLit steps.succ) ``segRun w #[one] (S1.at w os) whole)
     let r ← withLocalDeclD `os (mkConst ``OsState) fun os => do mkLambdaFVars #[os] (← res4 (S2.at w os) (toExpr x.pos))
     pure (← mkForallFVars #[w] (← mkEq l r), ← mkLambdaFVars #[w] (← mkAppM ``funext #[f]))
    side ty pf)
  lems := lems.push (stE, S1, pos1, S2, steps, x, lem)
  o := o2
  S := S2
  pos := x.pos
  idx := idx + sts.length
  from1 := x.s
  from2 := x'.s
  sayT t0 s!"group of {sts.length}, {steps} steps"
 let (_, Sf) ← staOf false o t.fin.s t'.fin.s
 let (Sm, posm) := (S, pos)
 let fin ← pieceLook (fun w os => pure (rst (mkRawNatLit t.fin.steps.succ) ``topRun w #[] (Sm.at w os) (mkApp4 (mkConst ``Thread.mk) (mkApp (mkConst ``doneF) (mkConst ``Flow.next)) cE (toExpr posm) B))) fun w os => some_ (Sf.at w os)
 sayT t0 "fin"
 let plus (n : Nat) (M : Lean.Expr) := mkApp2 (mkConst ``Nat.add) (mkRawNatLit n) M
 let mut M := mkRawNatLit t.fin.steps.succ
 for (_, _, _, _, steps, _, _) in lems.toList.reverse do M := plus steps.succ M
 let Mall := plus t.pre.steps (plus t.block.steps.succ M)
 let run ← withLocalDeclD `w (mkConst ``World) fun w => withLocalDeclD `os (mkConst ``OsState) fun os => do
  let atW (l : Lean.Expr) : MetaM Lean.Expr := do mkAppM ``congrFun #[mkApp l w, os]
  let r := Sf.at w os
  let common := #[tb, pE, w, m0, annE, envE, qE]
  let mut k ← atW fin
  let mut n := mkRawNatLit t.fin.steps.succ
  let mut rest := listE (mkConst ``Stmt) []
  for (stE, S1, pos1, S2, steps, x, lem) in lems.toList.reverse do
   k := mkAppN (mkConst ``piece_app) (common ++ #[mkRawNatLit steps.succ, n, S1.at w os, S2.at w os, r, stE, rest, cE, toExpr pos1, toExpr x.pos, ← atW lem, k])
   n := plus steps.succ n
   rest ← mkAppM ``HAppend.hAppend #[stE, rest]
  k := mkAppN (mkConst ``piece_block) (common ++ #[mkRawNatLit t.block.steps.succ, n, Sa.at w os, Sb.at w os, r, bE, cE, toExpr t.pre.pos, toExpr t.block.pos, ← atW block, k])
  n := plus t.block.steps.succ n
  k := mkAppN (mkConst ``go_top) (#[tb, pE, w, m0, annE, mkRawNatLit t.pre.steps, n, S0.at w os, Sa.at w os, r, stub, bodyTh, ← atW pre, k])
  let ty ← mkEq (rst Mall ``topRun w #[] (S0.at w os) stub) (← some_ r)
  pure (← mkForallFVars #[w, os] ty, ← mkLambdaFVars #[w, os] k)
 let runN ← side run.1 run.2
 sayT t0 "run"
 let e := mkConst ``LeftO.of_pieces
 let (ms, _, _) ← forallMetaTelescope (← inferType e)
 let vals := #[pE, q, loose, Xt, al, Yf, Ya, NE, g0, S0.heap.get!, Sf.heap.get!, S0.gens, Sf.gens, S0.drawn, Sf.drawn, S0.toks, Sf.toks, m0, annE, Mall]
 for (m, v) in ms.zip vals do m.mvarId!.assign v
 let sizeTy ← instantiateMVars (← inferType ms[21]!)
 let looksTy ← instantiateMVars (← inferType ms[24]!)
 let .forallE n1 d1 b1 i1 := sizeTy | throwError "left: size"
 let size ← byLook (.lam n1 d1 b1 i1)
 sayT t0 "size"
 let .forallE _ _ bd _ := looksTy | throwError "left: looks"
 let (l, r) ← withLocalDeclD `w (mkConst ``World) fun w => do
  let some (_, l, r) := (bd.instantiate1 w).eq? | throwError "left: looks"
  pure (← mkLambdaFVars #[w] l, ← mkLambdaFVars #[w] r)
 let h ← lookParts 13 l r
 let looks ← withLocalDeclD `w (mkConst ``World) fun w => do
  let f ← withLocalDeclD `os (mkConst ``OsState) fun os => do mkLambdaFVars #[os] (mkApp2 h w os).headBeta
  mkLambdaFVars #[w] (← mkAppM ``funext #[f])
 sayT t0 "looks"
 let le ← mkDecideProof (← instantiateMVars (← inferType ms[23]!))
 g.assign (mkAppN e (vals ++ #[boot, size, runN, le, looks]))
def openPf (nm row : Name) : TacticM (Lean.Expr × Lean.Expr) := Term.withDeclName nm do
 let ty := mkApp (mkConst ``OpenLaw.Holds) (mkConst row)
 let g ← mkFreshExprSyntheticOpaqueMVar ty
 let rest ← Tactic.run g.mvarId! (withoutRecover (evalTactic (← `(tactic| (w_on; o_law; z_head; (case hw => w_witness2))))))
 let [hc] := rest | throwError "openTop: the goals"
 let T ← instantiateMVars (← hc.getType)
 let pf ← withLocalDeclD `walk T fun h => do
  hc.assign h
  mkLambdaFVars #[h] (← instantiateMVars g)
 return (← mkArrow T ty, pf)
def openTop (nm row : Name) : TacticM Unit := do
 let (ty, pf) ← openPf nm row
 addDecl (.thmDecl { name := nm, levelParams := [], type := ty, value := pf })
end Mine
section
open PySem PySem.W PyProof.Rows
set_option maxHeartbeats 8000000
theorem Mine.top : True := by
 run_tac do
  let f := (← PySem.W.leftPieces.get).get!
  f default default default ["first"]
  let table ← Fast.primed.get
  PySem.W.leftPieces.set (some Mine.left)
  Mine.twinOf ``PySem.Challenge.pw_aw0014_01
  Mine.twinOf ``PySem.Challenge.rw_aw0014_01
  let (ty, pf) ← Mine.openPf `Mine.hd ``PySem.Challenge.rw_aw0014_01
  Fast.primed.set table
  let env ← Lean.getEnv
  PySem.W.leftPieces.set (some fun _ _ _ rows => do
   if rows == ["first"] then Lean.setEnv env
   if rows == ["head"] then Lean.addDecl (.thmDecl { name := `Mine.hd, levelParams := [], type := ty, value := pf }))
 trivial
end
set_option hygiene false in
local macro_rules | `(k_addr% "a") => `((I, litO ln (j + 1)) :: (ln, listO (ivs ns) 0) :: (k_addr% "aG") :: (k_addr% "dj") :: lawCells F l o f rd xs nl dI (k_addr% "y") (R ++ (Tr ++ Te)))
set_option hygiene false in
local macro_rules | `(k_addr% "b") => `((dI, instO t1 t2 t3 t4 t5 n1 h1 h2 h3 h4 h5 gd nd sd pd))
set_option hygiene false in
local macro_rules | `(k_addr% "c") => `(exQ IX P (fun _ => .ok .next) (k_addr% "bu") (fun x => x.1) (fun x => x.2.1) (fun _ => gl))
set_option hygiene false in
local macro_rules | `(tactic| walk_at "d") => `(tactic| refine Ctr.ofQ (kt1 w) fun RR hR => ?_)
set_option hygiene false in
local macro_rules | `(tactic| walk_at "e") => `(tactic| refine rm_sub (n' := 0) (news' := ((I, litO ln (j + 1)) :: (ln, listO (ivs ns) 0) :: (k_addr% "aG") :: (k_addr% "dj") :: lawCells ⟨a1, a2, a3, a4, a5, a6, c1, c2, c3, c4, c5, c6, vv, num, kd, mo, tv, tn, tk, tm, rest, nF, some ?B⟩ l o f rd xs nl dI (k_addr% "y") (R ++ (Tr ++ Te)))) (fun h M => ?_) ?_)
set_option hygiene false in
local macro_rules | `(tactic| walk_at "f") => `(tactic| refine rm_sub (n' := 0) (news' := ((I, litO ln (j + 1)) :: (ln, listO (ivs ns) 0) :: (k_addr% "aG") :: (k_addr% "dj") :: lawCells ⟨a1, a2, a3, a4, a5, a6, c1, c2, c3, c4, c5, c6, vv, num, kd, mo, tv, tn, tk, tm, rest, nF, some v0⟩ l o f rd xs nl dI (k_addr% "y") (R ++ (Tr ++ Te)))) (fun h M => ?_) ?_)
set_option hygiene false in
local macro_rules | `(tactic| walk_at "g") => `(tactic| have IH2 := fun (G Tr Te : News) (m i : Nat) (p1 p2 : Value) (row : List Int) hPl (B1 B2 B3 : Int) (e1 e2 e3 : Tok) (x0 : Int) (tx0 : Tok) (y0 z0 : Addr) (vv' : Int) (tv2 tm' : Tok) (n' : Nat) => IHc G Tr Te m i ⟨a1, a2, a3, a4, a5, a6, c1, c2, c3, c4, c5, c6, vv', num, kd, mo1, tv2, tn, tk, tm', [⟨B1, .str "w" e1, .int x0 tx0⟩, ⟨B2, .str "row" e2, .ref y0⟩, ⟨B3, .str "place" e3, .ref z0⟩], n', slF⟩ p1 p2 row hPl B1 B2 B3 e1 e2 e3 x0 tx0 y0 z0 rfl rfl)
set_option hygiene false in
local macro_rules | `(tactic| walk_at "h") => `(tactic| obtain ⟨a1, a2, a3, a4, a5, a6, c1, c2, c3, c4, c5, c6, vv, num, kd, mo, tv, tn, tk, tm, rest, nF, slF⟩ := F)
set_option hygiene false in
local macro_rules | `(k_addr% "i") => `((o, selfO dI) :: (k_addr% "b") :: (R ++ T))
set_option hygiene false in
local macro_rules | `(tactic| walk_at "j") => `(tactic| run_tac Mine.walk ([``sg_start, ``k_rblenS, ``k_rfirst, ``k_rlast, ``r_get1, ``r_in0, ``e_get_s, ``e_len_pos, ``e_keys, ``e_item_s, ``e_has_k, ``e_has_kr, ``k_lget, ``c_last, ``k_fmod_n] ++ Mine.intNames) [] { wd := true, lies := true, place := some (716, 11) })
set_option hygiene false in
local macro_rules | `(k_addr% "k") => `((J, tupIt T0 0) :: (T0, tupO [.ref A0, .ref B0]) :: (A0, tup2 (.int u tu) (.int v tv')) :: (B0, tup2 (.int v tv') (.int u tu)) :: (k_addr% "cN") :: (f + 1, cellO (.ref rd)) :: (o, selfO dI) :: (k_addr% "b") :: (R ++ (Tr ++ Te)))
set_option hygiene false in
local macro_rules | `(tactic| walk_at "l") => `(tactic| exact hR _ _ _ _ _ _ ⟨rfl, rfl, rfl, rfl, rfl⟩)
set_option hygiene false in
local macro_rules | `(k_addr% "m") => `((J, tupIt T0 1) :: (T0, tupO [.ref A0, .ref B0]) :: (B0, tup2 (.int v tv') (.int u tu)) :: (f, frS (F'.es l o) F'.n (slotsL f F'.sl)) :: (f + 1, cellO (.ref rd)) :: (o, selfO dI) :: (k_addr% "b") :: ((G ++ R) ++ (Tr ++ Te)))
set_option hygiene false in
local macro_rules | `(k_addr% "n") => `(fun x => (o, selfO dI) :: (k_addr% "b") :: (R ++ x.2.2.1))
set_option hygiene false in
local macro_rules | `(tactic| walk_at "o") => `(tactic| have TT := fun n R Tr Te m i gl F rd ta tb vs r E Er O hrest => tail_ok w b1 b2 hpar h₀ K d os g₀ RR I ln f l o j ns xs nl dI gd nd sd pd t1 t2 t3 t4 t5 n1 h1 h2 h3 h4 h5 QF hR IH R Tr Te n m i gl F rd a b ta tb vs r E Er O hrest)
set_option hygiene false in
local macro_rules | `(tactic| walk_at "p") => `(tactic| dsimp only [Gr.addS, Gr.addP, Gr.addN, Gr.addK, Gr.addQ, Gr.reK, Gr.offK, Gr.offQ] at hv')
set_option hygiene false in
local macro_rules | `(k_addr% "q") => `(exQ (k_addr% "ac") (k_addr% "dL") (fun _ => .ok .next) (fun y => (x.1 + 1 + 1, dictO [⟨y.2.2.2.2.2.2.2.2.1, .str "v" y.2.2.2.2.2.2.2.2.2.1, .int y.2.2.1 y.2.2.2.1⟩] y.2.2.2.2.2.2.2.2.2.2) :: (ac, dictO y.2.2.2.2.2.2.1 y.2.2.2.2.2.2.2.1) :: (f + 1, cellO (.ref rd)) :: (k_addr% "aG") :: ((R ++ y.2.2.2.2.1) ++ T)) (fun y => y.1) (fun y => y.2.1) (fun _ => gl))
set_option hygiene false in
local macro_rules | `(k_addr% "r") => `((I, litO ln (j + 1)) :: (ln, listO (ivs ns) 0) :: (k_addr% "aG") :: (k_addr% "dj") :: lawCells { F with sl := sl' } l o f rd xs nl dI (k_addr% "y") (R ++ (Tr ++ Te)))
set_option hygiene false in
local macro_rules | `(k_addr% "s") => `(fun _ => .ok (.ret .none))
set_option hygiene false in
local macro_rules | `(tactic| walk_at "t") => `(tactic| run_tac Mine.walk [] [] { wd := true })
set_option hygiene false in
local macro_rules | `(k_addr% "u") => `(exQ (k_addr% "bc") (k_addr% "dL") (fun _ => .ok .next) (fun y => (x.1 + 1 + 1, dictO [⟨a3, .str "v" c3, .int y.2.2.1 y.2.2.2.1⟩] nf) :: (ac, dictO y.2.2.2.2.2.2.1 y.2.2.2.2.2.2.2) :: (f + 1, cellO (.ref rd)) :: (k_addr% "aG") :: ((R ++ y.2.2.2.2.1) ++ T)) (fun y => y.1) (fun y => y.2.1) (fun _ => gl))
set_option hygiene false in
local macro_rules | `(k_addr% "v") => `(fun x => (o, selfO dI) :: (k_addr% "b") :: (R ++ x.2.2))
set_option hygiene false in
local macro_rules | `(k_addr% "w") => `(fun x => DE prog1 w (tab vs x.2.2.2.2.2.1) x.2.2.2.2.2.2.1 ∧ Lz x.2.2.2.2.1 x.2.2.2.2.2.1 vs (fun v => turnI (r v)))
set_option hygiene false in
local macro_rules | `(k_addr% "x") => `(fun p hp => by obtain ⟨z, _, rfl⟩ := List.mem_map.mp hp; exact ⟨_, rfl⟩)
set_option hygiene false in
local macro_rules | `(k_addr% "y") => `(instO t1 t2 t3 t4 t5 n1 h1 h2 h3 h4 h5 gd nd sd pd)
set_option hygiene false in
local macro_rules | `(tactic| walk_at "z") => `(tactic| all_goals walk_at "l")
set_option hygiene false in
local macro_rules | `(tactic| walk_at "A") => `(tactic| refine re_choose [0, 1, 2] 3 rfl (hR 0 _ _ _ _ _ ⟨(y.1, y.2.1, y.2.2.2.2.1, y.2.2.2.2.2, _, _, _, _, _), ?_, rfl, rfl, rfl, rfl, rfl⟩))
set_option hygiene false in
local macro_rules | `(tactic| walk_at "B") => `(tactic| have hlen : er.length = vs.length := by have := Dr.pairs.length; simpa [tab] using this)
set_option hygiene false in
local macro_rules | `(k_addr% "C") => `((k_addr% "V") :: (k_addr% "dw") :: (o, selfO dI) :: (k_addr% "b") :: (R ++ T))
set_option hygiene false in
local macro_rules | `(k_addr% "D") => `((I, litO ln j) :: (ln, listO (ivs ns) 0) :: (k_addr% "aG") :: (k_addr% "dj") :: lawCells F l o f rd xs nl dI (k_addr% "y") (R ++ (Tr ++ Te)))
set_option hygiene false in
local macro_rules | `(tactic| walk_at "E") => `(tactic| exact hR 0 _ _ _ _ _ ⟨x, hx, rfl, rfl, rfl, rfl, rfl⟩)
set_option hygiene false in
local macro_rules | `(k_addr% "F") => `(fun q => (x1.1+1+1+1+1, litO (x1.1+1+1+1) 0) :: (x1.1+1+1+1, listO (ivs x3) 0) :: (l, listO (ivs ps) n) :: (m, frO [⟨q.1, .str "script" i, .ref l⟩, ⟨q.2.1, .str "embedding" x.2.1, .ref x.2.2.o⟩, ⟨q.2.2.1, .str "v" q.2.2.2.1, .int q.2.2.2.2.1 q.2.2.2.2.2.1⟩] q.2.2.2.2.2.2.1) :: (m+1, cellO (.ref x.1)) :: (m+2, cellN) :: (m+3, cellN) :: (x.2.2.o, selfO x.2.2.dI) :: (x.2.2.dI, x.2.2.inst) :: (R ++ ([(x.1, dictO q.2.2.2.2.2.2.2.1 q.2.2.2.2.2.2.2.2), (y.1 + 1 + 1, listO [] 0), (y.1 + 1 + 1 + 1, listO [] 0), (y.1 + 1 + 1 + 1 + 1, listO [] 0)] ++ y.2.2.1)))
set_option hygiene false in
local macro_rules | `(k_addr% "G") => `(.builtin "list.extend.loop" ⟨[.ref L, .ref G, .none], []⟩)
set_option hygiene false in
local macro_rules | `(tactic| walk_at "H") => `(tactic| run_tac Mine.walk ([``sg_start, ``k_rlen0, ``r_get1, ``r_in0, ``e_get_s, ``e_len_zero, ``k_lget, ``c_last, ``k_fmod_n] ++ Mine.intNames) [] { wd := true, lies := true, place := some (716, 11) })
set_option hygiene false in
local macro_rules | `(tactic| walk_at "I") => `(tactic| have zz := fun m i (_ : List GenState) => TT 0 m i (some ?B))
set_option hygiene false in
local macro_rules | `(tactic| walk_at "J") => `(tactic| have zz := fun m i (_ : List GenState) => TT 0 m i (some v0))
set_option hygiene false in
local macro_rules | `(k_addr% "K") => `(exQ IX (k_addr% "bQ") (fun _ => .ok .next) (k_addr% "bu") (fun x => x.1) (fun x => x.2.1) (fun _ => gl))
set_option hygiene false in
local macro_rules | `(k_addr% "L") => `(exQ (k_addr% "ct") (fun x => Emb w x.2.2.1 nd sd pd x.2.2.2 (G0.addE u v v v)) (k_addr% "s") (k_addr% "n") (fun x => x.1) (fun x => x.2.1) (fun _ => gl))
set_option hygiene false in
local macro_rules | `(tactic| walk_at "M") => `(tactic| run_tac Mine.walk ([``sg_startO, ``k_llen0, ``r_get0A, ``k_in_nil, ``e_get_s0, ``k_lget, ``c_last, ``k_fmod_n] ++ Mine.intNames) [] { wd := true, lies := true, place := some (716, 11) })
set_option hygiene false in
local macro_rules | `(tactic| walk_at "N") => `(tactic| have z2 : (addIf (addIf vs u) v).length ≤ 100 := nodup_le (addIf_nodup (addIf_nodup vn u) v) (addIf_ok O1 ov).vo)
set_option hygiene false in
local macro_rules | `(tactic| walk_at "O") => `(tactic| refine rm_sub (n' := 0) (news' := (I, litO ln (j + 1)) :: (ln, listO (ivs ns) 0) :: (k_addr% "aG") :: (k_addr% "dj") :: lawCells F l o f rd xs nl dI (k_addr% "y") (R ++ (Tr1 ++ Te))) (fun h M => ?_) ?_)
set_option hygiene false in
local macro_rules | `(k_addr% "P") => `((o, selfO dI) :: (k_addr% "b") :: (R ++ (Tr ++ T)))
set_option hygiene false in
local macro_rules | `(k_addr% "Q") => `((J, tupIt T0 1) :: (T0, tupO [.ref A0, .ref B0]) :: (B0, tup2 (.int u tu) (.int v tv')) :: (k_addr% "cN") :: (f + 1, cellO (.ref rd)) :: (o, selfO dI) :: (k_addr% "b") :: (R ++ (Tr ++ Te)))
set_option hygiene false in
local macro_rules | `(k_addr% "R") => `(fun x => (o, selfO dI) :: (k_addr% "b") :: (R ++ (Tr ++ x.2.2)))
set_option hygiene false in
local macro_rules | `(k_addr% "S") => `(fun x => (xx.1 + 1 + 1, dictO [⟨x.2.2.2.2.2.2.2.2.1, .str "v" x.2.2.2.2.2.2.2.2.2.1, .int x.2.2.1 x.2.2.2.1⟩] x.2.2.2.2.2.2.2.2.2.2) :: (ac, dictO x.2.2.2.2.2.2.1 x.2.2.2.2.2.2.2.1) :: (mf + 1, cellO (.ref rd)) :: ((R ++ x.2.2.2.2.1) ++ T))
set_option hygiene false in
local macro_rules | `(k_addr% "T") => `(exQ (Nat × Nat × Nat) (fun _ => True) (k_addr% "s") (fun x => (L, listO zs x.2.2) :: (R ++ T)) (fun x => x.1) (fun x => x.2.1) (fun _ => [.finished]))
set_option hygiene false in
local macro_rules | `(tactic| walk_at "U") => `(tactic| obtain ⟨mo1, em⟩ : ∃ q, mo.fdiv (Int.ofNat 7) = q := ⟨_, rfl⟩)
set_option hygiene false in
local macro_rules | `(k_addr% "V") => `((G, genO g₀.length s1 s2 k1 k2))
set_option hygiene false in
local macro_rules | `(tactic| walk_at "W") => `(tactic| obtain ⟨o, g, es, n, rfl, D⟩ := E.cel (.s u) hu)
set_option hygiene false in
local macro_rules | `(tactic| walk_at "X") => `(tactic| exact H _ _ _ _ _ h' ⟨(y.1, y.2.1, y.2.2.1, y.2.2.2.1, y.2.2.2.2.1, y.2.2.2.2.2.1, y.2.2.2.2.2.2.1, y.2.2.2.2.2.2.2, _, _, _), hy, rfl, rfl, rfl, rfl, rfl⟩ M' hs')
set_option hygiene false in
local macro_rules | `(tactic| walk_at "Y") => `(tactic| refine re_choose [0, 1, 2] 3 rfl (hR 0 _ _ _ _ _ ⟨y, ?_, rfl, rfl, rfl, rfl, rfl⟩))
set_option hygiene false in
local macro_rules | `(k_addr% "Z") => `((J, tupIt T0 2) :: (T0, tupO [.ref A0, .ref B0]) :: (f, frS (F'.es l o) F'.n (slotsL f F'.sl)) :: (f + 1, cellO (.ref rd)) :: (o, selfO dI) :: (k_addr% "b") :: ((G ++ R) ++ (Tr ++ Te)))
set_option hygiene false in
local macro_rules | `(k_addr% "aa") => `((L, listO [] nL) :: (k_addr% "V") :: (k_addr% "dw") :: (o, selfO dI) :: (k_addr% "b") :: (R ++ T))
set_option hygiene false in
local macro_rules | `(k_addr% "ab") => `(.call (.ref 621) ⟨[.ref o, .int u tu, .int v tv], [("ccw", .int cy ty), ("cw", .int cx tx)]⟩)
set_option hygiene false in
local macro_rules | `(k_addr% "ac") => `(Nat × Nat × Int × Tok × News × (Int → Addr) × List DictEntry × Nat × Int × Tok × Nat)
set_option hygiene false in
local macro_rules | `(tactic| walk_at "ad") => `(tactic| have hr := D.refs (k_addr% "x"))
set_option hygiene false in
local macro_rules | `(tactic| walk_at "ae") => `(tactic| run_tac Mine.byKernelM `zz)
set_option hygiene false in
local macro_rules | `(tactic| walk_at "af") => `(tactic| rintro _ _ _ _ _ ⟨rfl, rfl, rfl, rfl, rfl⟩)
set_option hygiene false in
local macro_rules | `(tactic| walk_at "ag") => `(tactic| obtain ⟨L, er, nr, g, D, l⟩ := E)
set_option hygiene false in
local macro_rules | `(tactic| walk_at "ah") => `(tactic| have ha : a ∈ vs := Classical.byContradiction fun q => by rw [O.ok.out a q] at hb; cases hb)
set_option hygiene false in
local macro_rules | `(k_addr% "ai") => `(∀ n r news' m' i' gl', Q r news' m' i' gl' → RE ⟨prog1, w, h₀, 0, kt1 w, [], (aroundT 10 f), RR, d, 0, os⟩ g₀ n r news' m' i' gl')
set_option hygiene false in
local macro_rules | `(tactic| walk_at "aj") => `(tactic| rintro _ _ _ _ _ h' ⟨rfl, rfl, rfl, rfl, rfl⟩ M' hs')
set_option hygiene false in
local macro_rules | `(k_addr% "ak") => `(.call (.ref 918) ⟨[.ref rd, .int v tv, .int w' tw, .int number tn], []⟩)
set_option hygiene false in
local macro_rules | `(tactic| walk_at "al") => `(tactic| rcases Classical.em (z = u) with rfl | h)
set_option hygiene false in
local macro_rules | `(tactic| walk_at "am") => `(tactic| dsimp only [Gr.addS, Gr.addP, Gr.addN, Gr.addK, Gr.addQ, Gr.reK, Gr.offK, Gr.offQ] at hv)
set_option hygiene false in
local macro_rules | `(tactic| walk_at "an") => `(tactic| have m1 : u ∈ addIf (addIf vs u) v := mem_addIf.mpr (.inl (mem_addIf.mpr (.inr rfl))))
set_option hygiene false in
local macro_rules | `(tactic| walk_at "ao") => `(tactic| exact hR 0 _ _ _ _ _ ⟨y, hy, rfl, rfl, rfl, rfl, rfl⟩)
set_option hygiene false in
local macro_rules | `(k_addr% "ap") => `(IH _ _ _ _ _ _ _ _ _ _ _ _ _ H)
set_option hygiene false in
local macro_rules | `(tactic| walk_at "aq") => `(tactic| rintro r news' m' i' gl' ⟨y, hy, rfl, rfl, rfl, rfl, rfl⟩)
set_option hygiene false in
local macro_rules | `(k_addr% "ar") => `((o, selfO dI) :: (k_addr% "b") :: (R ++ (Tr ++ Te)))
set_option hygiene false in
local macro_rules | `(k_addr% "as") => `((f, frO [⟨a1, .str "script" c1, .ref l⟩, ⟨a2, .str "embedding" c2, .ref o⟩, ⟨a3, .str "v" c3, .int vv tvv⟩] nf))
set_option hygiene false in
local macro_rules | `(tactic| walk_at "at") => `(tactic| run_tac Mine.walk ([``ea_c, ``c_last, ``c_int_ne, ``c_int_ne', ``c_supget] ++ Mine.embNames) [] { wd := true, lies := true })
set_option hygiene false in
local macro_rules | `(tactic| walk_at "au") => `(tactic| refine ⟨(_, _, _, _, _, _, _, _, _), M2, ⟨fun v => if v = 4 then y.1 + 1 + 1 else if v = 2 then y.1 + 1 + 1 + 1 else y.1 + 1 + 1 + 1 + 1, _, _, getL_head _ _ _, (((DE.nil (prog := prog1) (w := w)).store 4 y.2.1 (.ref (y.1 + 1 + 1))).store 2 (y.2.1 + 1) (.ref (y.1 + 1 + 1 + 1))).store 5 (y.2.1 + 1 + 1) (.ref (y.1 + 1 + 1 + 1 + 1)), ?_⟩⟩)
set_option hygiene false in
local macro_rules | `(k_addr% "av") => `(fun h M => ⟨_, M.head, rfl⟩)
set_option hygiene false in
local macro_rules | `(tactic| walk_at "aw") => `(tactic| obtain ⟨o, g, es, n, rfl, D⟩ := E.cel .sd trivial)
set_option hygiene false in
local macro_rules | `(tactic| walk_at "ax") => `(tactic| have hd : ps.drop j = (v, tv) :: ps.drop (j + 1) := by rw [List.drop_eq_getElem_cons hjl, hpe])
set_option hygiene false in
local macro_rules | `(k_addr% "ay") => `(.call (.builtin "generator.__next__") ⟨[.ref G], []⟩)
set_option hygiene false in
local macro_rules | `(tactic| walk_at "az") => `(tactic| rcases List.mem_append.mp hz with h | h)
set_option hygiene false in
local macro_rules | `(k_addr% "aA") => `(.builtin "dict.__setitem__")
set_option hygiene false in
local macro_rules | `(tactic| walk_at "aB") => `(tactic| have hu : valueAt (tab vs L) k = some (.ref (L k)) := tab_in hkm)
set_option hygiene false in
local macro_rules | `(tactic| walk_at "aC") => `(tactic| have f2 : v ∈ (((G.offK u v).offQ v u).offK v u).ps u := by show v ∈ upd _ _ _ u; rw [upd_ne _ _ huv]; exact qvu)
set_option hygiene false in
local macro_rules | `(tactic| walk_at "aD") => `(tactic| have z1 : (addIf vs u).length ≤ 100 := nodup_le (addIf_nodup vn u) O1.vo)
set_option hygiene false in
local macro_rules | `(tactic| walk_at "aE") => `(tactic| run_tac Mine.walk ([``q_keynext] ++ Mine.intNames ++ Mine.dictNames ++ Mine.datNames) [] { stops := ["compStart"] })
set_option hygiene false in
local macro_rules | `(k_addr% "aF") => `(exQ (k_addr% "ct") (fun x => Emb w x.2.2.1 nd sd pd x.2.2.2 (((G0.addE u v c (G.y u c)).setX u (G.y u c) v).setY u c v)) (k_addr% "s") (k_addr% "n") (fun x => x.1) (fun x => x.2.1) (fun _ => gl))
set_option hygiene false in
local macro_rules | `(k_addr% "aG") => `((f + 2, cellO (.int a ta)))
set_option hygiene false in
local macro_rules | `(k_addr% "aH") => `(((aroundOf V true κ).under c).mark hd)
set_option hygiene false in
local macro_rules | `(k_addr% "aI") => `((I, keyIt a j es.length n) :: (L, listO xs nL) :: (a, dictO es n) :: R)
set_option hygiene false in
local macro_rules | `(k_addr% "aJ") => `(exQ (k_addr% "ct") (fun x => Emb w x.2.2.1 nd sd pd x.2.2.2 ((G.addV v).addE u v cx cy) ∧ A.s u = x.2.2.2.s u) (k_addr% "s") (k_addr% "n") (fun x => x.1) (fun x => x.2.1) (fun _ => gl))
set_option hygiene false in
local macro_rules | `(tactic| walk_at "aK") => `(tactic| run_tac Mine.walk ([``q_keynext_end] ++ Mine.dictNames ++ Mine.datNames))
set_option hygiene false in
local macro_rules | `(k_addr% "aL") => `(.builtin "dict.__getitem__")
set_option hygiene false in
local macro_rules | `(tactic| walk_at "aM") => `(tactic| all_goals ((try simp only [Nat.add_assoc]); exact Nat.le_add_right _ _))
set_option hygiene false in
local macro_rules | `(tactic| walk_at "aN") => `(tactic| obtain ⟨o, g, D, rfl, hx, hy⟩ := E.cel (.d u v) (E.ok.kh u v hu hv))
set_option hygiene false in
local macro_rules | `(tactic| walk_at "aO") => `(tactic| have x := keq_ints (A := aroundL 460) (s := ⟨h, ⟨gcat g₀ gl⟩, d, i, os⟩) (a := La v) (b := Lb v) (vs := ivs pa) (us := ivs pb) (ns := pa.map Prod.fst) (ms := pb.map Prod.fst) ⟨_, (M.nw _ (ma q1)).1, rfl, _, rfl⟩ (ivs_ints pa) ⟨_, (M.nw _ (ma q2)).1, rfl, _, rfl⟩ (ivs_ints pb) (by decide))
set_option hygiene false in
local macro_rules | `(k_addr% "aP") => `(exQ (k_addr% "ct") (fun x => Emb w x.2.2.1 nd sd pd x.2.2.2 (G0.addE u v cx cy) ∧ A.s u = x.2.2.2.s u) (k_addr% "s") (k_addr% "n") (fun x => x.1) (fun x => x.2.1) (fun _ => gl))
set_option hygiene false in
local macro_rules | `(k_addr% "aQ") => `(exQ (k_addr% "ct") (fun x => Emb w x.2.2.1 nd sd pd x.2.2.2 (G.addE u v cx cy) ∧ A.s u = x.2.2.2.s u) (k_addr% "s") (k_addr% "n") (fun x => x.1) (fun x => x.2.1) (fun _ => gl))
set_option hygiene false in
local macro_rules | `(tactic| walk_at "aR") => `(tactic| have he : (⟨ivs ps⟩ : Array Value)[j]? = some (.int v tv) := by simp [hjl, hpe])
set_option hygiene false in
local macro_rules | `(tactic| walk_at "aS") => `(tactic| obtain ⟨hs, k, t, b, pk, nk, he, hkm, hkn, ht, gk, ek⟩ := dc_turn er nr vs L r Dr hL hlen j (by omega))
set_option hygiene false in
local macro_rules | `(tactic| walk_at "aT") => `(tactic| run_tac Mine.walk (Mine.intNames ++ [``c_lnext]) [] { place := some (687, 11), wd := true, lies := true })
set_option hygiene false in
local macro_rules | `(tactic| walk_at "aU") => `(tactic| have he : (⟨ivs ((v, tv) :: ps)⟩ : Array Value)[0]? = some (.int v tv) := rfl)
set_option hygiene false in
local macro_rules | `(tactic| walk_at "aV") => `(tactic| run_tac Mine.walk ([``q_lnext, ``c_appendI] ++ Mine.intNames) [`IH])
set_option hygiene false in
local macro_rules | `(tactic| walk_at "aW") => `(tactic| run_tac Mine.walk ([``q_lnext, ``c_append0] ++ Mine.intNames) [`IH])
set_option hygiene false in
local macro_rules | `(tactic| walk_at "aX") => `(tactic| run_tac Mine.walk [``c_rowsK, ``c_nodeI, ``c_nodeL, ``c_nodeX, ``c_leq] [] { wd := true, lies := true })
set_option hygiene false in
local macro_rules | `(tactic| walk_at "aY") => `(tactic| run_tac Mine.walk ([``c_int_ne, ``c_int_ne'] ++ Mine.dictNames ++ Mine.datNames))
set_option hygiene false in
local macro_rules | `(k_addr% "aZ") => `(.call (.builtin "dict_keyiterator.__next__") ⟨[.ref I], []⟩)
set_option hygiene false in
local macro_rules | `(tactic| walk_at "ba") => `(tactic| refine re_choose [10] 13 rfl (hR 0 _ _ _ _ _ ⟨(_, _, _, x6.2.2.2.2), ?_, rfl, rfl, rfl, rfl, rfl⟩))
set_option hygiene false in
local macro_rules | `(tactic| walk_at "bb") => `(tactic| run_tac Mine.walk ([``q_keynext] ++ Mine.dictNames ++ Mine.datNames) [] { stops := ["call ref 901"] })
set_option hygiene false in
local macro_rules | `(k_addr% "bc") => `(Nat × Nat × Int × Tok × News × (Int → Addr) × List DictEntry × Nat)
set_option hygiene false in
local macro_rules | `(k_addr% "bd") => `(exQ (Nat × Nat × Nat) (fun _ => True) (k_addr% "s") (fun x => (L, listO (((s, ts) :: ws).map intV) x.2.2) :: (o, selfO dI) :: (k_addr% "b") :: (R ++ T)) (fun x => x.1) (fun x => x.2.1) (fun _ => [.finished]))
set_option hygiene false in
local macro_rules | `(k_addr% "be") => `(.call (.builtin "list.__getitem__") ⟨[.ref l, .ref S], []⟩)
set_option hygiene false in
local macro_rules | `(tactic| walk_at "bf") => `(tactic| run_tac Mine.walk (Mine.embNames ++ [``c_update_c, ``c_update_w]))
set_option hygiene false in
local macro_rules | `(k_addr% "bg") => `(∀ r news' m' i' gl' h', Q r news' m' i' gl' → Mm h₀ h' news' → h'.objs.size = m' → R r ⟨h', ⟨gcat g₀ gl'⟩, d, i', os⟩)
set_option hygiene false in
local macro_rules | `(k_addr% "bh") => `(.builtin "min.loop" ⟨[.ref I, .none, .ref B], []⟩)
set_option hygiene false in
local macro_rules | `(tactic| walk_at "bi") => `(tactic| refine rm_subF (n' := 0) (news' := _) (P := Rz w (Tr1 ++ (Te1 ++ (x6.2.2.2.1 ++ x7.2.2.2))) x6.2.2.1 (x2.2.2.2.map Prod.fst) (fun v => turnI (r v)) ∧ Rz w (Tr1 ++ (Te1 ++ (x6.2.2.2.1 ++ x7.2.2.2))) x7.2.2.1 vs (fun v => turnI (r v))) (fun h M => ⟨M, ?_⟩) fun hAB => ?_)
set_option hygiene false in
local macro_rules | `(k_addr% "bj") => `(Nat × Nat × Nat × List (Int × Tok) × Int × Tok × Int × Tok × Nat)
set_option hygiene false in
local macro_rules | `(k_addr% "bk") => `(exQ Addr (fun l => Lrow T l (r v)) (fun l => .ok (.ret (.ref l))) (fun _ => R ++ (T ++ Te)) (fun _ => m) (fun _ => i + 1) (fun _ => gl))
set_option hygiene false in
local macro_rules | `(k_addr% "bl") => `((I, litO ln j) :: (ln, listO (ivs ns) 0) :: (l, listO xs nl) :: (k_addr% "as") :: (f + 1, cellO (.ref rd)) :: (f + 2, cellN) :: (f + 3, cellN) :: R)
set_option hygiene false in
local macro_rules | `(k_addr% "bm") => `((l, listO (ivs ps) n) :: R)
set_option hygiene false in
local macro_rules | `(tactic| walk_at "bn") => `(tactic| exact hR 0 _ _ _ _ _ ⟨x, trivial, rfl, rfl, rfl, rfl, rfl⟩)
set_option hygiene false in
local macro_rules | `(tactic| walk_at "bo") => `(tactic| have hq : pk.length ≤ 400 := by have := hr k hkm; rw [← ek, List.length_map] at this; omega)
set_option hygiene false in
local macro_rules | `(k_addr% "bp") => `(pickL news is ++ news.drop k)
set_option hygiene false in
local macro_rules | `(k_addr% "bq") => `(.builtin "dict.__contains__")
set_option hygiene false in
local macro_rules | `(k_addr% "br") => `(exQ (Nat × Nat × News) (fun x => EmbC w x.2.2 nd sd pd vs (cutR r u v)) (k_addr% "s") (k_addr% "v") (fun x => x.1) (fun x => x.2.1) (fun _ => gl))
set_option hygiene false in
local macro_rules | `(k_addr% "bs") => `(exQ (Nat × Nat × News) (fun x => EmbC w x.2.2 nd sd pd vo (pre fz vs)) (fun _ => .ok .next) (fun x => (o, selfO dI) :: (k_addr% "b") :: (R ++ (Td ++ x.2.2))) (fun x => x.1) (fun x => x.2.1) (fun _ => gl))
set_option hygiene false in
local macro_rules | `(tactic| walk_at "bt") => `(tactic| have f1 : u ∈ (G.offK u v).ks v := by show u ∈ upd _ _ _ v; rw [upd_ne _ _ hvu]; exact kvu)
set_option hygiene false in
local macro_rules | `(k_addr% "bu") => `(fun x => (f, frS (x.2.2.2.2.2.2.1.es l o) x.2.2.2.2.2.2.1.n (slotsL f x.2.2.2.2.2.2.1.sl)) :: (f + 1, cellO (.ref rd)) :: (o, selfO dI) :: (k_addr% "b") :: (x.2.2.2.2.2.2.2 ++ (x.2.2.1 ++ x.2.2.2.1)))
set_option hygiene false in
local macro_rules | `(k_addr% "bv") => `(fun x => .ok (.ret (.ref x.2.2.1)))
set_option hygiene false in
local macro_rules | `(k_addr% "bw") => `(.call (.ref 839) ⟨[.ref o, .int u tu, .int v tv], []⟩)
set_option hygiene false in
local macro_rules | `(tactic| walk_at "bx") => `(tactic| refine wpAny_bind (wpAny_dictFind_of (s := { s with toks := s.toks + 1 }) hkey ho rfl hk ?_))
set_option hygiene false in
local macro_rules | `(tactic| walk_at "by") => `(tactic| rw [← PySem.W.R.concatR_eq, List.concat_eq_append])
set_option hygiene false in
local macro_rules | `(k_addr% "bz") => `(fun x => (p + 4, dictO [⟨x.2.2.2.2.2.2.2.2.1, .str "v" x.2.2.2.2.2.2.2.2.2.1, .int x.2.2.1 x.2.2.2.1⟩] x.2.2.2.2.2.2.2.2.2.2) :: (ac, dictO x.2.2.2.2.2.2.1 x.2.2.2.2.2.2.2.1) :: (p + 1, cellO (.ref rd)) :: ((R ++ x.2.2.2.2.1) ++ T))
set_option hygiene false in
local macro_rules | `(k_addr% "bA") => `(exQ (Nat × Addr × Nat × List (Int × Tok)) (fun x => (x.2.2.2.map Prod.fst).Perm vs) (fun x => .ok (.ret (.ref x.2.1))) (fun x => [(x.2.1, listO (ivs x.2.2.2) x.2.2.1)] ++ (R ++ (T ++ Te))) (fun x => x.1) (fun _ => i) (fun _ => gl))
set_option hygiene false in
local macro_rules | `(tactic| walk_at "bB") => `(tactic| obtain ⟨v, tv, hpe⟩ : ∃ v tv, ps[j] = (v, tv) := ⟨_, _, rfl⟩)
set_option hygiene false in
local macro_rules | `(k_addr% "bC") => `(.call (.builtin "list.__contains__") ⟨[.ref l, .int x tx], []⟩)
set_option hygiene false in
local macro_rules | `(k_addr% "bD") => `(.call (k_addr% "bq") ⟨[.ref a, .int k t], []⟩)
set_option hygiene false in
local macro_rules | `(tactic| walk_at "bE") => `(tactic| obtain ⟨h1, h2⟩ := mem_offI.mp hv)
set_option hygiene false in
local macro_rules | `(k_addr% "bF") => `(.call (k_addr% "aL") ⟨[.ref a, .int k t], []⟩)
set_option hygiene false in
local macro_rules | `(tactic| walk_at "bG") => `(tactic| simp only [List.map_append, List.map_take, List.map_drop, List.map_cons, List.map_nil])
set_option hygiene false in
local macro_rules | `(k_addr% "bH") => `((I, litO l j) :: (B, listO [.int v u, .int v u] nB) :: (l, listO (ivs ps) n) :: R)
set_option hygiene false in
local macro_rules | `(tactic| walk_at "bI") => `(tactic| have he : (⟨ivs ps⟩ : Array Value)[j]? = none := by simp; omega)
set_option hygiene false in
local macro_rules | `(k_addr% "bJ") => `(.call (.builtin "dict.get") ⟨[.ref a, .int k t, dflt], []⟩)
set_option hygiene false in
local macro_rules | `(k_addr% "bK") => `((L, listO xs nL) :: (k_addr% "V") :: (f, frO (F.es2 o v tv su s ts cur tcur) F.n) :: (R ++ T))
set_option hygiene false in
local macro_rules | `(tactic| walk_at "bL") => `(tactic| exact re_choose [3, 4, 5] 6 rfl (hR 0 _ _ _ _ _ ⟨(_, _, v0, tv0, na, qs), by simp [offI], rfl, rfl, rfl, rfl, rfl⟩))
set_option hygiene false in
local macro_rules | `(k_addr% "bM") => `(∀ h, ORep V h news m → MG V c md κ t (OSt V g₀ h i gl))
set_option hygiene false in
local macro_rules | `(k_addr% "bN") => `(.builtin "list.extend.loop" ⟨[.ref L, .ref I, .none], []⟩)
set_option hygiene false in
local macro_rules | `(tactic| walk_at "bO") => `(tactic| simp only at hsl hm TT ⊢)
set_option hygiene false in
local macro_rules | `(tactic| walk_at "bP") => `(tactic| refine ⟨⟨⟨m, m, m, 0, 0⟩, Nat.le_refl _, Nat.le_refl _, Nat.le_refl _⟩, Ctr.ofQ (kt1 w) fun RR hR => ?_⟩)
set_option hygiene false in
local macro_rules | `(k_addr% "bQ") => `(fun x => EmbC w x.2.2.2.1 nd sd pd x.2.2.2.2.1 x.2.2.2.2.2.1 ∧ Rz w x.2.2.1 rd x.2.2.2.2.1 x.2.2.2.2.2.1 ∧ Inv x.2.2.2.2.1 x.2.2.2.2.2.1 ∧ RestS x.2.2.2.2.2.2.1.rest ∧ ∃ G, x.2.2.2.2.2.2.2 = G ++ R)
set_option hygiene false in
local macro_rules | `(k_addr% "bR") => `((I, litO ln (j + 1)) :: (ln, listO (ivs ns) 0) :: (f + 2, cellO (.int a0 ta)) :: (f + 3, cellO (.int b0 tb)) :: (l, listO xs nl) :: (f, frS (F'.es l o) F'.n (slotsL f F'.sl)) :: (f + 1, cellO (.ref rd)) :: R)
set_option hygiene false in
local macro_rules | `(k_addr% "bS") => `((I, litO ln (j + 1)) :: (ln, listO (ivs ns) 0) :: (f + 2, cellO (.int a0 ta)) :: (f + 3, cellO (.int b3 tb)) :: (l, listO xs nl) :: (f, frS (F'.es l o) F'.n (slotsL f F'.sl)) :: (f + 1, cellO (.ref rd)) :: R)
set_option hygiene false in
local macro_rules | `(tactic| walk_at "bT") => `(tactic| obtain ⟨o, g, es, n, rfl, D⟩ := E.cel .nd trivial)
set_option hygiene false in
local macro_rules | `(tactic| walk_at "bU") => `(tactic| rintro _ _ _ _ _ ⟨x, hx, rfl, rfl, rfl, rfl, rfl⟩)
set_option hygiene false in
local macro_rules | `(tactic| walk_at "bV") => `(tactic| rintro _ _ _ _ _ ⟨c, hc, rfl, rfl, rfl, rfl, rfl⟩)
set_option hygiene false in
local macro_rules | `(tactic| walk_at "bW") => `(tactic| rintro _ _ _ _ _ h' ⟨x, hx, rfl, rfl, rfl, rfl, rfl⟩ M' hs')
set_option hygiene false in
local macro_rules | `(tactic| walk_at "bX") => `(tactic| rintro _ _ _ _ _ h' ⟨y, hy, rfl, rfl, rfl, rfl, rfl⟩ M' hs')
set_option hygiene false in
local macro_rules | `(tactic| walk_at "bY") => `(tactic| rcases Classical.em (v ∈ vs) with h | h)
set_option hygiene false in
local macro_rules | `(k_addr% "bZ") => `((I, litO ln j) :: (ln, listO (ivs ns) 0) :: (f + 2, cellO (.int aa taa)) :: (f + 3, cellO (.int ab' tab')) :: (l, listO xs nl) :: (k_addr% "cN") :: (f + 1, cellO (.ref rd)) :: R)
set_option hygiene false in
local macro_rules | `(k_addr% "ca") => `(exQ (Nat × Nat) (fun _ => True) (fun _ => .ok .next) (fun x => (xx.1 + 1 + 1, dictO [] nf) :: (ac, dictO [] 0) :: (mf + 1, cellO (.ref rd)) :: (R ++ T)) (fun x => x.1) (fun x => x.2) (fun x => gl))
set_option hygiene false in
local macro_rules | `(tactic| walk_at "cb") => `(tactic| refine wpAny_bind (wpAny_notOrdered_dict ⟨_, ho, rfl⟩ ?_))
set_option hygiene false in
local macro_rules | `(tactic| walk_at "cc") => `(tactic| rintro r n0 m0 i0 gl0 h' ⟨rfl, rfl, rfl, rfl, rfl⟩ M' hs')
set_option hygiene false in
local macro_rules | `(tactic| walk_at "cd") => `(tactic| have hd : ps.drop j = [] := List.drop_eq_nil_of_le (by omega))
set_option hygiene false in
local macro_rules | `(k_addr% "ce") => `((L, listO xs nL) :: (k_addr% "V") :: (f, frO (F.es o v tv su s ts) F.n) :: (R ++ T))
set_option hygiene false in
local macro_rules | `(k_addr% "cf") => `(.defnDecl { name := nm, levelParams := [], type := ty, value := v, hints := .abbrev, safety := .safe })
set_option hygiene false in
local macro_rules | `(k_addr% "cg") => `(exQ News (fun T' => Emb w T' nd sd pd (A.setD u v x) (G.addK u v cx cy) ∧ x = (A.setD u v x).d u v) (k_addr% "s") (fun T' => R ++ T') (fun _ => m) (fun _ => i + 1) (fun _ => gl))
set_option hygiene false in
local macro_rules | `(tactic| walk_at "ch") => `(tactic| obtain ⟨hs, k, t, b, pk, nk, he, hkm, hkn, ht, gk, ek⟩ := dc_turn er nr vs L r Dr hL hlen 0 (by omega))
set_option hygiene false in
local macro_rules | `(tactic| walk_at "ci") => `(tactic| exact hR 0 _ _ _ _ _ ⟨(x.1, x.2.1, x.2.2.1, .int x.2.2.2.1 x.2.2.2.2.1, [⟨_, .str "w" _, .int x.2.2.2.2.2.1 x.2.2.2.2.2.2⟩], _), ⟨hx, .inr ⟨_, _, _, _, rfl⟩⟩, rfl, rfl, rfl, rfl, rfl⟩)
set_option hygiene false in
local macro_rules | `(k_addr% "cj") => `(fun x => (xx.1 + 1 + 1, dictO [⟨a3, .str "v" c3, .int x.2.2.1 x.2.2.2.1⟩] nf) :: (ac, dictO x.2.2.2.2.2.2.1 x.2.2.2.2.2.2.2) :: (mf + 1, cellO (.ref rd)) :: ((R ++ x.2.2.2.2.1) ++ T))
set_option hygiene false in
local macro_rules | `(tactic| walk_at "ck") => `(tactic| have O1 : RowsOk (addIf vs u) r := addIf_ok O0 ou)
set_option hygiene false in
local macro_rules | `(tactic| walk_at "cl") => `(tactic| have z0' : vs.length ≤ 100 := nodup_le vn O0.vo)
set_option hygiene false in
local macro_rules | `(k_addr% "cm") => `(fun q => Rz w [(x.1, dictO q.2.2.2.2.2.2.2.1 q.2.2.2.2.2.2.2.2), (y.1 + 1 + 1, listO [] 0), (y.1 + 1 + 1 + 1, listO [] 0), (y.1 + 1 + 1 + 1 + 1, listO [] 0)] x.1 [4, 2, 5] (fun _ => []))
set_option hygiene false in
local macro_rules | `(k_addr% "cn") => `(match md with | none => (aroundOf V true κ).under c | some fs => (aroundOf V false κ).over c fs)
set_option hygiene false in
local macro_rules | `(tactic| walk_at "co") => `(tactic| have ek : (G0.addE u v c (G.y u c)).ks u = G.ks u ++ [v] := by rw [← H0.ks huv]; exact upd_self _ _ _)
set_option hygiene false in
local macro_rules | `(k_addr% "cp") => `(exQ (Nat × Nat × Nat) (fun _ => True) (k_addr% "s") (fun x => (L, listO (xs ++ ws.map intV) x.2.2) :: (R ++ T)) (fun x => x.1) (fun x => x.2.1) (fun _ => [.finished]))
set_option hygiene false in
local macro_rules | `(k_addr% "cq") => `(fun c => .ok (.ret (.ref c.1)))
set_option hygiene false in
local macro_rules | `(k_addr% "cr") => `(.call (.ref 621) ⟨[.ref o, .int u tu, .int v tv], [("cw", .int cx tx), ("ccw", .int cy ty)]⟩)
set_option hygiene false in
local macro_rules | `(tactic| walk_at "cs") => `(tactic| simp only [List.countP_append, List.countP_cons])
set_option hygiene false in
local macro_rules | `(k_addr% "ct") => `(Nat × Nat × News × Ad)
set_option hygiene false in
local macro_rules | `(k_addr% "cu") => `(fun n m i => p5_all w b1 b2 hpar h₀ K d os g₀ RR I ln f l o j ns xs nl dI gd nd sd pd t1 t2 t3 t4 t5 n1 h1 h2 h3 h4 h5 R Tr Te m i gl F rd a b ta tb vs r A G E2 Gd Er O hb TT n)
set_option hygiene false in
local macro_rules | `(tactic| walk_at "cv") => `(tactic| have hrf := Dr.refs (k_addr% "x"))
set_option hygiene false in
local macro_rules | `(k_addr% "cw") => `(fun x => (p + 4, dictO [⟨a3, .str "v" c3, .int x.2.2.1 x.2.2.2.1⟩] nf) :: (ac, dictO x.2.2.2.2.2.2.1 x.2.2.2.2.2.2.2) :: (p + 1, cellO (.ref rd)) :: ((R ++ x.2.2.2.2.1) ++ T))
set_option hygiene false in
local macro_rules | `(tactic| walk_at "cx") => `(tactic| rw [upd_ne _ _ (fun e => h1 (by rw [e]))])
set_option hygiene false in
local macro_rules | `(tactic| walk_at "cy") => `(tactic| have hvu : v ≠ u := fun e => huv e.symm)
set_option hygiene false in
local macro_rules | `(tactic| walk_at "cz") => `(tactic| have C := Ctr.read (R := (x, listO [] 0) :: R) (T := T ++ Te) (getL_app g) (fun rest => x_setdef_old w h₀ K d os g₀ (aroundL 480) rest m i gl rd er nr v t (.ref x) _ D _ (tab_in hv)))
set_option hygiene false in
local macro_rules | `(k_addr% "cA") => `((mf + 1 + 1 + 1 + 1 + 1 + 1, dictO [⟨y.2.2.2.2.2.2.2.2.1, .str "u" y.2.2.2.2.2.2.2.2.2.1, .int y.2.2.2.2.2.2.2.2.2.2.1 y.2.2.2.2.2.2.2.2.2.2.2.1⟩] y.2.2.2.2.2.2.2.2.2.2.2.2))
set_option hygiene false in
local macro_rules | `(k_addr% "cB") => `(Nat × Nat × Addr × News × (Int → List Int) × List GenState)
set_option hygiene false in
local macro_rules | `(tactic| walk_at "cC") => `(tactic| exact H _ _ _ _ _ _ ⟨rfl, rfl, rfl, rfl, rfl⟩ M hsz)
set_option hygiene false in
local macro_rules | `(tactic| walk_at "cD") => `(tactic| have hz' : es.length ≤ sizeLine := by have := D.pairs.length; omega)
set_option hygiene false in
local macro_rules | `(k_addr% "cE") => `(Option (Lean.Expr × Lean.Expr))
set_option hygiene false in
local macro_rules | `(k_addr% "cF") => `(.call (.ref 600) ⟨[.ref o, .ref l], []⟩)
set_option hygiene false in
local macro_rules | `(k_addr% "cG") => `(hR 0 _ _ _ _ _ ⟨(_, _, v, tv, Ts, L0, eb, nb), ⟨Db, hL0⟩, rfl, rfl, rfl, rfl, rfl⟩)
set_option hygiene false in
local macro_rules | `(tactic| walk_at "cH") => `(tactic| run_tac Mine.walk ([``c_int_ne, ``c_int_ne'] ++ Mine.embNames) [] {})
set_option hygiene false in
local macro_rules | `(tactic| walk_at "cI") => `(tactic| run_tac Mine.tailL `M 19 ``Mm.tail19)
set_option hygiene false in
local macro_rules | `(tactic| walk_at "cJ") => `(tactic| run_tac Mine.tailL `M 23 ``Mm.tail23)
set_option hygiene false in
local macro_rules | `(k_addr% "cK") => `(.call (.builtin "dict.get") ⟨[.ref rd, .int v t, dflt], []⟩)
set_option hygiene false in
local macro_rules | `(tactic| walk_at "cL") => `(tactic| exact re_choose [3, 4, 5] 6 rfl (hR 0 _ _ _ _ _ ⟨(_, _), trivial, rfl, rfl, rfl, rfl, rfl⟩))
set_option hygiene false in
local macro_rules | `(k_addr% "cM") => `((c.1, tup2 (.ref c.2.1) (.ref c.2.2.1)))
set_option hygiene false in
local macro_rules | `(k_addr% "cN") => `((f, frS (F.es l o) F.n (slotsL f F.sl)))
set_option hygiene false in
local macro_rules | `(k_addr% "cO") => `(exQ (Nat × Nat × Nat) (fun _ => True) (k_addr% "s") (fun x => (L, listO xs x.2.2) :: (R ++ T)) (fun x => x.1) (fun x => x.2.1) (fun _ => [.finished]))
set_option hygiene false in
local macro_rules | `(k_addr% "cP") => `(fun y => y.2.2.2.2.2.map Prod.fst = qs.map Prod.fst ++ offI ((ps.drop j).map Prod.fst) z)
set_option hygiene false in
local macro_rules | `(tactic| walk_at "cQ") => `(tactic| obtain ⟨o, g, es, n, rfl, D⟩ := E.cel .pd trivial)
set_option hygiene false in
local macro_rules | `(tactic| walk_at "cR") => `(tactic| have fr : ∀ a o, getL T a = some o → x ≠ a := fun a o q => getL_fresh M a o (getL_app q))
set_option hygiene false in
local macro_rules | `(k_addr% "cS") => `(.builtin "list.extend.loop" ⟨[.ref L, .ref I, .ref L], []⟩)
set_option hygiene false in
local macro_rules | `(tactic| walk_at "cT") => `(tactic| exact re_choose [0, 1, 2] 3 rfl (hR 0 _ _ _ _ _ ⟨(y.1, y.2.1, y.2.2.2.2.1, y.2.2.2.2.2.1, _, _, _, _, _), (show _ = _ from hy).trans (by simp), rfl, rfl, rfl, rfl, rfl⟩))
set_option hygiene false in
local macro_rules | `(k_addr% "cU") => `(.cons _ (.cons _ (.cons _ (.cons _ (perm_in _ R Ts T).symm))))
set_option hygiene false in
local macro_rules | `(k_addr% "cV") => `(lawQ w l o f xs nl dI (k_addr% "y") nd sd pd [])
set_option hygiene false in
local macro_rules | `(tactic| walk_at "cW") => `(tactic| obtain ⟨ok, x⟩ := IH _ _ _ _ _ _ _ _ _ _ _ _ _ H)
set_option hygiene false in
local macro_rules | `(tactic| walk_at "cX") => `(tactic| rw [List.mem_singleton.mp h])
set_option hygiene false in
local macro_rules | `(tactic| walk_at "cY") => `(tactic| have zz := fun m i (_ : List GenState) => TT 0 R Tr1 Te m i gl F rd ta tb vs r E hx2 O hrest)
set_option hygiene false in
local macro_rules | `(k_addr% "cZ") => `(fun e => match e.key with | .int k t => (k, t) | _ => (0, 0))
set_option hygiene false in
local macro_rules | `(k_addr% "da") => `(.call (.builtin "list_iterator.__next__") ⟨[.ref I], []⟩)
set_option hygiene false in
local macro_rules | `(tactic| walk_at "db") => `(tactic| obtain ⟨L, er, nr, ps, nl, q, j, rf, tr, jj, g, D, gp, ep, hlen, hne', hl, hj, hx', hid, hjj, hsp⟩ := r_put_facts w b1 b2 hpar h₀ K T rd vs r E v number hv hlr hne)
set_option hygiene false in
local macro_rules | `(tactic| walk_at "dc") => `(tactic| have hkey := isInt_self (prog := prog) (w := w) k t)
set_option hygiene false in
local macro_rules | `(tactic| walk_at "dd") => `(tactic| have q1 : (ivs ps).length ≤ 500 := by simp; omega)
set_option hygiene false in
local macro_rules | `(tactic| walk_at "de") => `(tactic| have m1 : (G.y u c) ∈ (G0.addE u v c (G.y u c)).ks u := by rw [ek]; exact mem_front _ hr)
set_option hygiene false in
local macro_rules | `(tactic| walk_at "df") => `(tactic| intro j R Ts m i gl v tv eb nb L0 hj Db hL0)
set_option hygiene false in
local macro_rules | `(k_addr% "dg") => `(.call (.ref 774) ⟨[.ref o], []⟩)
set_option hygiene false in
local macro_rules | `(k_addr% "dh") => `((I, rngIt (Int.ofNat 0) (Int.ofNat 9)) :: (acc, listO [] na) :: (mf + 1 + 1 + 1 + 1 + 1 + 1, dictO [] nf) :: (mf + 1, cellO (.ref l)) :: (R ++ (T ++ Te)))
set_option hygiene false in
local macro_rules | `(tactic| walk_at "di") => `(tactic| exact (List.perm_append_comm (l₁ := G.ks u) (l₂ := [v])).trans (.cons _ (H.kp u hu)))
set_option hygiene false in
local macro_rules | `(k_addr% "dj") => `((f + 3, cellO (.int b tb)))
set_option hygiene false in
local macro_rules | `(tactic| walk_at "dk") => `(tactic| have ee : xs ++ ((D.x, D.tx) :: ws).map intV = PySem.W.R.concatR xs (.int D.x D.tx) ++ ws.map intV := by walk_at "by"; simp)
set_option hygiene false in
local macro_rules | `(k_addr% "dl") => `((aroundOf V false κ).over c fs)
set_option hygiene false in
local macro_rules | `(k_addr% "dm") => `(exQ Nat (fun _ => True) (fun _ => .ok (.ret (.ref L))) (fun x => (L, listO zs x) :: (a, dictO es n) :: R) (fun _ => m + 2) (fun _ => i) (fun _ => gl))
set_option hygiene false in
local macro_rules | `(tactic| walk_at "dn") => `(tactic| exact DF.store D hu (fun z hz => upd_ne _ _ (fun e => hu (e ▸ hz))) (upd_self _ _ _))
set_option hygiene false in
local macro_rules | `(tactic| walk_at "do") => `(tactic| have ht : vs.take j = vs := List.take_of_length_le (by omega))
set_option hygiene false in
local macro_rules | `(tactic| walk_at "dp") => `(tactic| have h1 : jj < (ps.map Prod.fst).length := by simpa using hjj)
set_option hygiene false in
local macro_rules | `(tactic| walk_at "dq") => `(tactic| have k1 : ¬ F.kd < 3 := by omega)
set_option hygiene false in
local macro_rules | `(k_addr% "dr") => `(fun _ => .ok (.ret (.ref m)))
set_option hygiene false in
local macro_rules | `(k_addr% "ds") => `(oneQ (.int k i) R m (i+1) gl)
set_option hygiene false in
local macro_rules | `(k_addr% "dt") => `(exQ Nat (fun _ => True) (k_addr% "s") (fun x => (L, listO zs x) :: (a, dictO es n) :: R) (fun _ => m + 2) (fun _ => i) (fun _ => gl))
set_option hygiene false in
local macro_rules | `(tactic| walk_at "du") => `(tactic| rw [List.map_cons, List.nodup_cons] at nd)
set_option hygiene false in
local macro_rules | `(tactic| walk_at "dv") => `(tactic| refine codeAny_le (okC (Fx.trunc (f ρ₀ (.refl _ _))) h _ (by rw [← q3]; exact okPick_mm D.mm e1) D.size ?_) q1.symm a.1 (frOf_ok q2) (.inl a.2.1) a.2.2)
set_option hygiene false in
local macro_rules | `(k_addr% "dw") => `((f, frO [⟨a1, .str "self" c1, .ref o⟩, ⟨a2, .str "v" c2, .int v tv⟩] nf))
set_option hygiene false in
local macro_rules | `(tactic| walk_at "dx") => `(tactic| run_tac Mine.walk ([``k_pnext, ``k_del_k, ``k_del_q, ``e_item_s, ``e_item_k, ``e_item_p, ``e_cw, ``e_ccw, ``k_cw_set, ``k_ccw_set] ++ Mine.intNames) [`IH])
set_option hygiene false in
local macro_rules | `(tactic| walk_at "dy") => `(tactic| simp only [List.mem_cons, List.not_mem_nil, or_false] at hv)
set_option hygiene false in
local macro_rules | `(tactic| walk_at "dz") => `(tactic| rcases List.mem_cons.mp hp with rfl | hp)
set_option hygiene false in
local macro_rules | `(tactic| walk_at "dA") => `(tactic| have m2 : c ∈ (G0.addE u v c (G.y u c)).ks u := by rw [ek]; exact mem_front _ hc)
set_option hygiene false in
local macro_rules | `(tactic| walk_at "dB") => `(tactic| rcases ps with _ | ⟨⟨v, tv⟩, ps⟩)
set_option hygiene false in
local macro_rules | `(tactic| walk_at "dC") => `(tactic| rcases Classical.em (v = z) with hv | hv)
set_option hygiene false in
local macro_rules | `(k_addr% "dD") => `(.builtin "dict.__delitem__")
set_option hygiene false in
local macro_rules | `(k_addr% "dE") => `(.call (.ref 811) ⟨[.ref o, .int u tu, .int v tv], [("cw", .int c tc)]⟩)
set_option hygiene false in
local macro_rules | `(k_addr% "dF") => `(xs.map fun x => (x.l, listO ((row x.v).map intV) x.n))
set_option hygiene false in
local macro_rules | `(k_addr% "dG") => `((I, keyIt rd 0 (esOf T rd).length (nOf T rd)) :: (xx.1 + 1 + 1, dictO [] nf) :: (ac, dictO [] 0) :: (mf + 1, cellO (.ref rd)) :: (R ++ T))
set_option hygiene false in
local macro_rules | `(tactic| walk_at "dH") => `(tactic| exact (k_addr% "ap").imp id fun x f h D => mg_skim 1 (x f h D))
set_option hygiene false in
local macro_rules | `(tactic| walk_at "dI") => `(tactic| have f4 : G.y u n ∈ (G.cut1 u n).ks u := by show _ ∈ upd _ _ _ u; rw [upd_self]; exact mem_offI.mpr ⟨kp.mem_iff.mpr k2, fun e => s1' e.symm⟩)
set_option hygiene false in
local macro_rules | `(tactic| walk_at "dJ") => `(tactic| run_tac Mine.walk ([``e_item_s0, ``e_item_s, ``r_get1A, ``r_in0, ``c_fmt] ++ Mine.allNames) [] { wd := true, lies := true, place := some (716, 11) })
set_option hygiene false in
local macro_rules | `(tactic| walk_at "dK") => `(tactic| run_tac Mine.walk ([``e_item_s, ``e_item_k0, ``r_get1A, ``r_in0, ``c_fmt] ++ Mine.allNames) [] { wd := true, lies := true, place := some (716, 11) })
set_option hygiene false in
local macro_rules | `(k_addr% "dL") => `(fun y => DE prog1 w (tab (offI vs a) y.2.2.2.2.2.1) y.2.2.2.2.2.2.1 ∧ Lz y.2.2.2.2.1 y.2.2.2.2.2.1 (offI vs a) (fun v => offI (r v) a))
set_option hygiene false in
local macro_rules | `(tactic| walk_at "dM") => `(tactic| have := k_get (R := rest) (d := d) (os := os) (g₀ := g₀) (A := A) (a := a) (k := k) (t := t) (n := n) (m := m) (i := i) (gl := gl) K rfl dflt D)
set_option hygiene false in
local macro_rules | `(tactic| walk_at "dN") => `(tactic| have := k_contains (R := rest) (d := d) (os := os) (g₀ := g₀) (A := A) (a := a) (k := k) (t := t) (n := n) (m := m) (i := i) (gl := gl) K rfl D)
set_option hygiene false in
local macro_rules | `(tactic| walk_at "dO") => `(tactic| have f3 : G.x u n ∈ (G.cut1 u n).ks u := by show _ ∈ upd _ _ _ u; rw [upd_self]; exact mem_offI.mpr ⟨kp.mem_iff.mpr k1, fun e => s1 e.symm⟩)
set_option hygiene false in
local macro_rules | `(tactic| walk_at "dP") => `(tactic| refine E.wr (.s u) hu _ _ (fun b hb => hb) E.ok.offK ?_ (fun b h1 hb o f => ?_))
set_option hygiene false in
local macro_rules | `(tactic| walk_at "dQ") => `(tactic| refine tail_two (M.nd.sublist (List.Sublist.map Prod.fst (List.IsSuffix.sublist (l₁ := Tr1 ++ (Te1 ++ (x6.2.2.2.1 ++ x7.2.2.2))) ?_))) hx6.1 hx7)
set_option hygiene false in
local macro_rules | `(k_addr% "dR") => `(Nat × Nat × Int × Tok × Nat × List (Int × Tok))
set_option hygiene false in
local macro_rules | `(k_addr% "dS") => `(.call (k_addr% "aA") ⟨[.ref a, .int v t, .ref x], []⟩)
set_option hygiene false in
local macro_rules | `(k_addr% "dT") => `(∃ su eu nu ku, valueAt (tab G.sv A.s) v = some (.ref su) ∧ getL T su = some (dictO eu nu) ∧ DE prog1 w ku eu ∧ Row T eu ku ps)
set_option hygiene false in
local macro_rules | `(tactic| walk_at "dU") => `(tactic| have := k_get (R := R) (d := d) (os := os) (g₀ := g₀) (A := A) (a := a) (k := k) (t := t) (n := n) (m := m) (i := i) (gl := gl) K rfl dflt D)
set_option hygiene false in
local macro_rules | `(tactic| walk_at "dV") => `(tactic| have := k_contains (R := R) (d := d) (os := os) (g₀ := g₀) (A := A) (a := a) (k := k) (t := t) (n := n) (m := m) (i := i) (gl := gl) K rfl D)
set_option hygiene false in
local macro_rules | `(tactic| walk_at "dW") => `(tactic| refine ⟨O.us, O.up, O.un, fun z v' hv' => ?_, O.uq, fun z v' hz hv' => ?_⟩)
set_option hygiene false in
local macro_rules | `(tactic| walk_at "dX") => `(tactic| have hvp : v ∉ G.pv := by rw [ep]; exact hv)
set_option hygiene false in
local macro_rules | `(tactic| walk_at "dY") => `(tactic| have := k_get1 (R := rest) (d := d) (os := os) (g₀ := g₀) (A := A) (a := a) (k := k) (t := t) (n := n) (m := m) (i := i) (gl := gl) K rfl D)
set_option hygiene false in
local macro_rules | `(k_addr% "dZ") => `((k_addr% "dl").mark hd)
set_option hygiene false in
local macro_rules | `(tactic| walk_at "ea") => `(tactic| rcases List.mem_cons.mp h with rfl | h)
set_option hygiene false in
local macro_rules | `(k_addr% "eb") => `(fun x => (m, listO (row.map intV) x.2.2) :: (o, selfO dI) :: (k_addr% "b") :: (R ++ T))
set_option hygiene false in
local macro_rules | `(k_addr% "ec") => `(q_delitem w h₀ d os g₀ _ _ es n R T m i gl u t _ g D (.ref (A.d u v)) (l100 (E.len_q hv)) (tab_in (f := fun z => A.d z v) hu))
set_option hygiene false in
local macro_rules | `(tactic| walk_at "ed") => `(tactic| run_tac Mine.walk ([``e_item_s0, ``r_get0A, ``k_in_nil, ``c_fmt] ++ Mine.allNames) [] { wd := true, lies := true, place := some (716, 11) })
set_option hygiene false in
local macro_rules | `(k_addr% "ee") => `(oneQ (.bool false) (R ++ T) m (i + 1) gl)
set_option hygiene false in
local macro_rules | `(tactic| walk_at "ef") => `(tactic| refine E.wr (.d u v) (E.ok.kh u v hu hv) _ _ (fun b hb => hb) E.ok.setX ⟨_, rfl, (upd2_self _ _ _ _).symm, hy⟩ (fun b h1 hb o f => ?_))
set_option hygiene false in
local macro_rules | `(tactic| walk_at "eg") => `(tactic| refine E.wr (.d u v) (E.ok.kh u v hu hv) _ _ (fun b hb => hb) E.ok.setY ⟨_, rfl, hx, (upd2_self _ _ _ _).symm⟩ (fun b h1 hb o f => ?_))
set_option hygiene false in
local macro_rules | `(k_addr% "eh") => `((f + 2, cellO (.int z tz)))
set_option hygiene false in
local macro_rules | `(k_addr% "ei") => `(Told b ρ₀ fun S ρ => d S ρ news m i aL aR gl)
set_option hygiene false in
local macro_rules | `(k_addr% "ej") => `(.call (k_addr% "aL") ⟨[.ref a, .str "ccw" t], []⟩)
set_option hygiene false in
local macro_rules | `(k_addr% "ek") => `(oneQ rv (k_addr% "bm") (m + 2) i gl)
set_option hygiene false in
local macro_rules | `(k_addr% "el") => `(fun x => (l, listO (ivs ps) n) :: (o, selfO dI) :: (k_addr% "b") :: (R ++ x.2.2.1))
set_option hygiene false in
local macro_rules | `(tactic| walk_at "em") => `(tactic| rintro _ _ _ _ _ ⟨y, hy, rfl, rfl, rfl, rfl, rfl⟩)
set_option hygiene false in
local macro_rules | `(k_addr% "en") => `(dictO (storeE es k t v) (storeN es k n))
set_option hygiene false in
local macro_rules | `(k_addr% "eo") => `(.call (k_addr% "aA") ⟨[.ref a, .int k t, v], []⟩)
set_option hygiene false in
local macro_rules | `(k_addr% "ep") => `(.call (k_addr% "aL") ⟨[.ref a, .str "cw" t], []⟩)
set_option hygiene false in
local macro_rules | `(k_addr% "eq") => `((I, litO l 0) :: (l, listO (ivs ps) n) :: (acc, listO [] na) :: (x.1 + 1 + 1 + 1 + 1 + 1 + 1 + 1 + 1 + 1, dictO [] nf) :: R)
set_option hygiene false in
local macro_rules | `(k_addr% "er") => `(.call (.builtin "list_reverseiterator.__next__") ⟨[.ref I], []⟩)
set_option hygiene false in
local macro_rules | `(tactic| walk_at "es") => `(tactic| refine ⟨⟨(0, 0, 0, 0), trivial⟩, Ctr.ofQ (kt1 w) fun RR hR => ?_⟩)
set_option hygiene false in
local macro_rules | `(tactic| walk_at "et") => `(tactic| simpa only [List.append_assoc, List.cons_append, List.nil_append] using M)
set_option hygiene false in
local macro_rules | `(k_addr% "eu") => `(exQ Tok (fun _ => True) (fun y => .ok (.ret (.int x y))) (fun _ => R ++ (T ++ Te)) (fun _ => m) (fun _ => i) (fun _ => gl))
set_option hygiene false in
local macro_rules | `(k_addr% "ev") => `(.builtin "len" ⟨[.ref a], []⟩)
set_option hygiene false in
local macro_rules | `(k_addr% "ew") => `(.call (k_addr% "bq") ⟨[.ref rd, .int v t], []⟩)
set_option hygiene false in
local macro_rules | `(tactic| walk_at "ex") => `(tactic| try with_reducible refine wpAny_holding ?_)
set_option hygiene false in
local macro_rules | `(tactic| walk_at "ey") => `(tactic| obtain ⟨h1, k1, x, tx, h2, k2, y, ty, f, n⟩ := D)
set_option hygiene false in
local macro_rules | `(tactic| walk_at "ez") => `(tactic| run_tac Mine.walk (Mine.dictNames ++ Mine.datNames ++ Mine.listNames) [])
set_option hygiene false in
local macro_rules | `(tactic| walk_at "eA") => `(tactic| have hjl : j < ps.length := by omega)
set_option hygiene false in
local macro_rules | `(tactic| walk_at "eB") => `(tactic| rw [ht, ← tab_store (f := L0) hkn (upd L0 k l) (fun z hz => upd_ne _ _ (fun e => hkn (by rw [← e]; exact hz))) (upd_self _ _ _)])
set_option hygiene false in
local macro_rules | `(tactic| walk_at "eC") => `(tactic| run_tac Mine.walk ([``r_put_e] ++ Mine.allNames) [`IH2] { depth := 470 })
set_option hygiene false in
local macro_rules | `(tactic| walk_at "eD") => `(tactic| run_tac Mine.walk ([``r_put_v] ++ Mine.allNames) [`IH2] { depth := 470 })
set_option hygiene false in
local macro_rules | `(tactic| walk_at "eE") => `(tactic| run_tac Mine.walk ([``r_put_o] ++ Mine.allNames) [`IH2] { depth := 470 })
set_option hygiene false in
local macro_rules | `(tactic| walk_at "eF") => `(tactic| simp only [strange, List.range'_succ, List.map_cons])
set_option hygiene false in
local macro_rules | `(k_addr% "eG") => `((I, keyIt rd 0 er.length nr) :: (xx.1 + 1 + 1, dictO [] nf) :: (ac, dictO [] 0) :: (mf + 1, cellO (.ref rd)) :: (R ++ T))
set_option hygiene false in
local macro_rules | `(k_addr% "eH") => `(resQ (.error (.ref (m + 1))) ((m + 1, stopO m) :: (m, tupO []) :: (I, keyItEnd j es.length n) :: (R ++ T)) (m + 2) i gl)
set_option hygiene false in
local macro_rules | `(k_addr% "eI") => `(.call (k_addr% "bq") ⟨[.ref a, .int v t], []⟩)
set_option hygiene false in
local macro_rules | `(k_addr% "eJ") => `(dictO (storeE er v t (.ref x)) (storeN er v nr))
set_option hygiene false in
local macro_rules | `(tactic| walk_at "eK") => `(tactic| rw [show ∀ f : Nat → Sem Unit, Sem.bind currentRecursionLimit f = currentRecursionLimit >>= f from fun _ => rfl, Sem.wp_bind'])
set_option hygiene false in
local macro_rules | `(tactic| walk_at "eL") => `(tactic| rw [ht, ← tab_store (f := L) hkn (upd L k l) (fun z hz => upd_ne _ _ (fun e => hkn (by rw [← e]; exact hz))) (upd_self _ _ _)])
set_option hygiene false in
local macro_rules | `(tactic| walk_at "eM") => `(tactic| refine wpAny_bind ((intKind prog w).pyHash hkey ?_))
set_option hygiene false in
local macro_rules | `(tactic| walk_at "eN") => `(tactic| run_tac Mine.walk ([``k_pnext, ``k_del_k, ``k_del_q, ``e_item_s, ``e_item_k, ``e_item_p, ``e_cw, ``e_ccw] ++ Mine.intNames) [`IH])
set_option hygiene false in
local macro_rules | `(k_addr% "eO") => `(mkApp2 (mkConst ``Prod [0, 0]) (mkConst ``Int) (mkConst ``Value))
set_option hygiene false in
local macro_rules | `(tactic| walk_at "eP") => `(tactic| rcases List.mem_append.mp hp with hp | hp)
set_option hygiene false in
local macro_rules | `(tactic| walk_at "eQ") => `(tactic| run_tac Mine.walk ([``e_item_p0, ``rz_has0A, ``c_fmt] ++ Mine.allNames) [] { wd := true, lies := true, place := some (716, 11) })
set_option hygiene false in
local macro_rules | `(k_addr% "eR") => `(mkApp (mkConst ``List [0]) tPair)
set_option hygiene false in
local macro_rules | `(tactic| walk_at "eS") => `(tactic| obtain ⟨lm, hlast⟩ : ∃ lm, (G.ks u).getLast? = some lm := ⟨_, List.getLast?_eq_some_getLast (List.ne_nil_of_mem hc')⟩)
set_option hygiene false in
local macro_rules | `(tactic| walk_at "eT") => `(tactic| refine IH _ _ _ x.1 R _ _ _ k t (LN _ (fun a o g => nomatch g)) h R' (M2.perm (.cons _ (.cons _ (.cons _ (.cons _ ?_))))) hs ?_)
set_option hygiene false in
local macro_rules | `(tactic| walk_at "eU") => `(tactic| have := M'.perm (List.perm_middle (l₁ := R) (l₂ := putL T rd (k_addr% "eJ") ++ Te)).symm)
set_option hygiene false in
local macro_rules | `(tactic| walk_at "eV") => `(tactic| rintro r0 n0 m0 i0 gl0 h' ⟨y, hy, rfl, rfl, rfl, rfl, rfl⟩ M' hs')
set_option hygiene false in
local macro_rules | `(tactic| walk_at "eW") => `(tactic| obtain ⟨q, hl⟩ : ∃ q, (G.ks u).length = q + 1 := ⟨(G.ks u).length - 1, by have := List.length_pos_of_mem hc'; omega⟩)
set_option hygiene false in
local macro_rules | `(k_addr% "eX") => `(fun x => (o, selfO dI) :: (k_addr% "b") :: (R ++ (Tr ++ (Te ++ x.2.2))))
set_option hygiene false in
local macro_rules | `(k_addr% "eY") => `(.co ⟨A.handled, c', pickL news is ++ news.drop k, m, i, gl⟩ ⟨A₀.handled, code, inn, m1, i1, gl1⟩ :: acc)
set_option hygiene false in
local macro_rules | `(tactic| walk_at "eZ") => `(tactic| rw [Sem.wp_bind'] at h ⊢)
set_option hygiene false in
local macro_rules | `(tactic| walk_at "fa") => `(tactic| have hlt : ¬ Int.ofNat j < 0 := by simp)
set_option hygiene false in
local macro_rules | `(tactic| walk_at "fb") => `(tactic| rcases List.mem_append.mp hv' with h | h)
set_option hygiene false in
local macro_rules | `(tactic| walk_at "fc") => `(tactic| rcases Classical.em (z = v) with rfl | h)
set_option hygiene false in
local macro_rules | `(tactic| walk_at "fd") => `(tactic| run_tac Mine.walk ([``ea_w, ``c_last, ``c_int_ne, ``c_int_ne', ``c_supget] ++ Mine.embNames) [] { wd := true, lies := true })
set_option hygiene false in
local macro_rules | `(tactic| walk_at "fe") => `(tactic| exact ⟨by show (0:Int) ≤ _; simp, by show (_:Int) < 100; simp⟩)
set_option hygiene false in
local macro_rules | `(tactic| walk_at "ff") => `(tactic| have hq : qs.length ≤ 1000 := by omega)
set_option hygiene false in
local macro_rules | `(tactic| walk_at "fg") => `(tactic| exact re_choose [3, 4, 5] 6 rfl (k_addr% "cG"))
set_option hygiene false in
local macro_rules | `(tactic| walk_at "fh") => `(tactic| have hz : ([] : List (Int × Value)).length ≤ 500 := Nat.zero_le _)
set_option hygiene false in
local macro_rules | `(tactic| walk_at "fi") => `(tactic| conv => lhs; rw [← List.take_append_drop ((ps.map Prod.fst).idxOf rf) (ps.map Prod.fst), List.drop_eq_getElem_cons h1, h2])
set_option hygiene false in
local macro_rules | `(tactic| walk_at "fj") => `(tactic| exact re_choose [0, 1, 2] 3 rfl (hR 0 _ _ _ _ _ ⟨(x, ((_, _), (_, _), (_, _), (_, _)), _), hx, rfl, rfl, rfl, rfl, rfl⟩))
set_option hygiene false in
local macro_rules | `(k_addr% "fk") => `((I, keyIt rd 0 er.length nr) :: (p + 4, dictO [] nf) :: (ac, dictO [] 0) :: (p + 1, cellO (.ref rd)) :: (R ++ T))
theorem Mine.head : True := by
 run_tac do
  let f := (← PySem.W.leftPieces.get).get!
  f default default default ["head"]
 trivial
namespace Mine
open PySem PySem.Spec PySem.Calls PyProof.Rows PySem.W
abbrev callerC : PySem.Ctx := ⟨.builtin "claim.caller" {}, none, none, [], none⟩
def at0 {α : Type} (M : Model) (t : Sem α) (Q : α → Shared → Prop) (E : Value → Shared → Prop) (s : Shared) : Prop := ∀ p, Sem.wp M callerC t (fun a _ s' => Q a s') (fun e _ s' => E e s') p s
section
variable {α β : Type} {M : Model} {Q : β → Shared → Prop} {E : Value → Shared → Prop} {s : Shared}
theorem at0_bind {m : Sem α} {f : α → Sem β} (h : at0 M m (fun a s' => at0 M (f a) Q E s') E s) : at0 M (m >>= f) Q E s := fun p => by
 rw [Sem.wp_bind']
 exact Sem.wp_mono _ _ m (fun a p' s' h' => h' p') (fun _ _ _ h' => h') p s (h p)
theorem at0_any {m : Sem β} (h : wpAny M callerA m Q E s) : at0 M m Q E s := fun p => h callerC p caller_in
theorem at0_mono {m : Sem β} {Q' : β → Shared → Prop} {E' : Value → Shared → Prop} (h : at0 M m Q E s) (hQ : ∀ a s, Q a s → Q' a s) (hE : ∀ e s, E e s → E' e s) : at0 M m Q' E' s := fun p =>
 Sem.wp_mono _ _ m (fun a _ s' h' => hQ a s' h') (fun e _ s' h' => hE e s' h') p s (h p)
end
theorem at0_done {M : Model} {t : Sem Fin} {R : Result → Shared → Prop} {s : Shared} (h : at0 M t (fun fin s' => ∃ f, fin = .done f ∧ R (.ok f) s') (fun e s' => R (.error e) s') s) (p : Pos) :
  Sem.wp M callerC t (Sem.finPost M callerC R) (fun e _ s' => R (.error e) s') p s :=
 Sem.wp_mono _ _ t (fun fin p' s' h' => by obtain ⟨f, rfl, hf⟩ := h'; exact hf) (fun _ _ _ h' => h') p s (h p)
abbrev WalkG (q : Program) (loose : List Str) (XP : (Str → Option Value) → Heap → Prop) {α : Type} (Yf : Shared → α) (Ya : World → α) (r : RowW) (d : DefRec) (kwd : List (Str × Expr)) : Prop :=
 ∀ (w : World) (s₀ s₁ : Shared) (mg mb : Str → Option Value), Ground q loose r.records XP w s₀ mg mb s₁.heap → Yf s₀ = Ya w → ∀ (a : Addr) (o : Obj) (pm cd doc dV kV : Value), s₁.heap.get? a = some o →
   o.data = .func { docDef d.name d.params d.body d.scope pm cd doc with defaults := dV, kwdefaults := kV } → s₁.heap.CodeRec cd d.name → Dflts mg s₁.heap d.params kwd dV kV → mg d.name = some (.ref a) → s₁.gens = #[] →
   ∀ (args : List WData) (vals : List Value) (as : List Addr), PySem.W.Laid r.records w s₀ s₁ args vals as → r.claim.pre args = true → WData.layableAll args = true → ReadsAllW r.records (classAt s₀.heap) s₁.heap vals args as → WellAll w.params s₁.heap vals args → (∀ a ∈ as, (a == sysModules) = false) →
     at0 (model r.prog w) (PySem.call (.ref a) vals) (fun v s' => GoodWG r.claim (classAt s₀.heap) (ExcName.means s₀.heap) args s₁ (.ok (.ret v)) s')
      (fun e s' => GoodWG r.claim (classAt s₀.heap) (ExcName.means s₀.heap) args s₁ (.error e) s') s₁
theorem holdsG {r : OpenRow} {q : Program} {loose : List Str} {Xt : Shared → Bool} {XP : (Str → Option Value) → Heap → Prop} {α : Type} {Yf : Shared → α} {Ya : World → α} {d : DefRec} {kwd : List (Str × Expr)} {N : Nat}
  (left : LeftO r.prog q loose Xt Yf Ya N)
  (hX : ∀ s, Xt s = true → XP (s.heap.nsMap mainGlobals) s.heap) (hXk : ∀ mg h h', XP mg h → (∀ b o, h.get? b = some o → h'.get? b = some o) → XP mg h')
  (hdef : defOf q r.name = some (d, kwd)) (hp : r.prog.theDef r.name = some (d.params, d.body, d.scope)) (hk : kwWritten? d.params.kwonlyargs d.params.kw_defaults = some kwd) (hRf : ∀ s, Xt s = true → RecFacts r.records s.heap) (hwr : (!r.writes || r.records.isEmpty) = true)
  (k1 : r.wellSaid = true) (ok : (chainsOk q && opensWell r.prog && (frees r.toRowW && r.within.isEmpty)) = true) (hb : r.prog.bare) (hw : r.toRowW.promised)
  (call : WalkG q loose XP Yf Ya r.toRowW d kwd) : r.Holds := by
 rw [Bool.and_eq_true, Bool.and_eq_true, Bool.and_eq_true] at ok
 obtain ⟨⟨hch, o1⟩, k5, k6⟩ := ok
 obtain ⟨hsame, hu, ha, hap, hm⟩ := frees_parts k5
 have hwi : r.claim.within = [] := List.isEmpty_iff.mp k6
 have B := left.behind (XP := fun mg h => XP mg h ∧ RecFacts r.records h) (fun s hs => ⟨hX s hs, hRf s hs⟩) hch
 refine ⟨k1, hw, ⟨hb, o1, by show r.makers.map _ = []; rw [hm]; rfl⟩, hw.witness, fun w => ⟨(B w).1, fun s' hs' => ?_⟩⟩
 obtain ⟨s₀, hf, hg0, s, hT, hz, hgens, hg, G00, y⟩ := (B w).2 s' hs'
 have RF := G00.X.2
 have G0 : Ground q loose [] XP w s (s.heap.nsMap mainGlobals) (s.heap.nsMap builtinsNs) s.heap := ⟨G00.T, G00.B, G00.D, G00.TE, G00.TD, G00.W, G00.X.1, G00.cls, G00.has, G00.apart, G00.once, G00.K⟩
 have hgens : s.gens = #[] := Array.eq_empty_of_size_eq_zero (beq_iff_eq.mp hgens)
 have G : Ground q loose r.records XP w s _ _ s.heap := RF.ground G0
 refine ⟨s₀, hf, hg0, s, hT, fun n hn => ?_, RF.1, RF.2.1, fun args hpre hlay ord hord => ?_⟩
 ·obtain rfl : n = r.name := by split at hn <;> simp_all
  exact pinned_of_view hg G0 hdef hp hk
 obtain ⟨⟨vs, s₁⟩, hlaid⟩ := Option.isSome_iff_exists.mp (layAllW_isSome (P := w.params) (ord := ord) G.has args r.args s (pre_splitW hpre).1)
 have keeps := layAllW_keeps _ _ _ hlaid
 have hal := layAllW_rest _ _ _ hlaid
 obtain ⟨as, hrd, hin, hold⟩ := reads_layAllW hord _ _ _ hlaid hlay s₁.heap (fun _ _ e => e)
 have L : PySem.W.Laid r.records w s s₁ args vs as := ⟨⟨ord, hord, hlaid⟩, hrd, hin, hold, keeps, hal.1.trans hgens, hal.2.2.1⟩
 have G₁ := G.keeps hXk keeps
 obtain ⟨a, o, pm, cd, doc, dV, kV, f1, f2, f3, f4, f5⟩ := G₁.fn hdef
 have hi := ident_freeW hu ha hap
 have W := call w s s₁ _ _ G₁ y a o pm cd doc dV kV f2 f3 f4 f5 (defOf_name hdef ▸ f1) L.gens args vs as L hpre hlay L.reads L.well (L.low G.low)
 have fin : ∀ {res : Result} {s'' : Shared}, GoodWG r.claim (classAt s.heap) (ExcName.means s.heap) args s₁ res s'' →
   (r.claim.Ends s args vs s₁ res s'' ∧ s''.os = s.os ∧ (r.writes = true → namesKept r.prog r.keeps s.heap s''.heap ∧ ∀ x ∈ r.records, ∀ a, classAt s.heap x.1 = some a → recordClass s''.heap a x.1 (x.2.map (·.1)) = true)) ∧ leftWithCleanup s''.gens = false := by
  intro res s'' g
  have z := g.laid (c := r.claim) hsame hwi hi L
  exact ⟨⟨z.1, z.2.1, fun qq => ⟨namesKept_of hT hg r.keeps keeps g.2.1.old, noTable hwr qq⟩⟩, leftWithCleanup_false_of_bare z.2.2⟩
 obtain ⟨k, res, t1, t2, hs2, hn2, hfo, hcase, hos, hkp⟩ := wp_halts_full (M := model r.prog w) (c := .builtin "claim.caller" {}) (p := default) (s := s₁)
  (t := do match ← nsGet mainNs r.name with
   | some f => do ret (← PySem.call f vs)
   | none => unsupported "claim.caller:no-such-global")
  (R := fun res s' => (r.claim.Ends s args vs s₁ res s' ∧ s'.os = s.os ∧ (r.writes = true → namesKept r.prog r.keeps s.heap s'.heap ∧ ∀ x ∈ r.records, ∀ a, classAt s.heap x.1 = some a → recordClass s'.heap a x.1 (x.2.map (·.1)) = true)))
  (Shared.asleep_of_life hal.2.2.2 hz)
  (at0_done (at0_bind (at0_any (wpAny_nsGet G₁.T.g (by
   rw [f1]
   exact at0_bind (at0_mono W (fun v s' g p => ⟨_, rfl, fin g⟩) fun e s' g => fin g))))) default)
 obtain ⟨eh, _, _, eo, _⟩ := Shared.forget_eq hfo
 have hcase := hcase.congr eh
 have hkp : r.writes = true → namesKept r.prog r.keeps s.heap t2.heap ∧ ∀ x ∈ r.records, ∀ a, classAt s.heap x.1 = some a → recordClass t2.heap a x.1 (x.2.map (·.1)) = true := by rw [eh]; exact hkp
 rw [← eo] at hos
 have hlife : t2.heap.life = s.heap.life := (runN_life _ _ _ hn2).trans hal.2.2.2
 refine ⟨vs, s₁, hlaid, k, _, t2, hs2, ?_, (fun _ i x hx => by rw [hgens] at hx; simp at hx), hkp, by rw [hlife], Shared.rest_eq hos⟩
 rcases hcase with ⟨v, rfl, d1, d2, d3, d4, d5⟩ | ⟨e, ob, cls, rfl, d1, d2, d3, d4, d5⟩
 ·exact .inl ⟨v, rfl, d1, d2, d3, fun b o y _ => d4 b o y, d5⟩
 ·exact .inr ⟨e, ob, cls, rfl, d1, d2, d3, d4, fun b o y _ => d5 b o y⟩
end Mine
open Lean Meta Elab Tactic in
theorem Mine.topG : True := by
 run_tac do
  let some (.thmInfo c) := (← getEnv).find? `Mine.hd | throwError "no head"
  let .lam _ _ b _ := c.value | throwError "no walk"
  let some e := b.find? fun e => e.isAppOf ``PySem.W.holds_openX && e.appArg!.isBVar | throwError "no law"
  let as := e.getAppArgs
  let T := mkAppN (mkConst ``Mine.WalkG) #[as[1]!, as[2]!, as[4]!, as[5]!, as[6]!, as[7]!, mkApp (mkConst ``PySem.W.OpenRow.toRowW) as[0]!, as[8]!, as[9]!]
  let e' := mkAppN (mkConst ``Mine.holdsG) as
  let b' := b.replace fun x => if x == e then some e' else none
  let .forallE _ _ ty _ := c.type | throwError "?"
  addDecl (.thmDecl { name := `Mine.hdG, levelParams := [], type := .forallE `walk T ty .default, value := .lam `walk T b' .default })
 trivial
namespace Mine
open PySem PySem.Spec PySem.Calls PyProof.Rows PySem.W PySem.W.X
structure Mm (h₀ h : Heap) (news : List (Addr × Obj)) : Prop where
 low : ∀ a o, h₀.get? a = some o → h.get? a = some o
 nw : ∀ p ∈ news, h.get? p.1 = some p.2 ∧ h₀.get? p.1 = none
 nd : (news.map Prod.fst).Nodup
section
variable {h₀ h : Heap} {news : List (Addr × Obj)}
theorem Mm.at (M : Mm h₀ h news) (i : Nat) (a : Addr) (o : Obj) (hi : news[i]? = some (a, o)) : h.get? a = some o := (M.nw _ (List.mem_of_getElem? hi)).1
theorem Mm.old (M : Mm h₀ h news) (a : Addr) (o : Obj) (e : h₀.get? a = some o) : h.get? a = some o := M.low a o e
theorem Mm.ne_old (M : Mm h₀ h news) (i : Nat) (a : Addr) (o : Obj) (hi : news[i]? = some (a, o)) (b : Addr) (ob : Obj) (e : h₀.get? b = some ob) : a ≠ b := by
 intro z
 subst z
 have q := (M.nw _ (List.mem_of_getElem? hi)).2
 rw [e] at q
 cases q
theorem Mm.ne (M : Mm h₀ h news) (i j : Nat) (a b : Addr) (oa ob : Obj) (hi : news[i]? = some (a, oa)) (hj : news[j]? = some (b, ob)) (ij : Nat.beq i j = false) : a ≠ b := by
 intro z
 subst z
 have hi' : (news.map Prod.fst)[i]? = some a := by rw [List.getElem?_map, hi]; rfl
 have hj' : (news.map Prod.fst)[j]? = some a := by rw [List.getElem?_map, hj]; rfl
 have := (List.getElem?_inj (List.getElem?_eq_some_iff.mp hi').1 M.nd).mp (hi'.trans hj'.symm)
 subst this
 rw [Nat.beq_refl] at ij
 cases ij
theorem Mm.start (h : Heap) : Mm h h [] := ⟨fun _ _ e => e, fun _ hp => (nomatch hp), List.nodup_nil⟩
theorem Mm.alloc (M : Mm h₀ h news) {o : Obj} (hf : o.isFreed = false) : Mm h₀ (h.push o) ((h.objs.size, o) :: news) := by
 have ne : ∀ p ∈ news, p.1 < h.objs.size := fun p hp => Heap.lt_size (M.nw p hp).1
 refine ⟨fun a o' e => Heap.get?_push_of_some _ (M.low a o' e), fun p hp => ?_, ?_⟩
 ·walk_at "dz"
  ·refine ⟨Heap.get?_push_size _ hf, ?_⟩
   cases q : h₀.get? h.objs.size with
   | none => rfl
   | some o' => exact absurd (Heap.lt_size (M.low _ _ q)) (Nat.lt_irrefl _)
  ·exact ⟨Heap.get?_push_of_some _ (M.nw p hp).1, (M.nw p hp).2⟩
 ·rw [List.map_cons, List.nodup_cons]
  refine ⟨fun hm => ?_, M.nd⟩
  obtain ⟨p, hp, e⟩ := List.mem_map.mp hm
  exact absurd (ne p hp) (by rw [e]; exact Nat.lt_irrefl _)
theorem map_fst_set (l : List (Addr × Obj)) (i : Nat) (a : Addr) (o o' : Obj) (hi : l[i]? = some (a, o)) : (l.set i (a, o')).map Prod.fst = l.map Prod.fst := by
 induction l generalizing i with
 | nil => rfl
 | cons x l ih =>
   cases i with
   | zero => simp only [List.getElem?_cons_zero, Option.some.injEq] at hi; subst hi; rfl
   | succ i => simp only [List.getElem?_cons_succ] at hi; simp only [List.set_cons_succ, List.map_cons, ih i hi]
theorem Mm.update (M : Mm h₀ h news) {i : Nat} {a : Addr} {o : Obj} {f : Obj → Obj} (hi : news[i]? = some (a, o)) (hf : (f o).isFreed = false) : Mm h₀ (h.update a f) (news.set i (a, f o)) := by
 have ho := M.at i a o hi
 have z := M.nw (a, o) (List.mem_of_getElem? hi)
 have hs : Heap.SameBut a h (h.update a f) := Heap.SameBut.update ..
 have ge : (h.update a f).get? a = some (f o) := by first | exact Heap.get?_update_self f ho hf | exact Heap.get?_update_self _ ho hf
 refine ⟨fun b o' e => (hs.2 b (fun q => by subst q; rw [e] at z; cases z.2)).trans (M.low b o' e), fun p hp => ?_, by rw [map_fst_set _ _ _ _ _ hi]; exact M.nd⟩
 rcases List.mem_or_eq_of_mem_set hp with hp' | rfl
 ·by_cases e : p.1 = a
  ·have nd : ((news.set i (a, f o)).map Prod.fst).Nodup := by rw [map_fst_set _ _ _ _ _ hi]; exact M.nd
   have : p = (a, f o) := key_unique nd hp (List.mem_set (List.getElem?_eq_some_iff.mp hi).1 _) e
   subst this
   exact ⟨ge, z.2⟩
  ·exact ⟨(hs.2 p.1 e).trans (M.nw p hp').1, (M.nw p hp').2⟩
 ·exact ⟨ge, z.2⟩
theorem Mm.sub {news' : List (Addr × Obj)} (M : Mm h₀ h news) (hs : ∀ p ∈ news', p ∈ news) (nd : (news'.map Prod.fst).Nodup) : Mm h₀ h news' := ⟨M.low, fun p hp => M.nw p (hs p hp), nd⟩
theorem Mm.perm {news' : List (Addr × Obj)} (M : Mm h₀ h news) (hs : news.Perm news') : Mm h₀ h news' := M.sub (fun p hp => hs.mem_iff.mpr hp) ((hs.map Prod.fst).nodup_iff.mp M.nd)
theorem Mm.drop1 {p : Addr × Obj} (M : Mm h₀ h (p :: news)) : Mm h₀ h news := M.sub (fun _ hq => .tail _ hq) (List.nodup_cons.mp M.nd).2
theorem Mm.right {l r : List (Addr × Obj)} (M : Mm h₀ h (l ++ r)) : Mm h₀ h r := M.sub (fun _ hq => List.mem_append.mpr (.inr hq)) (by have := M.nd; rw [List.map_append] at this; exact (List.nodup_append.mp this).2.1)
theorem Mm.left {l r : List (Addr × Obj)} (M : Mm h₀ h (l ++ r)) : Mm h₀ h l := M.sub (fun _ hq => List.mem_append.mpr (.inl hq)) (by have := M.nd; rw [List.map_append] at this; exact (List.nodup_append.mp this).1)
theorem Mm.swap {l r : List (Addr × Obj)} (M : Mm h₀ h (l ++ r)) : Mm h₀ h (r ++ l) := M.perm List.perm_append_comm
def pickL (news : List (Addr × Obj)) : List Nat → List (Addr × Obj)
 | [] => []
 | i :: is => match news[i]? with
   | some p => p :: pickL news is
   | none => pickL news is
theorem pickL_mem (news : List (Addr × Obj)) : ∀ (is : List Nat) p, p ∈ pickL news is → ∃ i ∈ is, news[i]? = some p
 | [], p, h => by cases h
 | i :: is, p, h => by
   unfold pickL at h
   split at h
   ·rename_i q e
    walk_at "ea"
    ·exact ⟨i, .head _, e⟩
    ·obtain ⟨j, hj, e'⟩ := pickL_mem news is p h
     exact ⟨j, .tail _ hj, e'⟩
   ·obtain ⟨j, hj, e'⟩ := pickL_mem news is p h
    exact ⟨j, .tail _ hj, e'⟩
theorem Mm.pick (M : Mm h₀ h news) (is : List Nat) (nd : is.Nodup) : Mm h₀ h (pickL news is) := by
 refine M.sub (fun p hp => ?_) ?_
 ·obtain ⟨i, _, e⟩ := pickL_mem news is p hp
  exact List.mem_of_getElem? e
 ·induction is with
  | nil => exact List.nodup_nil
  | cons i is ih =>
    unfold pickL
    split
    ·rename_i q e
     rw [List.map_cons, List.nodup_cons]
     refine ⟨fun hm => ?_, ih (List.nodup_cons.mp nd).2⟩
     obtain ⟨p, hp, ep⟩ := List.mem_map.mp hm
     obtain ⟨j, hj, e'⟩ := pickL_mem news is p hp
     have hij : i ≠ j := fun z => (List.nodup_cons.mp nd).1 (z ▸ hj)
     exact M.ne i j q.1 p.1 q.2 p.2 e e' (by cases b : Nat.beq i j with | false => rfl | true => exact absurd (Nat.eq_of_beq_eq_true b) hij) ep.symm
    ·exact ih (List.nodup_cons.mp nd).2
end
section
variable (α : Type) (prog : Program) (w : World) (A : Around) (c : Code) (Q : α → Shared → Prop) (E : Value → Shared → Prop)
end
section
variable (prog : Program) (w : World) (A : Around) (c : Code) (fs : List Frame) (P : End → Shared → Prop)
end
theorem codeAny_le {M : Model} {A A₀ : Around} {c : Code} {R : Result → Shared → Prop} {s : Shared} (h : codeAny M A₀ c R s)
  (hh : A₀.handled = A.handled) (hd : A.depth ≤ A₀.depth) (hf : A₀.frames = none ∨ A₀.frames = A.frames) (hg : A₀.guards = none ∨ A₀.guards = A.guards) (hu : A.units ≤ A₀.units) : codeAny M A c R s := by
 intro Γ p hc hΓ
 refine h Γ p hc ⟨hΓ.1.trans hh.symm, Nat.le_trans hΓ.2.1 hd, fun l hl => ?_, fun l hl => ?_, Nat.le_trans hΓ.2.2.2.2 hu⟩
 ·rcases hf with e | e
  ·rw [e] at hl; cases hl
  ·exact hΓ.2.2.1 l (e ▸ hl)
 ·rcases hg with e | e
  ·rw [e] at hl; cases hl
  ·exact hΓ.2.2.2.1 l (e ▸ hl)
theorem codeAny_mono' {M : Model} {A : Around} {c : Code} {R R' : Result → Shared → Prop} {s : Shared} (h : codeAny M A c R s) (hR : ∀ r s', R r s' → R' r s') : codeAny M A c R' s :=
 fun Γ p hc hΓ => wpCode_mono hR (h Γ p hc hΓ)
section
variable (prog : Program) (w : World) (A : Around) (c : Code) (fs : List Frame) (P : End → Shared → Prop)
def postSg (k : Result → Sem Fin) : Result → Shared → Prop := fun r s' => SegX (model prog w) A c (k r) fs s' P
theorem sg_call (s : Shared) (c' : Code) (hd : Option Value) (g : Bool) (l : List Value) (k : Result → Sem Fin) (hnb : hd ≠ some byPass) (x : codeAny (model prog w) ((A.over c fs).mark hd) c' (postSg prog w A c fs P k) s) :
  SegX (model prog w) A c (.call c' hd g l k) fs s P := by
 have z : SegX (model prog w) A c ((Sem.call c' hd g l (fun r => Sem.pure r) : Sem Result).wrap k .raise id id) fs s P :=
  s_cmd prog w A c fs P (m := (Sem.call c' hd g l (fun r => Sem.pure r) : Sem Result)) (k := k) (x_call (codeAny_mono' x fun _ _ q => wpAny_pure q) hnb)
 exact z
end
structure ORep (V : XV) (h : Heap) (news : List (Addr × Obj)) (m : Nat) : Prop where
 mm : Mm V.h₀ h news
 size : h.objs.size = m
def gcat (g₀ gl : List GenState) : List GenState := match gl with
 | [] => g₀
 | x :: r => g₀ ++ x :: r
theorem gcat_eq (g₀ gl : List GenState) : gcat g₀ gl = g₀ ++ gl := by cases gl <;> simp [gcat]
def OSt (V : XV) (g₀ : List GenState) (h : Heap) (i : Nat) (gl : List GenState) : Shared := ⟨h, ⟨gcat g₀ gl⟩, V.d, i, V.os⟩
def RE (V : XV) (g₀ : List GenState) (_n : Nat) (r : Result) (news : List (Addr × Obj)) (m i : Nat) (gl : List GenState) : Prop :=
 ∀ h, ORep V h news m → V.R₀ r (OSt V g₀ h i gl)
section
variable {β : Type}
def fVal (v : Value) (k : Value → β) : β := match v with
 | .none => k .none | .ellipsis => k .ellipsis | .notImplemented => k .notImplemented
 | .bool b => match b with | true => k (.bool true) | false => k (.bool false)
 | .int i t => k (.int i t) | .float b t => k (.float b t) | .str s t => k (.str s t) | .bytes b t => k (.bytes b t)
 | .type n => k (.type n) | .builtin n => k (.builtin n) | .ref a => k (.ref a)
theorem fVal_eq (v : Value) (k : Value → β) : fVal v k = k v := by cases v <;> first | rfl | (rename_i b; cases b <;> rfl)
def fVals (l : List Value) (k : List Value → β) : β := match l with
 | [] => k []
 | v :: l => fVal v fun v => fVals l fun l => k (v :: l)
theorem fVals_eq (l : List Value) (k : List Value → β) : fVals l k = k l := by
 induction l generalizing k with
 | nil => rfl
 | cons v l ih => unfold fVals; rw [fVal_eq, ih]
def fEnt (e : DictEntry) (k : DictEntry → β) : β := match e with
 | ⟨h, a, b⟩ => fVal a fun a => fVal b fun b => k ⟨h, a, b⟩
theorem fEnt_eq (e : DictEntry) (k : DictEntry → β) : fEnt e k = k e := by cases e; unfold fEnt; simp only [fVal_eq]
def fEnts (l : List DictEntry) (k : List DictEntry → β) : β := match l with
 | [] => k []
 | v :: l => fEnt v fun v => fEnts l fun l => k (v :: l)
theorem fEnts_eq (l : List DictEntry) (k : List DictEntry → β) : fEnts l k = k l := by
 induction l generalizing k with
 | nil => rfl
 | cons v l ih => unfold fEnts; rw [fEnt_eq, ih]
def fFlds (l : List Value) (k : List Value → β) : β := match l with
 | [a, b, c, d, e, f0, f1, f2, f3, f4, f5] => fVal a fun a => fVal b fun b => fVal c fun c => fVal d fun d => fVal e fun e => k [a, b, c, d, e, f0, f1, f2, f3, f4, f5]
 | l => fVals l k
theorem fFlds_eq (l : List Value) (k : List Value → β) : fFlds l k = k l := by
 unfold fFlds
 split
 ·simp only [fVal_eq]
 ·exact fVals_eq l k
def fData (d : Data) (k : Data → β) : β := match d with
 | .seq xs n => match xs with | ⟨l⟩ => fVals l fun l => k (.seq ⟨l⟩ n)
 | .dict xs n => match xs with | ⟨l⟩ => fEnts l fun l => k (.dict ⟨l⟩ n)
 | .fields xs => match xs with | ⟨l⟩ => fFlds l fun l => k (.fields ⟨l⟩)
 | .cell v => match v with | none => k (.cell none) | some v => fVal v fun v => k (.cell (some v))
 | d => k d
theorem fData_eq (d : Data) (k : Data → β) : fData d k = k d := by
 cases d with
 | cell v => cases v <;> first | rfl | (unfold fData; simp only [fVal_eq])
 | seq xs n => unfold fData; simp only [fVals_eq]
 | dict xs n => unfold fData; simp only [fEnts_eq]
 | fields xs => unfold fData; simp only [fFlds_eq]
 | _ => rfl
def fObj (o : Obj) (k : Obj → β) : β := match o with
 | ⟨c, d, dt, sl⟩ => fVal c fun c => fData dt fun dt => match d with
   | none => k ⟨c, none, dt, sl⟩
   | some a => k ⟨c, some a, dt, sl⟩
theorem fObj_eq (o : Obj) (k : Obj → β) : fObj o k = k o := by
 obtain ⟨c, d, dt, sl⟩ := o
 unfold fObj
 simp only [fVal_eq, fData_eq]
 cases d <;> rfl
def fArgs (a : Args) (k : Args → β) : β := match a with
 | ⟨l, kw⟩ => fVals l fun l => match kw with
   | [] => k ⟨l, []⟩
   | p :: r => k ⟨l, p :: r⟩
theorem fArgs_eq (a : Args) (k : Args → β) : fArgs a k = k a := by
 obtain ⟨l, kw⟩ := a
 unfold fArgs
 simp only [fVals_eq]
 cases kw <;> rfl
def fEnv (e : Env) (k : Env → β) : β := match e with
 | ⟨sc, lo, gl, ce, q, f, co, fr, bu⟩ => match sc with
   | ⟨a1, a2, a3, a4, a5⟩ => fVal co fun co => match f with
     | none => match fr with
       | none => k ⟨⟨a1, a2, a3, a4, a5⟩, lo, gl, ce, q, none, co, none, bu⟩
       | some y => k ⟨⟨a1, a2, a3, a4, a5⟩, lo, gl, ce, q, none, co, some y, bu⟩
     | some x => match fr with
       | none => k ⟨⟨a1, a2, a3, a4, a5⟩, lo, gl, ce, q, some x, co, none, bu⟩
       | some y => k ⟨⟨a1, a2, a3, a4, a5⟩, lo, gl, ce, q, some x, co, some y, bu⟩
theorem fEnv_eq (e : Env) (k : Env → β) : fEnv e k = k e := by
 obtain ⟨sc, lo, gl, ce, q, f, co, fr, bu⟩ := e
 obtain ⟨a1, a2, a3, a4, a5⟩ := sc
 unfold fEnv
 simp only [fVal_eq]
 cases f <;> cases fr <;> rfl
def fCode (c : Code) (k : Code → β) : β := match c with
 | .call f a => fVal f fun f => fArgs a fun a => k (.call f a)
 | .builtin n a => fArgs a fun a => k (.builtin n a)
 | .func b e => fEnv e fun e => k (.func b e)
 | .block b e => fEnv e fun e => k (.block b e)
 | .body b e => fEnv e fun e => k (.body b e)
 | .expr b e => fEnv e fun e => k (.expr b e)
 | .forLoop t i b o e => fVal i fun i => fEnv e fun e => k (.forLoop t i b o e)
 | c => k c
theorem fCode_eq (c : Code) (k : Code → β) : fCode c k = k c := by
 cases c <;> first | rfl | (unfold fCode; simp only [fVal_eq, fArgs_eq, fEnv_eq])
def fFlow (f : Flow) (k : Flow → β) : β := match f with
 | .ret v => fVal v fun v => k (.ret v)
 | f => k f
theorem fFlow_eq (f : Flow) (k : Flow → β) : fFlow f k = k f := by cases f <;> first | rfl | (unfold fFlow; simp only [fVal_eq])
end
inductive Stopped : Nat → Prop
section
variable (V : XV) (gn : Nat)
abbrev RmTy := Nat → Code → Option (List Frame) → Kont → Sem Fin → List (Addr × Obj) → Nat → Nat → List GenState → Prop
abbrev ReTy := Nat → Result → List (Addr × Obj) → Nat → Nat → List GenState → Prop
abbrev RwTy := Nat → End → Kont → List (Addr × Obj) → Nat → Nat → List GenState → Prop
variable (rm : RmTy) (re : ReTy) (rw_ : RwTy)
end
section
variable {V : XV} {g₀ : List GenState}
theorem mean_ret {r : Result} {c : Code} {md : Option (List Frame)} {κ : Kont} {t : Sem Fin} {s : Shared} (ht : t = leafOf r)
  (x : match md with
   | none => endOf V κ r s
   | some [] => wakeOf V κ (.ret r) s
   | some (.ret k _ _ _ c₁ _ _ :: fs) => Means V c₁ (some fs) κ (k r) s
   | some (.gen .. :: _) => False) : Means V c md κ t s := by
 cases md with
 | none =>
   cases r with
   | ok f => subst ht; exact y_pure _ _ _ _ _ _ _ _ _ (y_done _ _ _ _ _ _ x)
   | error e => subst ht; exact y_raise _ _ _ _ _ _ _ _ _ (y_err _ _ _ x)
 | some fs =>
   cases fs with
   | nil => exact s_end _ _ _ _ _ _ r t ht x
   | cons f fs =>
     cases f with
     | ret k hd g l c₁ p₁ kp => exact s_pop _ _ _ _ _ _ _ r t ht k hd g l c₁ p₁ kp x
     | gen => cases x
theorem mean_skim {c : Code} {md : Option (List Frame)} {κ : Kont} {t : Sem Fin} {s : Shared} (n : Nat) (x : Means V c md κ (skim ⟨V.prog, V.w.params⟩ n t) s) : Means V c md κ t s := by
 cases md with
 | none => exact y_skim _ _ _ _ _ _ _ _ _ n x
 | some fs => exact s_skim _ _ _ _ _ _ _ _ n x
theorem mean_load {c : Code} {md : Option (List Frame)} {κ : Kont} {a : Addr} {p : Option Value} {k : Obj → Sem Fin} {o : Obj} {h : Heap} {i : Nat} {gl : List GenState} (ho : h.get? a = some o) (x : Means V c md κ (k o) (OSt V g₀ h i gl)) :
  Means V c md κ (.load a p k) (OSt V g₀ h i gl) := by
 cases md with
 | none => exact y_load _ _ _ _ _ _ _ _ _ _ _ _ _ _ _ _ ho x
 | some fs => exact s_load _ _ _ _ _ _ _ _ _ _ _ _ _ _ _ ho x
theorem mean_alive {c : Code} {md : Option (List Frame)} {κ : Kont} {a : Addr} {k : Option Obj → Sem Fin} {o : Obj} {h : Heap} {i : Nat} {gl : List GenState} (ho : h.get? a = some o) (x : Means V c md κ (k (some o)) (OSt V g₀ h i gl)) :
  Means V c md κ (.loadIfAlive a k) (OSt V g₀ h i gl) := by
 cases md with
 | none => exact y_alive _ _ _ _ _ _ _ _ _ _ _ _ _ _ _ ho x
 | some fs => exact s_alive _ _ _ _ _ _ _ _ _ _ _ _ _ _ ho x
theorem kt_top (H : V.kt.Holds V.h₀ 1 0) {h : Heap} {news : List (Addr × Obj)} {m : Nat} (D : ORep V h news m) {a : Addr} {o : Obj} (e : V.kt.get a = some o) : h.get? a = some o := by
 have z := KT.Holds.get H e
 rw [Nat.one_mul, Nat.add_zero] at z
 exact D.mm.low _ _ z
theorem gens_set (gl : List GenState) (x : GenState) : (⟨gcat g₀ gl⟩ : Array GenState).push x = ⟨gcat g₀ (gl ++ [x])⟩ := by
 apply Array.ext'
 simp [gcat_eq]
end
section
variable {V : XV} {g₀ : List GenState}
theorem mean_start {prog : Program} {w : World} {h₀ : Heap} {kt : KT} {A : Around} {R : Result → Shared → Prop} {d : Drawn} {os : OsState} {c : Code} {s : Shared} (x : Means ⟨prog, w, h₀, 0, kt, [], A, R, d, 0, os⟩ c none .base (denote table c) s) :
  codeAny (model prog w) A c R s := y_code _ _ _ _ _ _ x
theorem mean_stack {c : Code} {md : Option (List Frame)} {κ : Kont} {k : List (Code × Pos) → Sem Fin} {s : Shared}
  (x : ∀ (p : Pos) (below : List (Code × Pos)), Lies (k_addr% "cn") ((c, p) :: below) → Means V c md κ (k ((c, p) :: below)) s) : Means V c md κ (.stack k) s := by
 cases md with
 | none => exact y_stack _ _ _ _ _ _ _ _ _ x
 | some fs => exact s_stack _ _ _ _ _ _ _ _ x
theorem mean_call {c : Code} {κ : Kont} {c' : Code} {hd : Option Value} {g : Bool} {l : List Value} {k : Result → Sem Fin} {s : Shared} (hnb : okMark hd = true)
  (x : codeAny (model V.prog V.w) (k_addr% "aH") c' (endOf V (.ret c hd k κ)) s) : Means V c none κ (.call c' hd g l k) s :=
 y_call _ _ _ _ _ _ _ _ _ _ _ _ _ (by rintro rfl; simp [okMark] at hnb) x
theorem mean_callS {c : Code} {fs : List Frame} {κ : Kont} {c' : Code} {hd : Option Value} {g : Bool} {l : List Value} {k : Result → Sem Fin} {s : Shared} (hnb : okMark hd = true)
  (x : codeAny (model V.prog V.w) (k_addr% "dZ") c' (postSg V.prog V.w (aroundOf V false κ) c fs (wakeOf V κ) k) s) : Means V c (some fs) κ (.call c' hd g l k) s :=
 sg_call _ _ _ _ _ _ _ _ _ _ _ _ (by rintro rfl; simp [okMark] at hnb) x
theorem mean_callF {c : Code} {fs : List Frame} {κ : Kont} {c' : Code} {hd : Option Value} {g : Bool} {l : List Value} {k : Result → Sem Fin} {s : Shared}
  (x : ∀ p, Means V c' (some (.ret k hd g l c p [] :: fs)) κ (denote table c') s) : Means V c (some fs) κ (.call c' hd g l k) s := s_call _ _ _ _ _ _ _ _ _ _ _ _ x
theorem mean_again {c : Code} {κ : Kont} {c' : Code} {s : Shared} (hq : c'.quiet = true) (x : codeAny (model V.prog V.w) (aroundOf V true κ) c' (endOf V κ) s) : Means V c none κ (.pure (.again c')) s :=
 y_pure _ _ _ _ _ _ _ _ _ (y_again _ _ _ _ _ _ hq x)
theorem mean_back {c : Code} {κ : Kont} {hd : Option Value} {k : Result → Sem Fin} {r : Result} {s : Shared} (x : Means V c none κ (k r) s) : endOf V (.ret c hd k κ) r s := x
theorem mean_backS {c : Code} {fs : List Frame} {κ : Kont} {k : Result → Sem Fin} {r : Result} {s : Shared} (x : Means V c (some fs) κ (k r) s) : postSg V.prog V.w (aroundOf V false κ) c fs (wakeOf V κ) k r s := x
theorem mean_resume_f {c : Code} {κ : Kont} {gi : Nat} {l : List Value} {k : GenResult → Sem Fin} {s : Shared} {c₀ : Code} (hg : s.gens[gi]? = some (.fresh c₀))
  (x : Means V c₀ (some []) (.gen gi c k κ) (denote table c₀) (s.setGen gi .running)) : Means V c none κ (.resume gi (.send .none) l k) s := y_resume_f _ _ _ _ _ _ _ s gi l k c₀ hg x
theorem mean_resume_s {c : Code} {κ : Kont} {gi : Nat} {r : Resume} {l : List Value} {k : GenResult → Sem Fin} {s : Shared} {k₀ : Resume → Sem Fin} {l₀ : List Value} {c₀ : Code} {p₀ : Pos} {fs₀ : List Frame} {cl : Bool}
  (hg : s.gens[gi]? = some (.suspended k₀ l₀ c₀ p₀ fs₀ cl)) (x : Means V c₀ (some fs₀) (.gen gi c k κ) (k₀ r) (s.setGen gi .running)) : Means V c none κ (.resume gi r l k) s := y_resume_s _ _ _ _ _ _ _ s gi r l k k₀ l₀ c₀ p₀ fs₀ cl hg x
theorem mean_yield {c : Code} {fs : List Frame} {κ : Kont} {v : Value} {l : List Value} {k : Resume → Sem Fin} {s : Shared} (hfs : splitAtGen fs = none) (hfg : fs.any Frame.guarded = false)
  (x : ∀ p, wakeOf V κ (.susp v false l k c p fs) s) : Means V c (some fs) κ (.yield v false l k) s := s_yield _ _ _ _ _ _ s v l k hfs hfg x
theorem mean_wake {gi : Nat} {c : Code} {k : GenResult → Sem Fin} {κ : Kont} {e : End} {s : Shared} (x : Means V c none κ (k e.result) (s.setGen gi e.genState)) : wakeOf V (.gen gi c k κ) e s := x
end
def isFin (c : Code) : Bool := match c with
 | .builtin id _ => id == "lifetime.gc.finalise"
 | _ => false
def noFin (st : List (Code × Pos)) : Prop := ∀ q ∈ st, isFin q.1 = false
theorem noFin.cons {c : Code} {p : Pos} {st : List (Code × Pos)} (hc : isFin c = false) (h : noFin st) : noFin ((c, p) :: st) := fun q hq => by
 rcases List.mem_cons.mp hq with rfl | hq
 ·exact hc
 ·exact h q hq
section
variable (V : XV)
def atNF {α : Type} (A : Around) (c : Code) (t : Sem α) (Q : α → Shared → Prop) (E : Value → Shared → Prop) (s : Shared) : Prop :=
 ∀ Γ p, Γ.code = c → Γ.Below A → noFin Γ.below → Sem.wp (model V.prog V.w) Γ t (fun a _ s' => Q a s') (fun e _ s' => E e s') p s
def codeNF (A : Around) (c : Code) (R : Result → Shared → Prop) (s : Shared) : Prop := ∀ Γ p, Γ.code = c → Γ.Below A → noFin Γ.below → wpCode (model V.prog V.w) Γ R p s
def postN (A : Around) (R : Result → Shared → Prop) : Fin → Shared → Prop := fun fin s' => match fin with
 | .done f => R (.ok f) s'
 | .again c' => c'.quiet = true ∧ codeNF V A c' R s'
def endT : Kont → Result → Shared → Prop
 | .base => V.R₀
 | .ret c _ k κ => fun r s' => atNF V (aroundOf V true κ) c (k r) (postN V (aroundOf V true κ) (endT κ)) (fun e s'' => endT κ (.error e) s'') s'
 | .gen .. => fun _ _ => False
 | .genS .. => fun _ _ => False
def MT (c : Code) (κ : Kont) (t : Sem Fin) (s : Shared) : Prop := atNF V (aroundOf V true κ) c t (postN V (aroundOf V true κ) (endT V κ)) (fun e s' => endT V κ (.error e) s') s
def MG (c : Code) (md : Option (List Frame)) (κ : Kont) (t : Sem Fin) (s : Shared) : Prop := (V.t₀ = 0 → Means V c md κ t s) ∧ (V.t₀ ≠ 0 → match md with | none => MT V c κ t s | some _ => True)
def endG (κ : Kont) (r : Result) (s : Shared) : Prop := (V.t₀ = 0 → endOf V κ r s) ∧ (V.t₀ ≠ 0 → endT V κ r s)
def wakeG (κ : Kont) (e : End) (s : Shared) : Prop := V.t₀ = 0 → wakeOf V κ e s
def RM (g₀ : List GenState) (_n : Nat) (c : Code) (md : Option (List Frame)) (κ : Kont) (t : Sem Fin) (news : List (Addr × Obj)) (m i : Nat) (gl : List GenState) : Prop :=
 ∀ h, ORep V h news m → MG V c md κ t (OSt V g₀ h i gl)
def RW_ (g₀ : List GenState) (_n : Nat) (e : End) (κ : Kont) (news : List (Addr × Obj)) (m i : Nat) (gl : List GenState) : Prop :=
 ∀ h, ORep V h news m → wakeG V κ e (OSt V g₀ h i gl)
structure LiesG (A : Around) (st : List (Code × Pos)) : Prop where
 lies : Lies A st
 nofin : V.t₀ ≠ 0 → noFin st.tail
def finOk (c : Code) : Bool := match V.t₀ with
 | 0 => true
 | _ + 1 => !isFin c
end
section
variable {V : XV} {α β : Type} {A : Around} {c : Code} {E : Value → Shared → Prop} {s : Shared}
theorem finOk_is (h : finOk V c = true) (hn : V.t₀ ≠ 0) : isFin c = false := by
 unfold finOk at h
 split at h
 ·rename_i e; exact absurd e hn
 ·cases q : isFin c with
  | false => rfl
  | true => rw [q] at h; cases h
theorem at_skim {Q : α → Shared → Prop} : ∀ (t : Sem α) (n : Nat), atNF V A c (skim ⟨V.prog, V.w.params⟩ n t) Q E s → atNF V A c t Q E s
 | _, 0, h => h
 | .rule _ k, n + 1, h => fun Γ p hc hΓ hn => at_skim (k ()) n h Γ p hc hΓ hn
 | .at q k, n + 1, h => fun Γ _ hc hΓ hn => at_skim (k ()) n h Γ q hc hΓ hn
 | .point _ k, n + 1, h => fun Γ p hc hΓ hn => at_skim (k ()) n h Γ p hc hΓ hn
 | .ask k, n + 1, h => fun Γ p hc hΓ hn => at_skim (k ⟨V.prog, V.w.params⟩) n h Γ p hc hΓ hn
 | .pure _, _ + 1, h => h
 | .raise _, _ + 1, h => h
 | .unsupported _, _ + 1, h => h
 | .finish _, _ + 1, h => h
 | .load .., _ + 1, h => h
 | .update .., _ + 1, h => h
 | .loadIfAlive .., _ + 1, h => h
 | .register .., _ + 1, h => h
 | .alloc .., _ + 1, h => h
 | .fresh .., _ + 1, h => h
 | .choose .., _ + 1, h => h
 | .os .., _ + 1, h => h
 | .call .., _ + 1, h => h
 | .handled .., _ + 1, h => h
 | .genState .., _ + 1, h => h
 | .newGen .., _ + 1, h => h
 | .resume .., _ + 1, h => h
 | .yield .., _ + 1, h => h
 | .stack .., _ + 1, h => h
 | .fork .., _ + 1, h => h
 | .thread .., _ + 1, h => h
 | .await .., _ + 1, h => h
theorem code_at {R : Result → Shared → Prop} (h : atNF V A c (denote table c) (postN V A R) (fun e s' => R (.error e) s') s) : codeNF V A c R s := fun Γ p hc hΓ hn => by
 rw [wpCode_iff_wp, hc]
 refine Sem.wp_mono _ Γ _ (fun fin p' s' h' => ?_) (fun _ _ _ h' => h') p s (h Γ p hc hΓ hn)
 cases fin with
 | done f => exact h'
 | again c' => exact ⟨h'.1, h'.2 (Γ.goto c') p' rfl (hΓ.goto c') hn⟩
end
section
variable {V : XV} {g₀ : List GenState} {c : Code} {md : Option (List Frame)} {κ : Kont} {s : Shared}
theorem mg_ret {r : Result} {t : Sem Fin} (ht : t = leafOf r)
  (x : match md with
   | none => endG V κ r s
   | some [] => wakeG V κ (.ret r) s
   | some (.ret k _ _ _ c₁ _ _ :: fs) => MG V c₁ (some fs) κ (k r) s
   | some (.gen .. :: _) => False) : MG V c md κ t s := by
 cases md with
 | none =>
   refine ⟨fun h => mean_ret ht (x.1 h), fun h => ?_⟩
   have y := x.2 h
   subst ht
   cases r with
   | ok f => exact fun Γ p _ _ _ => y
   | error e => exact fun Γ p _ _ _ => y
 | some fs =>
   cases fs with
   | nil => exact ⟨fun h => mean_ret (md := some []) ht (x h), fun _ => trivial⟩
   | cons f fs =>
     cases f with
     | ret k hd g l c₁ p₁ kp => exact ⟨fun h => mean_ret (md := some (.ret k hd g l c₁ p₁ kp :: fs)) ht (x.1 h), fun _ => trivial⟩
     | gen => cases x
theorem mg_skim {t : Sem Fin} (n : Nat) (x : MG V c md κ (skim ⟨V.prog, V.w.params⟩ n t) s) : MG V c md κ t s :=
 ⟨fun h => mean_skim n (x.1 h), fun h => by cases md with | none => exact at_skim t n (x.2 h) | some fs => trivial⟩
theorem mg_load {a : Addr} {p : Option Value} {k : Obj → Sem Fin} {o : Obj} {h : Heap} {i : Nat} {gl : List GenState} (ho : h.get? a = some o) (x : MG V c md κ (k o) (OSt V g₀ h i gl)) : MG V c md κ (.load a p k) (OSt V g₀ h i gl) :=
 ⟨fun q => mean_load ho (x.1 q), fun q => by cases md with | none => exact fun Γ p hc hΓ hn => ⟨o, ho, x.2 q Γ p hc hΓ hn⟩ | some fs => trivial⟩
theorem mg_alive {a : Addr} {k : Option Obj → Sem Fin} {o : Obj} {h : Heap} {i : Nat} {gl : List GenState} (ho : h.get? a = some o) (x : MG V c md κ (k (some o)) (OSt V g₀ h i gl)) : MG V c md κ (.loadIfAlive a k) (OSt V g₀ h i gl) :=
 ⟨fun q => mean_alive ho (x.1 q), fun q => by
  cases md with
  | none =>
    intro Γ p hc hΓ hn
    show Sem.wp _ _ (k (h.get? a)) _ _ _ _
    rw [ho]
    exact x.2 q Γ p hc hΓ hn
  | some fs => trivial⟩
theorem mg_stack {k : List (Code × Pos) → Sem Fin}
  (x : ∀ (p : Pos) (below : List (Code × Pos)), LiesG V (k_addr% "cn") ((c, p) :: below) → MG V c md κ (k ((c, p) :: below)) s) : MG V c md κ (.stack k) s := by
 refine ⟨fun q => mean_stack fun p below l => (x p below ⟨l, fun h => absurd q h⟩).1 q, fun q => ?_⟩
 cases md with
 | none =>
   intro Γ p hc hΓ hn
   subst hc
   exact (x p Γ.below ⟨lies_of hΓ.in, fun _ => hn⟩).2 q Γ p rfl hΓ hn
 | some fs => trivial
theorem codeAny_mono {M : Model} {A : Around} {c : Code} {R R' : Result → Shared → Prop} {s : Shared} (x : codeAny M A c R s) (h : ∀ r s, R r s → R' r s) : codeAny M A c R' s := fun Γ p hc hΓ => wpCode_mono h (x Γ p hc hΓ)
theorem mg_call {c' : Code} {hd : Option Value} {g : Bool} {l : List Value} {k : Result → Sem Fin} (hnb : okMark hd = true)
  (x : codeAny (model V.prog V.w) (k_addr% "aH") c' (endG V (.ret c hd k κ)) s) : MG V c none κ (.call c' hd g l k) s :=
 ⟨fun q => mean_call hnb (codeAny_mono x fun _ _ y => y.1 q), fun q Γ p hc hΓ hn =>
  wpCode_mono (fun _ _ y => y.2 q Γ p hc hΓ hn) (x _ p rfl ((hc ▸ hΓ.in : Γ.In ((aroundOf V true κ).under c)).enter c' hd p (by rintro rfl; simp [okMark] at hnb)))⟩
theorem mg_callGo {c' : Code} {hd : Option Value} {g : Bool} {l : List Value} {k : Result → Sem Fin} (hnb : okMark hd = true) (hf : finOk V c = true)
  (x : MG V c' none (.ret c hd k κ) (denote table c') s) : MG V c none κ (.call c' hd g l k) s :=
 ⟨fun q => mean_call hnb (y_code _ _ _ _ _ _ (x.1 q)), fun q Γ p hc hΓ hn => by
  have y : codeNF V (k_addr% "aH") c' (endT V (.ret c hd k κ)) s := code_at (x.2 q)
  have z := y (Γ.enter c' hd p) p rfl ((hc ▸ hΓ.in : Γ.In ((aroundOf V true κ).under c)).enter c' hd p (by rintro rfl; simp [okMark] at hnb)) (by
   show noFin ((Γ.code, p) :: Γ.below)
   exact noFin.cons (by rw [hc]; exact finOk_is hf q) hn)
  exact wpCode_mono (fun _ _ y => y Γ p hc hΓ hn) z⟩
theorem mg_callS {fs : List Frame} {c' : Code} {hd : Option Value} {g : Bool} {l : List Value} {k : Result → Sem Fin} (hnb : okMark hd = true)
  (x : V.t₀ = 0 → codeAny (model V.prog V.w) (k_addr% "dZ") c' (postSg V.prog V.w (aroundOf V false κ) c fs (wakeOf V κ) k) s) : MG V c (some fs) κ (.call c' hd g l k) s :=
 ⟨fun q => mean_callS hnb (x q), fun _ => trivial⟩
theorem mg_callF {fs : List Frame} {c' : Code} {hd : Option Value} {g : Bool} {l : List Value} {k : Result → Sem Fin} (x : ∀ p, MG V c' (some (.ret k hd g l c p [] :: fs)) κ (denote table c') s) : MG V c (some fs) κ (.call c' hd g l k) s :=
 ⟨fun q => mean_callF fun p => (x p).1 q, fun _ => trivial⟩
theorem mg_again {c' : Code} (hq : c'.quiet = true) (x : codeAny (model V.prog V.w) (aroundOf V true κ) c' (endG V κ) s) : MG V c none κ (.pure (.again c')) s :=
 ⟨fun q => mean_again hq (codeAny_mono x fun _ _ y => y.1 q), fun q _ _ _ _ _ => ⟨hq, fun Γ p hc hΓ _ => wpCode_mono (fun _ _ y => y.2 q) (x Γ p hc hΓ)⟩⟩
theorem mg_againGo {c' : Code} (hq : c'.quiet = true) (x : MG V c' none κ (denote table c') s) : MG V c none κ (.pure (.again c')) s :=
 ⟨fun q => mean_again hq (y_code _ _ _ _ _ _ (x.1 q)), fun q _ _ _ _ _ => ⟨hq, code_at (x.2 q)⟩⟩
theorem mg_againS {fs : List Frame} {c' : Code} (hq : c'.quiet = true) (x : MG V c' (some fs) κ (denote table c') s) : MG V c (some fs) κ (.pure (.again c')) s :=
 ⟨fun q => s_again _ _ _ _ _ _ _ _ hq (x.1 q), fun _ => trivial⟩
theorem mg_back {hd : Option Value} {k : Result → Sem Fin} {r : Result} (x : MG V c none κ (k r) s) : endG V (.ret c hd k κ) r s := ⟨fun q => mean_back (x.1 q), fun q => x.2 q⟩
theorem mg_backS {fs : List Frame} {k : Result → Sem Fin} {r : Result} (q : V.t₀ = 0) (x : MG V c (some fs) κ (k r) s) : postSg V.prog V.w (aroundOf V false κ) c fs (wakeOf V κ) k r s := mean_backS (x.1 q)
theorem mg_resume_f {gi : Nat} {l : List Value} {k : GenResult → Sem Fin} {c₀ : Code} (q : V.t₀ = 0) (hg : s.gens[gi]? = some (.fresh c₀))
  (x : MG V c₀ (some []) (.gen gi c k κ) (denote table c₀) (s.setGen gi .running)) : MG V c none κ (.resume gi (.send .none) l k) s := ⟨fun q => mean_resume_f hg (x.1 q), fun h => absurd q h⟩
theorem mg_resume_s {gi : Nat} {r : Resume} {l : List Value} {k : GenResult → Sem Fin} {k₀ : Resume → Sem Fin} {l₀ : List Value} {c₀ : Code} {p₀ : Pos} {fs₀ : List Frame} {cl : Bool} (q : V.t₀ = 0)
  (hg : s.gens[gi]? = some (.suspended k₀ l₀ c₀ p₀ fs₀ cl)) (x : MG V c₀ (some fs₀) (.gen gi c k κ) (k₀ r) (s.setGen gi .running)) : MG V c none κ (.resume gi r l k) s := ⟨fun q => mean_resume_s hg (x.1 q), fun h => absurd q h⟩
theorem mg_yield {fs : List Frame} {v : Value} {l : List Value} {k : Resume → Sem Fin} (hfs : splitAtGen fs = none) (hfg : fs.any Frame.guarded = false)
  (x : ∀ p, wakeG V κ (.susp v false l k c p fs) s) : MG V c (some fs) κ (.yield v false l k) s := ⟨fun q => mean_yield hfs hfg fun p => x p q, fun _ => trivial⟩
theorem mg_wake {gi : Nat} {k : GenResult → Sem Fin} {e : End} (x : MG V c none κ (k e.result) (s.setGen gi e.genState)) : wakeG V (.gen gi c k κ) e s := fun q => mean_wake (x.1 q)
theorem mg_fresh {k : Nat → Sem Fin} {h : Heap} {i : Nat} {gl : List GenState} (x : MG V c md κ (k i) (OSt V g₀ h (i + 1) gl)) : MG V c md κ (.fresh k) (OSt V g₀ h i gl) := by
 refine ⟨fun q => ?_, fun q => ?_⟩
 ·have y := x.1 q
  cases md with
  | none => exact y_fresh _ _ _ _ _ _ _ _ _ _ _ _ _ y
  | some fs => exact s_fresh _ _ _ _ _ _ _ _ _ _ _ _ y
 ·cases md with
  | none => exact fun Γ p hc hΓ hn => x.2 q Γ p hc hΓ hn
  | some fs => trivial
theorem mg_newGen {c' : Code} {k : Nat → Sem Fin} {h : Heap} {i : Nat} {gl : List GenState} (x : MG V c md κ (k (g₀.length + gl.length)) (OSt V g₀ h i (gl ++ [.fresh c']))) : MG V c md κ (.newGen c' k) (OSt V g₀ h i gl) := by
 have e : (⟨gcat g₀ gl⟩ : Array GenState).size = g₀.length + gl.length := by simp [gcat_eq]
 unfold OSt at x
 rw [← gens_set, ← e] at x
 refine ⟨fun q => ?_, fun q => ?_⟩
 ·have y := x.1 q
  cases md with
  | none => exact y_newGen _ _ _ _ _ _ _ _ _ _ _ _ _ _ y
  | some fs => exact s_newGen _ _ _ _ _ _ _ _ _ _ _ _ _ y
 ·cases md with
  | none => exact fun Γ p hc hΓ hn => x.2 q Γ p hc hΓ hn
  | some fs => trivial
theorem mg_genState {g : Nat} {k : GenStatus × Option (List (Code × Pos)) → Sem Fin} {gs : GenState} (hg : s.gens[g]? = some gs) (x : MG V c md κ (k gs.seen) s) : MG V c md κ (.genState g k) s := by
 refine ⟨fun q => ?_, fun q => ?_⟩
 ·have y := x.1 q
  cases md with
  | none => exact y_genState _ _ _ _ _ _ _ _ _ _ gs hg y
  | some fs => exact s_genState _ _ _ _ _ _ _ _ _ gs hg y
 ·cases md with
  | none => exact fun Γ p hc hΓ hn => ⟨gs, hg, x.2 q Γ p hc hΓ hn⟩
  | some fs => trivial
theorem mg_handled {k : Option Value → Sem Fin} (x : MG V c none κ (k (aroundOf V true κ).handled) s) : MG V c none κ (.handled false k) s :=
 ⟨fun q => y_handled _ _ _ _ _ _ _ _ _ (x.1 q), fun q Γ p hc hΓ hn => by
  show Sem.wp _ _ (k Γ.handled) _ _ _ _
  rw [hΓ.1]
  exact x.2 q Γ p hc hΓ hn⟩
theorem mg_handledS {fs : List Frame} {k : Option Value → Sem Fin} (x : MG V c (some fs) κ (k (k_addr% "dl").handled) s) : MG V c (some fs) κ (.handled false k) s :=
 ⟨fun q => s_handled _ _ _ _ _ _ _ _ (x.1 q), fun _ => trivial⟩
theorem mg_update {a : Addr} {p : Option Value} {f : Obj → Obj} {k : Unit → Sem Fin} {h : Heap} {i : Nat} {gl : List GenState} {o : Obj} (ho : h.get? a = some o)
  (x : MG V c md κ (k ()) (OSt V g₀ (h.update a f) i gl)) : MG V c md κ (.update a p f k) (OSt V g₀ h i gl) := by
 refine ⟨fun q => ?_, fun q => ?_⟩
 ·have y := x.1 q
  cases md with
  | none => exact wpOwn_bind (m := updatePart a p f) (f := k) (wpOwn_of_wpAny (wpAny_updatePart ho y))
  | some fs => exact s_cmd _ _ _ _ _ _ (m := updatePart a p f) (k := k) (wpAny_updatePart ho y)
 ·cases md with
  | none => exact fun Γ p hc hΓ hn => ⟨Option.isSome_iff_exists.mpr ⟨_, ho⟩, x.2 q Γ p hc hΓ hn⟩
  | some fs => trivial
theorem mg_alloc {o : Obj} {k : Addr → Sem Fin} {h : Heap} {i : Nat} {gl : List GenState} (x : MG V c md κ (k h.objs.size) (OSt V g₀ (h.push o) i gl)) : MG V c md κ (.alloc o k) (OSt V g₀ h i gl) := by
 refine ⟨fun q => ?_, fun q => ?_⟩
 ·have y := x.1 q
  cases md with
  | none => exact wpOwn_bind (m := alloc o) (f := k) (wpOwn_of_wpAny (wpAny_alloc y))
  | some fs => exact s_cmd _ _ _ _ _ _ (m := alloc o) (k := k) (wpAny_alloc y)
 ·cases md with
  | none => exact fun Γ p hc hΓ hn => x.2 q Γ p hc hΓ hn
  | some fs => trivial
end
def genOk (V : XV) : Bool := match V.t₀ with
 | 0 => true
 | _ + 1 => false
theorem genOk_is {V : XV} (h : genOk V = true) : V.t₀ = 0 := by
 unfold genOk at h
 split at h
 ·assumption
 ·cases h
def finF (act : Code × Pos) : Option (Option Value × List (Str × Value)) := match act.1 with
 | .builtin "lifetime.gc.finalise" ⟨pos, gone⟩ => some (pos.head?, gone)
 | _ => none
theorem finF_none {act : Code × Pos} (h : isFin act.1 = false) : finF act = none := by
 obtain ⟨c, p⟩ := act
 unfold finF
 split
 ·rename_i e
  simp only at e
  rw [e] at h
  simp [isFin] at h
 ·rfl
theorem LiesG.noFin {V : XV} {A : Around} {c : Code} {p : Pos} {st : List (Code × Pos)} (h : LiesG V A ((c, p) :: st)) (q : V.t₀ ≠ 0) (hc : isFin c = false) : List.findSome? finF ((c, p) :: st) = none :=
 List.findSome?_eq_none_iff.mpr fun x hx => finF_none (noFin.cons hc (h.2 q) x hx)
section
variable {V : XV} {g₀ : List GenState}
theorem dec_eq {p : Prop} (d d' : Decidable p) : d = d' := Subsingleton.elim _ _
theorem bool_same {α : Type} (G : Bool → α) (b : Bool) (v : α) (h1 : G true = v) (h0 : G false = v) : G b = v := by cases b <;> assumption
end
end Mine
namespace Mine
open Lean Meta Elab Tactic PySem PySem.W PySem.W.X
structure Cur where
 c : Lean.Expr
 md : Lean.Expr
 κ : Lean.Expr
 t : Lean.Expr
 news : List (Lean.Expr × Lean.Expr)
 tail : Lean.Expr
 m : Lean.Expr
 i : Lean.Expr
 gl : Lean.Expr
structure Env where
 V : Lean.Expr
 g₀ : Lean.Expr
 K : Lean.Expr
 h₀ : Lean.Expr
def tPair : Lean.Expr := mkApp2 (mkConst ``Prod [0, 0]) (mkConst ``Nat) (mkConst ``Obj)
def pairOf (a o : Lean.Expr) : Lean.Expr := mkApp4 (mkConst ``Prod.mk [0, 0]) (mkConst ``Nat) (mkConst ``Obj) a o
def listOfE (ty : Lean.Expr) (l : List Lean.Expr) (tail : Lean.Expr) : Lean.Expr := l.foldr (fun x r => mkApp3 (mkConst ``List.cons [0]) ty x r) tail
def Cur.newsE (x : Cur) : Lean.Expr := listOfE tPair (x.news.map fun (a, o) => pairOf a o) x.tail
def tGen : Lean.Expr := mkConst ``GenState
def nilOf (ty : Lean.Expr) : Lean.Expr := mkApp (mkConst ``List.nil [0]) ty
def kw (e : Lean.Expr) : MetaM Lean.Expr := do ofExceptKernelException (Kernel.whnf (← getEnv) (← getLCtx) (← instantiateMVars e))
def ctor? (e : Lean.Expr) : MetaM Bool := do
 match e.getAppFn with
 | .const n _ => return (match (← getEnv).find? n with | some (.ctorInfo _) => true | _ => false)
 | .lit _ => return true
 | _ => return false
def readNews : Nat → Lean.Expr → MetaM (List (Lean.Expr × Lean.Expr) × Lean.Expr)
 | 0, e => return ([], e)
 | n + 1, e => do
   let e' ← if e.isAppOfArity ``List.cons 3 then pure e else kw e
   if e'.isAppOfArity ``List.cons 3 then
    let a := e'.getAppArgs
    let p ← if a[1]!.isAppOfArity ``Prod.mk 4 then pure a[1]! else kw a[1]!
    unless p.isAppOfArity ``Prod.mk 4 do return ([], e)
    let (l, t) ← readNews n a[2]!
    return ((p.getAppArgs[2]!, p.getAppArgs[3]!) :: l, t)
   if e'.isAppOf ``List.nil then return ([], e')
   return ([], e)
def tidyList : Nat → Lean.Expr → (Lean.Expr → MetaM Lean.Expr) → MetaM Lean.Expr
 | 0, e, _ => return e
 | n + 1, e, f => do
   let e' ← if e.isAppOfArity ``List.cons 3 then pure e else kw e
   if e'.isAppOfArity ``List.cons 3 then
    let a := e'.getAppArgs
    return mkApp3 e'.getAppFn a[0]! (← f a[1]!) (← tidyList n a[2]! f)
   if e'.isAppOf ``List.nil then return e'
   return e
def tidyArr (e : Lean.Expr) (f : Lean.Expr → MetaM Lean.Expr) : MetaM Lean.Expr := do
 let e' ← if e.isAppOfArity ``Array.mk 2 then pure e else kw e
 if e'.isAppOfArity ``Array.mk 2 then
  let a := e'.getAppArgs
  return mkApp2 e'.getAppFn a[0]! (← tidyList 500 a[1]! f)
 return e
def tidyHead (e : Lean.Expr) : MetaM Lean.Expr := do if ← ctor? e then return e else kw e
def tidyVal (e : Lean.Expr) : MetaM Lean.Expr := do
 let e ← tidyHead e
 if e.isAppOfArity ``PySem.Value.int 2 then
  let i ← kw e.appFn!.appArg!
  if i.isAppOfArity ``Int.ofNat 1 || i.isAppOfArity ``Int.negSucc 1 then return mkApp2 e.getAppFn i e.appArg!
 return e
def tidyEntry (e : Lean.Expr) : MetaM Lean.Expr := do
 let e ← tidyHead e
 if e.isAppOfArity ``DictEntry.mk 3 then
  let a := e.getAppArgs
  return mkApp3 e.getAppFn a[0]! (← tidyVal a[1]!) (← tidyVal a[2]!)
 return e
def tidyObj (e : Lean.Expr) : MetaM Lean.Expr := do
 let e ← tidyHead e
 unless e.isAppOfArity ``Obj.mk 4 do return e
 let a := e.getAppArgs
 let dt ← tidyHead a[2]!
 let x := dt.getAppArgs
 let dt ← match dt.getAppFn.constName? with
  | some ``PySem.Data.dict => pure (mkApp2 dt.getAppFn (← tidyArr x[0]! tidyEntry) (← tidyHead x[1]!))
  | some ``PySem.Data.seq => pure (mkApp2 dt.getAppFn (← tidyArr x[0]! tidyVal) (← tidyHead x[1]!))
  | some ``PySem.Data.fields => pure (mkApp dt.getAppFn (← tidyArr x[0]! tidyVal))
  | some ``PySem.Data.cell => pure (mkApp dt.getAppFn (← tidyHead x[0]!))
  | _ => pure dt
 let sl ← tidyArr a[3]! tidyHead
 return mkApp4 e.getAppFn (← tidyVal a[0]!) (← tidyHead a[1]!) dt sl
def textOf (e : Lean.Expr) : MetaM (Option String) := do
 if let .lit (.strVal s) := e then return some s
 let mut l := mkApp2 (mkConst ``Array.toList [0]) (mkConst ``UInt8) (mkApp (mkConst ``ByteArray.data) (mkApp (mkConst ``String.toByteArray) e))
 let mut cs : Array Char := #[]
 for _ in [0:200] do
  let r ← kw l
  unless r.isAppOfArity ``List.cons 3 do
   return if r.isAppOf ``List.nil then some (String.ofList cs.toList) else none
  match ← kw (mkApp (mkConst ``UInt8.toNat) r.getAppArgs[1]!) with
  | .lit (.natVal n) => cs := cs.push (Char.ofNat n)
  | _ => return none
  l := r.getAppArgs[2]!
 return none
def codeWord (c : Lean.Expr) : MetaM String := do
 let c ← tidyHead c
 match c.getAppFn.constName? with
 | some ``PySem.Code.builtin => return "b:" ++ ((← textOf c.getAppArgs[0]!).getD "?")
 | some ``PySem.Code.call =>
   let f ← tidyHead c.getAppArgs[0]!
   match f.getAppFn.constName? with
   | some ``PySem.Value.ref =>
     let a ← kw f.appArg!
     match a with
     | .lit (.natVal n) => return s!"call ref {n}"
     | e => return s!"call ref {← ppExpr e}"
   | some ``PySem.Value.builtin => return "call " ++ ((← textOf f.appArg!).getD "?")
   | some ``PySem.Value.type => return "type " ++ ((← textOf f.appArg!).getD "?")
   | some n => return "call " ++ n.toString
   | none => return "call ?"
 | some n => return n.getString!
 | none => return "?"
def symStops : List String := ["call dict.get", "call dict.__contains__", "call dict.__getitem__", "call dict.__setitem__", "call dict.__delitem__", "call dict.pop", "call dict.setdefault", "call dict.__len__", "call dict.__eq__", "call dict.__ne__",
 "type list", "call list.__getitem__", "call list.__len__", "call list.index", "call list.__contains__", "call list.__add__", "call list.__eq__", "call list.__ne__", "call list.__setitem__", "call list.__delitem__", "b:list.extend.loop", "call min", "call sorted", "call dict.update"]
def eqAt (a b : Lean.Expr) : MetaM Bool := do
 if a == b then return true
 match Kernel.isDefEq (← getEnv) (← getLCtx) a b with
 | .ok r => return r
 | .error _ => return false
def placeOf (x : Cur) (a : Lean.Expr) : MetaM (Option Nat) := do
 let mut k := 0
 for (b, _) in x.news do
  if b == a then return some k
  k := k + 1
 return none
def big : Nat := 1000000000
def rflAt (ty v : Lean.Expr) : Lean.Expr := mkApp2 (mkConst ``Eq.refl [1]) ty v
def own? (e : Lean.Expr) : Bool := match e.getAppFn with
 | .proj _ _ (.const on _) => [``oRoom, ``oEnvs, ``oNear, ``oOver, ``oWarm].contains on
 | _ => false
def chain : Nat → Lean.Expr → (Lean.Expr → MetaM Lean.Expr) → Array (Lean.Expr × Lean.Expr × Lean.Expr × Lean.Expr) → MetaM (Array (Lean.Expr × Lean.Expr × Lean.Expr × Lean.Expr))
 | 0, _, _, acc => return acc
 | n + 1, e, put, acc => do
   let e := e.headBeta
   match ← PySem.W.XRun.majorOf e with
   | some M =>
     let M1 ← if ← ctor? M then pure M else kw M
     if ← ctor? M1 then
      let e1 ← PySem.W.ZRun.putMajor e M M1
      let r ← kw e1
      if r == e then return acc
      chain n r put acc
     else
      let put' := fun x => do put (← PySem.W.ZRun.putMajor e M x)
      let acc := acc.push (← put e, M, M1, e)
      chain n M1 put' acc
   | none =>
     if ← ctor? e then return acc
     let r ← kw e
     if r == e then return acc
     chain n r put acc
def oracle (s : Lean.Expr) : MetaM (k_addr% "cE") := do
 let .proj _ _ (.const on _) := s.getAppFn | return none
 let sa := s.getAppArgs
 let mut lie? := none
 for d? in (← getLCtx).decls.toArray.reverse do
  let some d := d? | continue
  if d.isImplementationDetail then continue
  if lie?.isSome then break
  let t := d.type
  if t.isAppOfArity ``Lies 2 then
   if ← eqAt t.appArg! sa[0]! then lie? := some (d.toExpr, t.appFn!.appArg!)
  if t.isAppOfArity ``LiesG 3 then
   if ← eqAt t.appArg! sa[0]! then lie? := some (mkAppN (mkConst ``LiesG.lies) (t.getAppArgs.push d.toExpr), t.appFn!.appArg!)
 let some (l, A') := lie? | return none
 if on == ``oEnvs then
  let fr ← kw (mkApp (mkConst ``PySem.Around.frames) A')
  unless fr.isAppOfArity ``Option.some 2 do return none
  let es := fr.appArg!
  let lT ← inferType es
  let hE := mkApp2 (mkConst ``Eq.refl [1]) (mkApp (mkConst ``Option [0]) lT) (mkApp2 (mkConst ``Option.some [0]) lT es)
  return some (es, mkAppN (mkConst ``Lies.envs) #[A', sa[0]!, l, es, hE])
 let lt (f : Name) (n : Name) : MetaM Lean.Expr := do
  return mkApp3 (mkConst ``Nat.le_of_ble_eq_true) (mkApp (mkConst ``Nat.succ) (mkApp (mkConst f) A')) (mkConst n) (rflAt (mkConst ``Bool) (mkConst ``Bool.true))
 let h ← if on == ``oRoom then pure <| mkApp4 (mkConst ``Lies.room) A' sa[0]! l (← lt ``PySem.Around.units ``cLine)
  else
   let hd ← lt ``PySem.Around.depth ``recursionLimit
   pure <| mkApp5 (mkConst (if on == ``oNear then ``Lies.near' else if on == ``oOver then ``Lies.over else ``Lies.warm)) A' sa[0]! l hd sa[1]!
 return some (mkConst ``Bool.false, h)
def kcheck (e : Lean.Expr) : MetaM Bool := do
 match Kernel.check (← getEnv) (← getLCtx) (← instantiateMVars e) with
 | .ok _ => return true
 | .error _ => return false
def absAll (e N ty : Lean.Expr) : MetaM Lean.Expr := withLocalDeclD `z ty fun z => mkLambdaFVars #[z] (e.replace fun q => if q == N then some z else none)
def showShort (e : Lean.Expr) : MetaM String := do
 let s := toString (← ppExpr e)
 return (s.take 300).toString
def parse (q : Lean.Expr) (x : Cur) : MetaM (Option (String × Cur)) := do
 let a := q.getAppArgs
 let rest (k : Nat) : MetaM Cur := do
  let (news, tail) ← readNews 400 a[k]!
  let gl ← tidyList 50 a[k + 3]! pure
  return { x with news, tail, m := a[k + 1]!, i := a[k + 2]!, gl }
 if q.isAppOfArity ``RM 11 then
  let y ← rest 7
  return some ("rm", { y with c := a[3]!, md := ← tidyHead a[4]!, κ := a[5]!, t := a[6]! })
 if q.isAppOfArity ``RE 8 then return some ("end", ← rest 4)
 if q.isAppOfArity ``RW_ 9 then return some ("wake", ← rest 5)
 return none
structure Tpl where
 recName : Lean.Expr
 nargs : Nat
 body : Lean.Expr
def bindTpl : MetaM Tpl := do
 let some (.defnInfo d) := (← getEnv).find? ``PySem.W.R.bindR | throwError "bindR"
 let mut b := d.value
 for _ in [0:4] do
  let .lam _ _ x _ := b | throwError "bindR's shape"
  b := x
 return ⟨b.getAppFn, b.getAppNumArgs, b⟩
def foldBind (tp : Tpl) (e : Lean.Expr) : Lean.Expr :=
 e.replace (go 400)
where
 go : Nat → Lean.Expr → Option Lean.Expr
 | 0, _ => none
 | n + 1, e =>
   if e.getAppFn.isConst && e.getAppFn.constName! == tp.recName.constName! && e.getAppNumArgs == tp.nargs then
    let as := e.getAppArgs
    let α := as[0]!
    match as[1]! with
    | .lam _ _ mb _ =>
      if mb.isApp then
       let β := mb.appArg!
       match as[2]! with
       | .lam _ _ fb _ =>
         let f? : Option Lean.Expr := match fb with
          | .app g (.bvar 0) => if g.hasLooseBVar 0 then none else some (g.lowerLooseBVars 1 1)
          | _ => none
         match f? with
         | some f =>
           if β.hasLooseBVars then none else
           let M := as[as.size - 1]!
           let whole := tp.body.instantiateRev #[α, β, M, f]
           let ws := whole.getAppArgs
           if (List.range (as.size - 1)).all fun i => i == 2 || ws[i]! == as[i]! then
            some (mkApp4 (mkConst ``PySem.W.R.bindR) α β (M.replace (go n)) (f.replace (go n)))
           else none
         | none => none
       | _ => none
      else none
    | _ => none
   else none
def bigger (line : Nat) (e : Lean.Expr) : Bool := Id.run do
 let mut todo : Array Lean.Expr := #[e]
 let mut n := 0
 for _ in [0:line + 2] do
  match todo.back? with
  | none => return false
  | some x =>
    todo := todo.pop
    n := n + 1
    match x with
    | .app f a => todo := (todo.push a).push f
    | .lam _ t b _ | .forallE _ t b _ => todo := (todo.push t).push b
    | .letE _ t v b _ => todo := ((todo.push t).push v).push b
    | .proj _ _ b => todo := todo.push b
    | .mdata _ b => todo := todo.push b
    | _ => pure ()
 return n > line
def nameClosed (e : Lean.Expr) : MetaM Lean.Expr := do
 let nm := (`Mine.cl).str s!"c{e.hash}"
 match (← getEnv).find? nm with
 | some (.defnInfo d) => return if d.value == e then mkConst nm else e
 | some _ => return e
 | none =>
   let ty ← inferType e
   if ty.hasMVar || ty.hasFVar then return e
   if ← isProp ty then return e
   addDecl (.defnDecl { name := nm, levelParams := [], type := ty, value := e, hints := .abbrev, safety := .safe })
   return mkConst nm
def closeOff (e : Lean.Expr) : MetaM Lean.Expr := do
 let e ← instantiateMVars e
 Core.transform e (pre := fun x => do
  if x.hasLooseBVars || x.hasFVar || x.hasMVar then return .continue
  if x.isConst || x.isSort || x.isLit then return .done x
  if x.hasLevelParam then return .continue
  unless bigger 40 x do return .done x
  match ← (nameClosed x).run' with
  | x' => return .done x')
def offOf : Nat → Lean.Expr → MetaM (Lean.Expr × Nat)
 | 0, e => return (e, 0)
 | n + 1, e => do
   if e.isAppOfArity ``HAdd.hAdd 6 then
    if let some k := (e.appArg!.rawNatLit?).orElse (fun _ => e.appArg!.nat?) then
     let (x, j) ← offOf n e.appFn!.appArg!
     return (x, j + k)
   if e.isFVar then return (e, 0)
   let r ← kw e
   if r.isAppOfArity ``Nat.succ 1 then
    let (x, j) ← offOf n r.appArg!
    return (x, j + 1)
   return (r, 0)
def setAns (P A v : Lean.Expr) : Lean.Expr := P.replaceFVar A v
def tryHyps (g : MVarId) : MetaM Bool := do
 if ← g.isAssigned then return true
 let P ← instantiateMVars (← g.getType)
 for d? in (← getLCtx).decls.toArray.reverse do
  let some d := d? | continue
  if d.isImplementationDetail then continue
  let T ← instantiateMVars d.type
  let body := T.getForallBody
  unless body.getAppFn == P.getAppFn || P.getAppFn.isMVar do continue
  let ok ← commitWhen do
   let (xs, _, T') ← forallMetaTelescope T
   unless ← isDefEq P T' do return false
   for x in xs do
    if (← instantiateMVars x).isMVar then return false
   g.assign (mkAppN d.toExpr (← xs.mapM instantiateMVars))
   return true
  if ok then return true
 return false
def byHyp (M ty : Lean.Expr) : MetaM (k_addr% "cE") := do
 if ty.isAppOfArity ``Decidable 1 then
  let p := ty.appArg!.headBeta
  for d? in (← getLCtx).decls.toArray.reverse do
   let some d := d? | continue
   if d.isImplementationDetail then continue
   let T := d.type
   unless T.isAppOf ``Eq || T.isAppOf ``Ne || T.isAppOf ``Not || T.isAppOf ``LT.lt || T.isAppOf ``LE.le || T.isAppOf ``Membership.mem do continue
   if T.isAppOf ``Eq && !p.isAppOf ``Eq then continue
   if !T.isAppOf ``Not && !T.isAppOf ``Ne then
    if T.getAppFn == p.getAppFn && (← eqAt T p) then
     let v := mkApp2 (mkConst ``Decidable.isTrue) p d.toExpr
     return some (v, mkApp3 (mkConst ``dec_eq) p M v)
   else
    let np := mkApp (mkConst ``Not) p
    if (T.isAppOf ``Ne && p.isAppOf ``Eq) || T.isAppOf ``Not then
     if ← eqAt T np then
      let v := mkApp2 (mkConst ``Decidable.isFalse) p d.toExpr
      return some (v, mkApp3 (mkConst ``dec_eq) p M v)
  return none
 for d? in (← getLCtx).decls.toArray.reverse do
  let some d := d? | continue
  if d.isImplementationDetail then continue
  let T := d.type
  if T.isForall && T.getForallBody.isAppOfArity ``Eq 3 && T.getForallBody.appFn!.appArg!.getAppFn == M.getAppFn then
   let r ← commitWhenSome? do
    let (xs, _, T') ← forallMetaTelescope T
    unless ← isDefEq T'.appFn!.appFn!.appArg! ty do return none
    unless ← withReducible (isDefEq T'.appFn!.appArg! M) do return none
    for x in xs do
     if (← instantiateMVars x).isMVar then return none
    return some (← instantiateMVars T'.appArg!, mkAppN d.toExpr (← xs.mapM instantiateMVars))
   if r.isSome then return r
  unless T.isAppOfArity ``Eq 3 do continue
  unless T.appFn!.appFn!.appArg! == ty do continue
  if ← eqAt T.appFn!.appArg! M then return some (T.appArg!, d.toExpr)
 return none
def symArg (y : Cur) (c : Lean.Expr) : MetaM Bool := do
 let c ← tidyHead c
 unless c.isAppOf ``PySem.Code.call || c.isAppOf ``PySem.Code.builtin do return false
 let a ← tidyHead c.appArg!
 let l ← tidyList 4 a.getAppArgs[0]! tidyHead
 let mut l := l
 for _ in [0:4] do
  unless l.isAppOfArity ``List.cons 3 do break
  let v ← tidyHead l.getAppArgs[1]!
  l := l.getAppArgs[2]!
  unless v.isAppOf ``PySem.Value.ref do continue
  let a := v.appArg!
  if (← kw a).isRawNatLit then continue
  let mut k? ← placeOf y a
  if k?.isNone then
   let mut k := 0
   for (b, _) in y.news do
    if k?.isNone then if ← eqAt a b then k? := some k
    k := k + 1
  let some k := k? | continue
  let o ← tidyHead y.news[k]!.2
  unless o.isAppOfArity ``Obj.mk 4 do return true
  let dt ← tidyHead o.getAppArgs[2]!
  if dt.isAppOf ``PySem.Data.dict || dt.isAppOf ``PySem.Data.seq then
   let mut e := mkApp2 (mkConst ``Array.toList [0]) (mkConst (if dt.isAppOf ``PySem.Data.dict then ``DictEntry else ``Value)) dt.getAppArgs[0]!
   for _ in [0:200] do
    e ← kw e
    if e.isAppOfArity ``List.cons 3 then e := e.getAppArgs[2]! else break
   unless e.isAppOf ``List.nil do return true
 return false
def readGoal (g : MVarId) : MetaM (Env × Nat × Cur) := g.withContext do
 let T ← instantiateMVars (← g.getType)
 let T := T.consumeMData
 unless T.isAppOfArity ``RM 11 do throwError "not a goal of a run"
 let a := T.getAppArgs
 let (news, tail) ← readNews 400 a[7]!
 let n := (a[2]!.rawNatLit?).getD ((a[2]!.nat?).getD 0)
 let V := a[0]!
 let mut K? := none
 for d in ← getLCtx do
  if d.isImplementationDetail then continue
  if d.type.isAppOf ``KT.Holds then K? := some d.toExpr
 let some K := K? | throwError "no tree of the top in sight"
 let gl ← tidyList 50 a[10]! pure
 return ({ V, g₀ := a[1]!, K, h₀ := V }, n, { c := a[3]!, md := ← tidyHead a[4]!, κ := a[5]!, t := a[6]!, news, tail, m := a[8]!, i := a[9]!, gl })
def short (n : Nat) (e : Lean.Expr) : MetaM String := do
 let s := toString (← ppExpr e)
 let s := " ".intercalate ((s.splitOn "\n").map fun l => l.trimAscii.toString)
 return (s.take n).toString
end Mine
namespace Mine
open PySem PySem.Spec PySem.Calls PyProof.Rows PySem.W PySem.W.X
abbrev News := List (Addr × Obj)
abbrev Post := Result → News → Nat → Nat → List GenState → Prop
abbrev dictO (es : List DictEntry) (n : Nat) : Obj := ⟨.type "dict", none, .dict ⟨es⟩ n, #[]⟩
structure DE (prog : Program) (w : World) (kvs : List (Int × Value)) (es : List DictEntry) : Prop where
 keys : KeysOf (intKind prog w) ⟨es⟩
 pairs : Pairs (intKind prog w) es kvs
 nd : (kvs.map (·.1)).Nodup
abbrev oneQ (v : Value) (news : News) (m i : Nat) (gl : List GenState) : Post := fun r news' m' i' gl' => r = .ok (.ret v) ∧ news' = news ∧ m' = m ∧ i' = i ∧ gl' = gl
def Ctr (prog : Program) (w : World) (h₀ : Heap) (d : Drawn) (os : OsState) (g₀ : List GenState) (A : Around) (c : Code) (news : News) (m i : Nat) (gl : List GenState) (Q : Post) : Prop :=
 ∀ h (R : Result → Shared → Prop), Mm h₀ h news → h.objs.size = m →
   (k_addr% "bg") →
   codeAny (model prog w) A c R ⟨h, ⟨gcat g₀ gl⟩, d, i, os⟩
theorem Ctr.mono {prog : Program} {w : World} {h₀ : Heap} {d : Drawn} {os : OsState} {g₀ : List GenState} {A : Around} {c : Code} {news : News} {m i : Nat} {gl : List GenState} {Q Q' : Post}
  (x : Ctr prog w h₀ d os g₀ A c news m i gl Q) (hQ : ∀ r news' m' i' gl', Q r news' m' i' gl' → Q' r news' m' i' gl') : Ctr prog w h₀ d os g₀ A c news m i gl Q' :=
 fun h R M hs H => x h R M hs fun r news' m' i' gl' h' q => H r news' m' i' gl' h' (hQ _ _ _ _ _ q)
section
variable {V : XV} {g₀ : List GenState}
def AOk (A₀ A : Around) : Bool := (match A₀.handled, A.handled with | .none, .none => true | _, _ => false) && Nat.ble A.depth A₀.depth && A₀.frames.isNone && A₀.guards.isNone && Nat.ble A.units A₀.units
theorem AOk.le {A₀ A : Around} (h : AOk A₀ A = true) : A₀.handled = A.handled ∧ A.depth ≤ A₀.depth ∧ A₀.frames = none ∧ A₀.guards = none ∧ A.units ≤ A₀.units := by
 unfold AOk at h
 simp only [Bool.and_eq_true, Option.isNone_iff_eq_none] at h
 obtain ⟨⟨⟨⟨h1, h2⟩, h3⟩, h4⟩, h5⟩ := h
 refine ⟨?_, Nat.le_of_ble_eq_true h2, h3, h4, Nat.le_of_ble_eq_true h5⟩
 split at h1
 ·rename_i e1 e2; rw [e1, e2]
 ·cases h1
theorem Mm.choose {h₀ h : Heap} {news : News} (M : Mm h₀ h news) (is : List Nat) (k : Nat) (hn : (decide is.Nodup && is.all fun i => Nat.blt i k) = true) : Mm h₀ h (k_addr% "bp") := by
 rw [Bool.and_eq_true] at hn
 have nd : is.Nodup := of_decide_eq_true hn.1
 have lt : ∀ i ∈ is, i < k := fun i hi => by
  have := List.all_eq_true.mp hn.2 i hi
  exact Nat.le_of_ble_eq_true this
 have P := M.pick is nd
 refine M.sub (fun p hp => ?_) ?_
 ·walk_at "eP"
  ·obtain ⟨j, _, e⟩ := pickL_mem news is p hp
   exact List.mem_of_getElem? e
  ·exact List.mem_of_mem_drop hp
 ·rw [List.map_append, List.nodup_append]
  refine ⟨P.nd, ?_, ?_⟩
  ·have := M.nd
   rw [← List.take_append_drop k news, List.map_append] at this
   exact (List.nodup_append.mp this).2.1
  ·intro a ha b hb e
   subst e
   obtain ⟨p, hp, rfl⟩ := List.mem_map.mp ha
   obtain ⟨q, hq, e⟩ := List.mem_map.mp hb
   obtain ⟨j, hj, ej⟩ := pickL_mem news is p hp
   obtain ⟨i', hi', eq⟩ := List.getElem_of_mem hq
   have hq2 : news[k + i']? = some q := by rw [← List.getElem?_drop, List.getElem?_eq_getElem hi', eq]
   refine M.ne (k + i') j q.1 p.1 q.2 p.2 hq2 ej ?_ e
   cases z : Nat.beq (k + i') j with
   | false => rfl
   | true =>
     have := Nat.eq_of_beq_eq_true z
     have := lt j hj
     omega
theorem re_choose (is : List Nat) (k : Nat) (hn : (decide is.Nodup && is.all fun i => Nat.blt i k) = true) {n n' : Nat} {r : Result} {news : News} {m i : Nat} {gl : List GenState}
  (x : RE V g₀ n' r (k_addr% "bp") m i gl) : RE V g₀ n r news m i gl := fun h D => x h ⟨D.mm.choose is k hn, D.size⟩
theorem rm_choose (is : List Nat) (k : Nat) (hn : (decide is.Nodup && is.all fun i => Nat.blt i k) = true) {n n' : Nat} {c : Code} {md : Option (List Frame)} {κ : Kont} {t : Sem PySem.Fin} {news : News} {m i : Nat} {gl : List GenState}
  (x : RM V g₀ n' c md κ t (k_addr% "bp") m i gl) : RM V g₀ n c md κ t news m i gl := fun h D => x h ⟨D.mm.choose is k hn, D.size⟩
theorem rm_sub {n n' : Nat} {c : Code} {md : Option (List Frame)} {κ : Kont} {t : Sem PySem.Fin} {news news' : News} {m i : Nat} {gl : List GenState} (hs : ∀ h, Mm V.h₀ h news → Mm V.h₀ h news')
  (x : RM V g₀ n' c md κ t news' m i gl) : RM V g₀ n c md κ t news m i gl := fun h D => x h ⟨hs h D.mm, D.size⟩
end
end Mine
namespace Mine
open Lean Meta Elab Tactic PySem PySem.W PySem.W.X
def tidyAtom (x : Lean.Expr) : MetaM Lean.Expr := do
 if x.isFVar || x.isRawNatLit || x.isAppOfArity ``HAdd.hAdd 6 then return x
 let r ← kw x
 if r.isFVar || r.isRawNatLit || r.isAppOfArity ``Int.ofNat 1 || r.isAppOfArity ``Int.negSucc 1 || r.isApp && r.getAppFn.isFVar then return r
 match r with
 | .proj .. => return r
 | _ => return x
def tidyWhole (a : Lean.Expr) : MetaM Lean.Expr := do
 let a ← tidyHead a
 match a.getAppFn.constName? with
 | some ``PySem.Value.ref => return mkApp a.appFn! (← tidyAtom a.appArg!)
 | some ``PySem.Value.int => return mkApp2 a.getAppFn (← tidyAtom a.appFn!.appArg!) (← tidyAtom a.appArg!)
 | some ``PySem.Value.str => return mkApp2 a.getAppFn a.appFn!.appArg! (← tidyAtom a.appArg!)
 | _ => return a
def unifyVal (p a : Lean.Expr) : MetaM Bool := do
 let p ← instantiateMVars p
 if p.isAppOfArity ``PySem.Value.builtin 1 || p.isAppOfArity ``PySem.Value.type 1 then
  let a ← tidyHead a
  unless a.getAppFn == p.getAppFn do return false
  return (← textOf p.appArg!) == (← textOf a.appArg!)
 let a ← tidyWhole a
 isDefEq p a
def unifyVals : Nat → Lean.Expr → Lean.Expr → MetaM Bool
 | 0, _, _ => return false
 | n + 1, p, a => do
   let p ← whnfR p
   if p.isMVar then return ← isDefEq p a
   let a ← if a.isAppOfArity ``List.cons 3 then pure a else kw a
   if p.isAppOfArity ``List.cons 3 && a.isAppOfArity ``List.cons 3 then
    unless ← unifyVal p.getAppArgs[1]! a.getAppArgs[1]! do return false
    unifyVals n p.getAppArgs[2]! a.getAppArgs[2]!
   else return p.isAppOf ``List.nil && a.isAppOf ``List.nil
def unifyKw : Nat → Lean.Expr → Lean.Expr → MetaM Bool
 | 0, _, _ => return false
 | n + 1, p, a => do
   let p ← whnfR p
   if p.isMVar then return ← isDefEq p a
   let a ← if a.isAppOfArity ``List.cons 3 then pure a else kw a
   if p.isAppOfArity ``List.cons 3 && a.isAppOfArity ``List.cons 3 then
    let x ← whnfR p.getAppArgs[1]!
    let y ← tidyHead a.getAppArgs[1]!
    unless ← unifyVal x.appArg! y.appArg! do return false
    unifyKw n p.getAppArgs[2]! a.getAppArgs[2]!
   else return p.isAppOf ``List.nil && a.isAppOf ``List.nil
def unifyCode (p c : Lean.Expr) : MetaM Bool := do
 let p ← whnfR p
 let p ← if ← ctor? p then pure p else whnf p
 let c ← tidyHead c
 unless p.getAppFn == c.getAppFn do return false
 if p.isAppOfArity ``PySem.Code.call 2 then unless ← unifyVal p.appFn!.appArg! c.appFn!.appArg! do return false
 else if p.isAppOfArity ``PySem.Code.builtin 2 then unless (← textOf p.appFn!.appArg!) == (← textOf c.appFn!.appArg!) do return false
 else return ← isDefEq p c
 let pa ← whnfR p.appArg!
 let ca ← tidyHead c.appArg!
 if pa.isMVar then return ← isDefEq pa ca
 return (← unifyVals 100 pa.getAppArgs[0]! ca.getAppArgs[0]!) && (← unifyKw 100 pa.getAppArgs[1]! ca.getAppArgs[1]!)
def unifyDeep : Nat → Lean.Expr → Lean.Expr → MetaM Bool
 | 0, _, _ => return false
 | n + 1, p, a => do
   let p ← instantiateMVars p
   if !p.hasExprMVar then return ← eqAt p a
   if p.isMVar then return ← isDefEq p a
   let p ← whnfR p
   if p.isMVar then return ← isDefEq p a
   let p ← if ← ctor? p then pure p else (do
    let p' ← whnf p
    if (← ctor? p') || p'.isMVar then return p' else return p)
   if p.isMVar then return ← isDefEq p a
   unless ← ctor? p do
    if ← commitWhen (withReducible (isDefEq p a)) then return true
   let a ← tidyVal a
   if p.getAppFn.isConst && p.getAppFn == a.getAppFn && p.getAppNumArgs == a.getAppNumArgs && (← ctor? p) then
    for (x, y) in p.getAppArgs.zip a.getAppArgs do
     unless ← unifyDeep n x y do return false
    return true
   isDefEq p a
def matchCells : Nat → Cur → Lean.Expr → List Nat → MetaM (Option (List Nat))
 | 0, _, _, _ => return none
 | n + 1, y, p, acc => do
   let p ← whnfR (← instantiateMVars p)
   if p.isAppOfArity ``List.cons 3 then
    let c ← whnfR p.getAppArgs[1]!
    let a ← instantiateMVars c.getAppArgs[2]!
    let o ← instantiateMVars c.getAppArgs[3]!
    let mut k := 0
    let mut found := none
    if a.hasExprMVar then
     for (b, ob) in y.news do
      if found.isNone && !acc.contains k then
       if ← withReducible (isDefEq o ob) then if ← isDefEq a b then found := some k
      k := k + 1
    else
     for (b, ob) in y.news do
      if found.isNone && !acc.contains k then
       if a == b || (← eqAt a b) then
        if ← unifyDeep 40 o (← tidyObj ob) then found := some k
        else throwError "the object of {a} is another: {o} and {← tidyObj ob}"
      k := k + 1
    let some kf := found | throwError "no cell of {a}"
    matchCells n y p.getAppArgs[2]! (acc ++ [kf])
   else if p.isAppOf ``List.nil then return some acc
   else
    if p == y.tail then return some acc
    let rest := (List.range y.news.length).filter fun k => !acc.contains k
    let e := listOfE tPair (rest.map fun k => pairOf y.news[k]!.1 y.news[k]!.2) y.tail
    unless ← isDefEq p e do throwError "the rest"
    return some (acc ++ rest)
def preCells : Nat → Cur → Lean.Expr → MetaM Unit
 | 0, _, _ => return ()
 | n + 1, y, p => do
   let p ← whnfR (← instantiateMVars p)
   if p.isAppOfArity ``List.cons 3 then
    let c ← whnfR p.getAppArgs[1]!
    let a ← instantiateMVars c.getAppArgs[2]!
    let o ← instantiateMVars c.getAppArgs[3]!
    if !a.hasExprMVar && o.hasExprMVar then
     for (b, ob) in y.news do
      if a == b || (← eqAt a b) then
       let _ ← unifyDeep 40 o (← tidyObj ob)
       break
    preCells n y p.getAppArgs[2]!
def postParts : Nat → Lean.Expr → MetaM (Lean.Expr × List (Lean.Expr × Lean.Expr))
 | 0, _ => throwError "postParts"
 | n + 1, P => do
   let P ← whnfR P
   if P.isAppOfArity ``Exists 2 then
    let α := P.getAppArgs[0]!
    let p := P.getAppArgs[1]!
    let x ← mkFreshExprMVar α
    let (pf, l) ← postParts n (mkApp p x).headBeta
    return (mkAppN (mkConst ``Exists.intro P.getAppFn.constLevels!) #[α, p, x, pf], l)
   else if P.isAppOfArity ``And 2 then
    let (a, la) ← postParts n P.getAppArgs[0]!
    let (b, lb) ← postParts n P.getAppArgs[1]!
    return (mkApp4 (mkConst ``And.intro) P.getAppArgs[0]! P.getAppArgs[1]! a b, la ++ lb)
   else
    let g ← mkFreshExprSyntheticOpaqueMVar P
    return (g, [(g, P)])
def fin (nm : Name := `hR) : TacticM Unit := do
 let g ← getMainGoal
 let (_, g) ← g.intros
 g.withContext do
 let some d := (← getLCtx).findFromUserName? nm | throwError "no {nm}"
 let T ← instantiateMVars (← g.getType)
 unless T.isAppOfArity ``RE 8 do throwError "no end"
 let a := T.getAppArgs
 let (b, y) := ((), a)
 let _ := b
 let (news, tail) ← readNews 400 a[4]!
 let cur : Cur := { c := T, md := T, κ := T, t := T, news, tail, m := a[5]!, i := a[6]!, gl := a[7]! }
 let _ := y
 let N ← mkFreshExprMVar (k_addr% "eR")
 let dT ← instantiateMVars d.type
 let .forallE _ _ b1 _ := dT | throwError "hR"
 let _ := b1
 let args := #[a[2]!, a[3]!, N, a[5]!, a[6]!, a[7]!]
 let body ← instantiateForall dT args
 let .forallE _ Qb _ _ := body | throwError "hR: {body}"
 let (pf, parts) ← postParts 200 Qb.headBeta
 let mut left : Array MVarId := #[]
 let mut is? : Option (List Nat) := none
 for _ in [0:3] do
  for (_, P) in parts do
   if P.isAppOfArity ``Eq 3 && (← instantiateMVars P.appFn!.appArg!) == N then preCells 400 cur P.appArg!
  for (p, P) in parts do
   if ← p.mvarId!.isAssigned then continue
   let P ← instantiateMVars P
   let P1 := P
   let isNews := P1.isAppOfArity ``Eq 3 && P1.appFn!.appArg! == N
   if isNews then continue
   if P1.isAppOfArity ``Eq 3 && (P1.appFn!.appFn!.appArg!.isAppOf ``Except || P1.appFn!.appFn!.appArg!.isConstOf ``PySem.Result) then continue
   if P1.isAppOf `Mine.DE && (← instantiateMVars P1.getAppArgs[3]!).getAppFn.isMVar then continue
   let _ ← (try tryHyps p.mvarId! catch _ => pure false)
 for (p, P) in parts do
  if P.isAppOfArity ``Eq 3 then
   let l ← instantiateMVars P.appFn!.appArg!
   if l == N then
    let some is ← matchCells 400 cur P.appArg! [] | throwError "cells"
    is? := some is
    let rhs ← instantiateMVars P.appArg!
    p.mvarId!.assign (mkApp2 (mkConst ``Eq.refl [1]) (k_addr% "eR") rhs)
 let some is := is? | throwError "no cells in the post"
 let isE := listOfE (mkConst ``Nat) (is.map mkRawNatLit) (nilOf (mkConst ``Nat))
 let k := news.length
 let nE := cur.newsE
 let picked := mkApp6 (mkConst ``HAppend.hAppend [0, 0, 0]) (k_addr% "eR") (k_addr% "eR") (k_addr% "eR") (mkApp2 (mkConst ``instHAppendOfAppend [0]) (k_addr% "eR") (mkApp (mkConst ``List.instAppend [0]) tPair)) (mkApp2 (mkConst ``pickL) nE isE) (mkApp3 (mkConst ``List.drop [0]) tPair (mkRawNatLit k) nE)
 N.mvarId!.assign picked
 for (p, P) in parts do
  if ← p.mvarId!.isAssigned then continue
  let P ← instantiateMVars P
  if P.isAppOfArity ``Eq 3 then
   let (l, r) := (P.appFn!.appArg!, P.appArg!)
   if (P.appFn!.appFn!.appArg!.isAppOf ``Except) || (P.appFn!.appFn!.appArg!.isConstOf ``PySem.Result) || (P.appFn!.appFn!.appArg!.isAppOf ``List) then
    if ← unifyDeep 40 r l then
     p.mvarId!.assign (mkApp2 (mkConst ``Eq.refl P.getAppFn.constLevels!) P.appFn!.appFn!.appArg! (← instantiateMVars r))
     continue
  left := left.push p.mvarId!
 let R := mkAppN d.toExpr (args.push pf)
 g.assign (← instantiateMVars (mkAppN (mkConst ``re_choose) #[a[0]!, a[1]!, isE, mkRawNatLit k, rflAt (mkConst ``Bool) (mkConst ``Bool.true), a[2]!, a[2]!, a[3]!, nE, a[5]!, a[6]!, a[7]!, R]))
 replaceMainGoal left.toList
end Mine
namespace Mine
open PySem PySem.Spec PySem.Calls PyProof.Rows PySem.W PySem.W.X
section
variable {prog : Program} {w : World}
theorem DE.dictOf {kvs : List (Int × Value)} {es : List DictEntry} (D : DE prog w kvs es) {n : Nat} {h : Heap} {a : Addr} (e : h.get? a = some (dictO es n)) : h.DictOf (intKind prog w) a kvs :=
 ⟨_, _, n, e, ⟨rfl, rfl, rfl⟩, rfl, D.keys, D.pairs, D.nd⟩
theorem DE.of {kvs : List (Int × Value)} {h : Heap} {a : Addr} (D : h.DictOf (intKind prog w) a kvs) : ∃ es n, h.get? a = some (dictO es n) ∧ DE prog w kvs es := by
 obtain ⟨o, es, ep, e, h1, h2, h3, h4, h5⟩ := D
 obtain ⟨c, dd, dt, sl⟩ := o
 obtain ⟨rfl, rfl, rfl⟩ := h1
 cases h2
 exact ⟨es.toList, ep, e, h3, h4, h5⟩
theorem DE.nil : DE prog w [] [] := ⟨fun _ he => by simp at he, Pairs.nil, List.nodup_nil⟩
variable {h₀ h h' : Heap} {R : News} {a : Addr} {o o' : Obj}
theorem Mm.head (M : Mm h₀ h ((a, o) :: R)) : h.get? a = some o := M.at 0 a o rfl
theorem Mm.change (M : Mm h₀ h ((a, o) :: R)) (hs : Heap.SameBut a h h') (e : h'.get? a = some o') : Mm h₀ h' ((a, o') :: R) := by
 have z := M.nw (a, o) (.head _)
 refine ⟨fun b ob q => (hs.2 b (fun x => by subst x; rw [q] at z; cases z.2)).trans (M.low b ob q), fun p hp => ?_, M.nd⟩
 walk_at "dz"
 ·exact ⟨e, z.2⟩
 ·have nd := M.nd
  walk_at "du"
  have q := M.nw p (.tail _ hp)
  exact ⟨(hs.2 p.1 fun x => nd.1 (by have := List.mem_map_of_mem (f := Prod.fst) hp; rw [x] at this; exact this)).trans q.1, q.2⟩
theorem Mm.no_sys {kt : KT} (K : KT.Holds h₀ 1 0 kt) {so : Obj} (hk : kt.get sysModules = some so) (M : Mm h₀ h ((a, o) :: R)) : (a == sysModules) = false := by
 have z := KT.Holds.get K hk
 rw [Nat.one_mul, Nat.add_zero] at z
 have := M.ne_old 0 a o rfl sysModules so z
 cases q : (a == sysModules) with
 | false => rfl
 | true => exact absurd (eq_of_beq q) this
theorem Ctr.meets {d : Drawn} {os : OsState} {g₀ : List GenState} {A : Around} {news : News} {m i : Nat} {gl : List GenState} {Q : Post}
  {T : String} {name : Str} {id : String} {B : Builtin} {self : Value} {rest : List Value} {S : PySem.Spec} (slot : Slot T name id) (entry : entryFor table id = some B) (args : argsOk id ⟨self :: rest, []⟩)
  (g : MeetsIn prog w (B ⟨self :: rest, []⟩) S) (hT : ∀ h, Mm h₀ h news → Shared.TypeIs ⟨h, ⟨gcat g₀ gl⟩, d, i, os⟩ self T)
  (x : ∀ h (R : Result → Shared → Prop), Mm h₀ h news → h.objs.size = m →
   (k_addr% "bg") → S A R ⟨h, ⟨gcat g₀ gl⟩, d, i, os⟩) :
  Ctr prog w h₀ d os g₀ A (.call (.builtin id) ⟨self :: rest, []⟩) news m i gl Q := by
 intro h R M hs H
 exact codeAny_call_builtin slot.plain entry (slot.check _ _ _ _ _ _ _ _ (hT h M) args (g A R _ (x h R M hs H)))
section
variable {kt : KT} (K : KT.Holds h₀ 1 0 kt) {so : Obj} (hk : kt.get sysModules = some so)
variable {d : Drawn} {os : OsState} {g₀ : List GenState} {A : Around} {m i : Nat} {gl : List GenState} {k : Int} {t : Tok} {kvs : List (Int × Value)} {es : List DictEntry} {n : Nat}
theorem isInt_self (k : Int) (t : Tok) : (intKind prog w).is k (.int k t) = true := by simp [intKind, Value.isInt]
theorem Ctr.some_heap {news : News} {c : Code} {Q : Post} (x : ∀ h₁, Mm h₀ h₁ news → Ctr prog w h₀ d os g₀ A c news m i gl Q) : Ctr prog w h₀ d os g₀ A c news m i gl Q :=
 fun h RR M => x h M h RR M
include K hk in
theorem k_get (dflt : Value) (D : DE prog w kvs es) : Ctr prog w h₀ d os g₀ A (k_addr% "bJ") ((a, dictO es n) :: R) m i gl
  (oneQ ((valueAt kvs k).getD dflt) ((a, dictO es n) :: R) m (i + 1) gl) :=
 Ctr.some_heap fun h₁ M₁ => Ctr.meets F.slot_dict_get F.entry_dict_get (F.args_dict_get_3 _ _ _) (meets_dict_get_default (intKind prog w) a (isInt_self k t) (M₁.no_sys K hk) dflt)
   (k_addr% "av") fun h RR M hs H => ⟨_, (D.dictOf M.head).mapOf, H _ _ _ _ _ _ ⟨rfl, rfl, rfl, rfl, rfl⟩ M hs⟩
include K hk in
theorem k_get1 (D : DE prog w kvs es) : Ctr prog w h₀ d os g₀ A (.call (.builtin "dict.get") ⟨[.ref a, .int k t], []⟩) ((a, dictO es n) :: R) m i gl
  (oneQ ((valueAt kvs k).getD .none) ((a, dictO es n) :: R) m (i + 1) gl) :=
 Ctr.some_heap fun h₁ M₁ => Ctr.meets F.slot_dict_get F.entry_dict_get (F.args_dict_get_2 _ _) (meets_dict_get (intKind prog w) a (isInt_self k t) (M₁.no_sys K hk))
   (k_addr% "av") fun h RR M hs H => ⟨_, (D.dictOf M.head).mapOf, H _ _ _ _ _ _ ⟨rfl, rfl, rfl, rfl, rfl⟩ M hs⟩
include K hk in
theorem k_contains (D : DE prog w kvs es) : Ctr prog w h₀ d os g₀ A (k_addr% "bD") ((a, dictO es n) :: R) m i gl
  (oneQ (.bool (valueAt kvs k).isSome) ((a, dictO es n) :: R) m (i + 1) gl) :=
 Ctr.some_heap fun h₁ M₁ => Ctr.meets F.slot_dict_contains F.entry_dict_contains (F.args_dict_contains_2 _ _) (meets_dict_contains (intKind prog w) a (isInt_self k t) (M₁.no_sys K hk))
   (k_addr% "av") fun h RR M hs H => ⟨_, (D.dictOf M.head).mapOf, H _ _ _ _ _ _ ⟨rfl, rfl, rfl, rfl, rfl⟩ M hs⟩
theorem k_getitem {v : Value} (D : DE prog w kvs es) (hv : valueAt kvs k = some v) : Ctr prog w h₀ d os g₀ A (k_addr% "bF") ((a, dictO es n) :: R) m i gl
  (oneQ v ((a, dictO es n) :: R) m (i + 1) gl) :=
 Ctr.meets F.slot_dict_getitem F.entry_dict_getitem (F.args_dict_getitem_2 _ _) (meets_dict_getitem (intKind prog w) a (isInt_self k t))
   (k_addr% "av") fun h RR M hs H => ⟨_, v, (D.dictOf M.head).mapOf, hv, H _ _ _ _ _ _ ⟨rfl, rfl, rfl, rfl, rfl⟩ M hs⟩
include K hk in
theorem k_len (D : DE prog w kvs es) : Ctr prog w h₀ d os g₀ A (.call (.builtin "dict.__len__") ⟨[.ref a], []⟩) ((a, dictO es n) :: R) m i gl
  (oneQ (.int kvs.length i) ((a, dictO es n) :: R) m (i + 1) gl) :=
 Ctr.some_heap fun h₁ M₁ => Ctr.meets F.slot_dict_len F.entry_dict_len (F.args_dict_len_1 _) (meets_dict_len (intKind prog w) a (M₁.no_sys K hk))
   (k_addr% "av") fun h RR M hs H => ⟨_, D.dictOf M.head, H _ _ _ _ _ _ ⟨rfl, rfl, rfl, rfl, rfl⟩ M hs⟩
end
end
section
variable {kv kv' : List (Int × Value)} {k k' : Int} {v : Value}
theorem stored_self (e : kv' = stored kv k v) : valueAt kv' k = some v := by
 subst e
 unfold stored
 split
 ·rename_i h
  induction kv with
  | nil => simp at h
  | cons p kv ih =>
    by_cases q : p.1 = k
    ·simp [valueAt, q]
    ·simp only [List.any_cons, Bool.or_eq_true, decide_eq_true_eq, q, false_or] at h
     have := ih h
     simp only [List.map_cons, if_neg q, valueAt, List.find?_cons, decide_eq_false q] at this ⊢
     exact this
 ·rename_i h
  have : kv.find? (fun p => decide (p.1 = k)) = none := by
   rw [List.find?_eq_none]
   intro p hp q
   exact h (List.any_eq_true.mpr ⟨p, hp, q⟩)
  simp [valueAt, List.find?_append, this]
theorem valueAt_cons (p : Int × Value) (kv : List (Int × Value)) (k : Int) : valueAt (p :: kv) k = if p.1 = k then some p.2 else valueAt kv k := by
 unfold valueAt
 by_cases h : p.1 = k <;> simp [List.find?_cons, h]
theorem stored_ne (e : kv' = stored kv k v) (h : k' ≠ k) : valueAt kv' k' = valueAt kv k' := by
 subst e
 have h2 : k ≠ k' := fun z => h z.symm
 unfold stored
 split
 ·rename_i hh
  clear hh
  induction kv with
  | nil => rfl
  | cons p kv ih =>
    rw [List.map_cons, valueAt_cons, valueAt_cons, ih]
    by_cases q : p.1 = k
    ·have : p.1 ≠ k' := fun z => h (z ▸ q)
     rw [if_pos q, if_neg (show ¬ ((p.1, v) : Int × Value).1 = k' from this), if_neg this]
    ·rw [if_neg q]
 ·rename_i hh
  clear hh
  induction kv with
  | nil => rw [List.nil_append, valueAt_cons, if_neg h2]
  | cons p kv ih => rw [List.cons_append, valueAt_cons, valueAt_cons, ih]
theorem stored_new (hn : valueAt kv k = none) : stored kv k v = kv ++ [(k, v)] := stored_absent hn v
theorem stored_len (e : kv' = stored kv k v) : kv'.length ≤ kv.length + 1 := by
 subst e; unfold stored; split <;> simp
end
def placeE (es : List DictEntry) (k : Int) : Option Nat := es.findIdx? fun e => Value.isInt k e.key
def storeE (es : List DictEntry) (k : Int) (t : Tok) (v : Value) : List DictEntry := match placeE es k with
 | some i => es.modify i fun e => { e with val := v }
 | none => es ++ [⟨hashInt k, .int k t, v⟩]
def storeN (es : List DictEntry) (k : Int) (n : Nat) : Nat := match placeE es k with
 | some _ => n
 | none => n + 1
def dropE (es : List DictEntry) (k : Int) : List DictEntry := match placeE es k with
 | some i => es.eraseIdx i
 | none => es
section
variable {prog : Program} {w : World} {A : Around} {E : Value → Shared → Prop} {s : Shared} {a : Addr} {es : List DictEntry} {n : Nat} {k : Int} {t : Tok} {v : Value}
theorem placeE_eq : (⟨es⟩ : Array DictEntry).findIdx? (fun e => (intKind prog w).is k e.key) = placeE es k := by
 simp [placeE, intKind]
theorem set_exact {Q : Unit → Shared → Prop} (ho : s.heap.get? a = some (dictO es n)) (hk : KeysOf (intKind prog w) ⟨es⟩) (hz : es.length ≤ sizeLine)
  (hQ : ∀ h', h'.get? a = some (k_addr% "en") → Heap.SameBut a s.heap h' → Q () { s with heap := h', toks := s.toks + 1 }) :
  wpAny (model prog w) A (dictSet a (.int k t) v) Q E s := by
 walk_at "dc"
 unfold dictSet
 walk_at "ex"
 walk_at "eM"
 unfold dictSetHashed
 walk_at "ex"
 walk_at "bx"
 rw [placeE_eq]
 cases hi : placeE es k with
 | some i =>
   refine wpAny_bind (wpAny_rule (wpAny_bind (wpAny_updateDict (s := { s with toks := s.toks + 1 }) ho rfl (wpAny_point (hQ _ ?_ (Heap.SameBut.update ..))))))
   rw [Heap.get?_update_self _ ho rfl]
   simp [Obj.mapDict, storeE, storeN, hi]
 | none =>
   refine wpAny_bind (wpAny_rule (wpAny_updateDictKeys (hz := by simpa using hz) (s := { s with toks := s.toks + 1 }) ho rfl (hQ _ ?_ (Heap.SameBut.update ..))))
   rw [Heap.get?_update_self _ ho rfl]
   simp [Obj.mapDictKeys, storeE, storeN, hi, intKind]
theorem erase_le (es : List DictEntry) (i : Nat) : ((⟨es⟩ : Array DictEntry).eraseIdxIfInBounds i).size ≤ (⟨es⟩ : Array DictEntry).size + 1 := by
 unfold Array.eraseIdxIfInBounds
 split
 ·rename_i h; rw [Array.size_eraseIdx]; omega
 ·omega
theorem take_exact {Q : Option DictEntry → Shared → Prop} {e : DictEntry} {i : Nat} (ho : s.heap.get? a = some (dictO es n)) (hk : KeysOf (intKind prog w) ⟨es⟩) (hz : es.length ≤ sizeLine) (hi : placeE es k = some i) (he : es[i]? = some e)
  (hQ : ∀ h', h'.get? a = some (dictO (dropE es k) (n + 1)) → Heap.SameBut a s.heap h' → Q (some e) { s with heap := h', toks := s.toks + 1 }) :
  wpAny (model prog w) A (Builtin.Dict.takeOut a (.int k t)) Q E s := by
 walk_at "dc"
 unfold Builtin.Dict.takeOut
 walk_at "ex"
 walk_at "eM"
 walk_at "bx"
 rw [placeE_eq, hi]
 refine wpAny_bind (wpAny_dictEntries (s := { s with toks := s.toks + 1 }) ho rfl ?_)
 have he' : (⟨es⟩ : Array DictEntry)[i]? = some e := by simpa using he
 simp only [he']
 refine wpAny_bind (wpAny_updateDictKeys (hz := by simpa using hz) (hf := erase_le es i) (s := { s with toks := s.toks + 1 }) ho rfl (wpAny_pure (hQ _ ?_ (Heap.SameBut.update ..))))
 rw [Heap.get?_update_self _ ho rfl]
 have hlt : i < es.length := (List.getElem?_eq_some_iff.mp he).1
 simp [Obj.mapDictKeys, dropE, hi, Array.eraseIdxIfInBounds, hlt]
variable {kvs : List (Int × Value)}
theorem place_kvs (D : DE prog w kvs es) : placeE es k = kvs.findIdx? fun kv => decide (kv.1 = k) := by
 have := D.pairs.findIdx k
 simpa [placeE, intKind] using this
theorem place_some (D : DE prog w kvs es) (hv : valueAt kvs k = some v) : ∃ i e, placeE es k = some i ∧ es[i]? = some e ∧ e.val = v := by
 have h1 := D.pairs.find k
 rw [hv] at h1
 cases q : es.find? (fun e => (intKind prog w).is k e.key) with
 | none => rw [q] at h1; cases h1
 | some e =>
   rw [q] at h1
   simp only [Option.map_some, Option.some.injEq] at h1
   have h2 := List.findIdx?_eq_some_of_exists (xs := es) (p := fun e => Value.isInt k e.key) ⟨e, List.mem_of_find?_eq_some q, by simpa [intKind] using List.find?_some q⟩
   refine ⟨_, e, h2, ?_, h1⟩
   rw [List.find?_eq_some_iff_getElem] at q
   obtain ⟨_, i, hi, e1, hlt⟩ := q
   have : es.findIdx (fun e => Value.isInt k e.key) = i := by
    rw [List.findIdx_eq hi]
    refine ⟨by rw [e1]; assumption, fun j hj => by simpa [intKind] using hlt j hj⟩
   rw [this, List.getElem?_eq_getElem hi, e1]
theorem place_none (D : DE prog w kvs es) (hv : valueAt kvs k = none) : placeE es k = none := by
 have h1 := D.pairs.find k
 rw [hv, Option.map_eq_none_iff, List.find?_eq_none] at h1
 unfold placeE
 rw [List.findIdx?_eq_none_iff]
 intro e he
 simpa [intKind] using h1 e he
theorem DE.store (D : DE prog w kvs es) (k : Int) (t : Tok) (v : Value) : DE prog w (stored kvs k v) (storeE es k t v) := by
 walk_at "dc"
 have hidx := place_kvs (k := k) D
 unfold storeE
 cases hi : placeE es k with
 | some i =>
   rw [hi] at hidx
   have hs : stored kvs k v = kvs.map fun kv => if kv.1 = k then (kv.1, v) else kv := by rw [stored, if_pos (any_of_findIdx_some hidx.symm)]
   refine ⟨?_, ?_, ?_⟩
   ·have := KeysOf.modify D.keys i v
    simpa using this
   ·rw [hs]; exact D.pairs.modify D.nd (by simpa [placeE, intKind] using hi) v
   ·rw [hs, keys_map_store]; exact D.nd
 | none =>
   rw [hi] at hidx
   have hnot : k ∉ kvs.map (·.1) := not_mem_of_findIdx_none hidx.symm
   have hs : stored kvs k v = kvs ++ [(k, v)] := by
    rw [stored, if_neg]
    rw [List.any_eq_true]; rintro ⟨kv, hkv, he⟩
    exact hnot (List.mem_map.mpr ⟨kv, hkv, of_decide_eq_true he⟩)
   refine ⟨?_, ?_, ?_⟩
   ·have := KeysOf.push D.keys hkey v
    simpa [intKind] using this
   ·rw [hs]; exact D.pairs.append hkey _ v
   ·rw [hs, List.map_append, List.nodup_append]
    refine ⟨D.nd, by simp, ?_⟩
    intro a ha b hb
    simp only [List.map_cons, List.map_nil, List.mem_singleton] at hb
    subst hb
    exact fun e => hnot (e ▸ ha)
theorem DE.drop (D : DE prog w kvs es) (k : Int) : DE prog w (without kvs k) (dropE es k) := by
 have hidx := place_kvs (k := k) D
 unfold dropE
 cases hi : placeE es k with
 | some i =>
   refine ⟨?_, D.pairs.erase D.nd (by simpa [placeE, intKind] using hi), nodup_without D.nd k⟩
   have hlt : i < es.length := by
    obtain ⟨h, _⟩ := List.findIdx?_eq_some_iff_getElem.mp hi
    exact h
   have := KeysOf.erase D.keys i
   simpa [Array.eraseIdxIfInBounds, hlt] using this
 | none =>
   rw [hi] at hidx
   have hnot : k ∉ kvs.map (·.1) := not_mem_of_findIdx_none hidx.symm
   show DE prog w (without kvs k) es
   rw [without_of_not_mem kvs k hnot]; exact D
variable {h₀ : Heap} {R : News} {d : Drawn} {os : OsState} {g₀ : List GenState} {m i : Nat} {gl : List GenState}
theorem x_setitem (D : DE prog w kvs es) (hz : kvs.length ≤ sizeLine) : Ctr prog w h₀ d os g₀ A (k_addr% "eo") ((a, dictO es n) :: R) m i gl
  (oneQ .none ((a, dictO (storeE es k t v) (storeN es k n)) :: R) m (i + 1) gl) := by
 walk_at "cD"
 refine Ctr.meets F.slot_dict_setitem F.entry_dict_setitem (F.args_dict_setitem_3 _ _ _) (S := fun _ R s => s.heap.get? a = some (dictO es n) ∧
   ∀ h', h'.get? a = some (k_addr% "en") → Heap.SameBut a s.heap h' → R (.ok (.ret .none)) { s with heap := h', toks := s.toks + 1 })
   (.of_wp fun A R s ⟨ho, h⟩ => ?_) (k_addr% "av") fun h RR M hs H => ⟨M.head, fun h' e hb => H _ _ _ _ _ _ ⟨rfl, rfl, rfl, rfl, rfl⟩ (M.change hb e) (hb.1.trans hs)⟩
 show wpAny _ _ (Builtin.Dict.notOrdered "__setitem__" ⟨[.ref a, .int k t, v], []⟩ >>= _) _ _ s
 walk_at "cb"
 show wpAny _ _ (dictSet a (.int k t) v >>= _) _ _ s
 exact wpAny_bind (set_exact ho D.keys hz' fun h' e hb => wpAny_pure ⟨.none, rfl, h h' e hb⟩)
theorem x_delitem (D : DE prog w kvs es) (hz : kvs.length ≤ sizeLine) (hv : valueAt kvs k = some v) : Ctr prog w h₀ d os g₀ A (.call (k_addr% "dD") ⟨[.ref a, .int k t], []⟩) ((a, dictO es n) :: R) m i gl
  (oneQ .none ((a, dictO (dropE es k) (n + 1)) :: R) m (i + 1) gl) := by
 walk_at "cD"
 obtain ⟨j, e0, hj, he0, _⟩ := place_some D hv
 refine Ctr.meets F.slot_dict_delitem F.entry_dict_delitem (F.args_dict_delitem_2 _ _) (S := fun _ R s => s.heap.get? a = some (dictO es n) ∧
   ∀ h', h'.get? a = some (dictO (dropE es k) (n + 1)) → Heap.SameBut a s.heap h' → R (.ok (.ret .none)) { s with heap := h', toks := s.toks + 1 })
   (.of_wp fun A R s ⟨ho, h⟩ => ?_) (k_addr% "av") fun h RR M hs H => ⟨M.head, fun h' e hb => H _ _ _ _ _ _ ⟨rfl, rfl, rfl, rfl, rfl⟩ (M.change hb e) (hb.1.trans hs)⟩
 unfold Builtin.«dict.__delitem__»
 refine wpAny_bind ?_
 unfold Builtin.Dict.dictSlotArgs
 walk_at "cb"
 show wpAny _ _ (pure (Value.ref a, Value.int k t)) _ _ s
 refine wpAny_pure ?_
 show wpAny _ _ (Builtin.Dict.takeOut a (.int k t) >>= _) _ _ s
 refine wpAny_bind (take_exact ho D.keys hz' hj he0 fun h' e hb => ?_)
 exact wpAny_bind (wpAny_letGo (wpAny_pure ⟨.none, rfl, h h' e hb⟩))
theorem x_pop (D : DE prog w kvs es) (hz : kvs.length ≤ sizeLine) (hv : valueAt kvs k = some v) : Ctr prog w h₀ d os g₀ A (.call (.builtin "dict.pop") ⟨[.ref a, .int k t], []⟩) ((a, dictO es n) :: R) m i gl
  (oneQ v ((a, dictO (dropE es k) (n + 1)) :: R) m (i + 1) gl) := by
 walk_at "cD"
 obtain ⟨j, e0, hj, he0, hev⟩ := place_some D hv
 refine Ctr.meets F.slot_dict_pop F.entry_dict_pop (F.args_dict_pop_2 _ _) (S := fun _ R s => s.heap.get? a = some (dictO es n) ∧
   ∀ h', h'.get? a = some (dictO (dropE es k) (n + 1)) → Heap.SameBut a s.heap h' → R (.ok (.ret v)) { s with heap := h', toks := s.toks + 1 })
   (.of_wp fun A R s ⟨ho, h⟩ => ?_) (k_addr% "av") fun h RR M hs H => ⟨M.head, fun h' e hb => H _ _ _ _ _ _ ⟨rfl, rfl, rfl, rfl, rfl⟩ (M.change hb e) (hb.1.trans hs)⟩
 unfold Builtin.«dict.pop»
 refine wpAny_bind ?_
 unfold Builtin.Dict.keyAndDefault
 walk_at "cb"
 show wpAny _ _ (pure (a, Value.int k t, none)) _ _ s
 refine wpAny_pure ?_
 have hpart : (keyPart (.int k t)).isSome = true := rfl
 simp only [hpart, if_true]
 refine wpAny_bind (wpAny_pure ?_)
 simp only [Bool.false_eq_true, if_false]
 refine wpAny_bind (take_exact ho D.keys hz' hj he0 fun h' e hb => ?_)
 simp only [Option.isNone_some, Bool.false_eq_true, if_false]
 exact wpAny_bind (wpAny_letGo (wpAny_pure ⟨e0.val, rfl, by rw [hev]; exact h h' e hb⟩))
end
noncomputable abbrev kt1 (w : World) : KT := Mine.hd.ktop_1760 w.params
abbrev prog1 : Program := PySem.Challenge.rw_aw0014_01.prog
def aroundL (n : Nat) : Around := ⟨none, n + 350, none, none, n + n⟩
abbrev ent (h : Int) (s : Str) (t : Tok) (a : Addr) : DictEntry := ⟨h, .str s t, .ref a⟩
def enterS : Sem Unit := do
 let limit ← currentRecursionLimit
 if limit = recursionLimit then pure () else unsupported "limit"
def callFunctionS (self : Addr) (fd : FuncData) (args : Args) : Sem PySem.Fin := do
 let compiled ← match fd.code with
  | .none => pure fd.qualname
  | c => do match ← field c 1 with
    | .str q _ => pure q
    | _ => pure fd.qualname
 let env ← newFunctionEnv fd.scope fd.globals fd.closure (← bindArgs fd args) (compiled ++ ".<locals>.") (some self) fd.code none fd.builtins
 enterS
 let code : Code := match fd.body with
  | .stmts b => .func b env
  | .expr e => .expr e env
 match fd.scope.isGenerator, fd.scope.isCoroutine with
 | false, false => again code
 | true, false => ret (← newGenerator code fd.name fd.qualname)
 | false, true => ret (← newCoroutine code fd.name fd.qualname)
 | true, true => ret (← newAsyncGenerator code fd.name fd.qualname)
def callS (f : Value) (args : Args) : Sem PySem.Fin := match f with
 | .ref a => do
   let o ← load a
   match o.data with
   | .func fd => callFunctionS a fd args
   | _ => callAny f args
 | f => callAny f args
section
variable {M : Model} {Γ : PySem.Ctx} {p : Pos} {s : Shared} {E : Value → Pos → Shared → Prop}
theorem enterS_le {A : Around} (hΓ : Γ.In A) (hd : A.depth < recursionLimit) {Q : Unit → Pos → Shared → Prop} (h : Sem.wp M Γ enterS Q E p s) : Sem.wp M Γ (enterFrame 0) Q E p s := by
 rw [show @enterFrame = enterQ from enterQ_eq]
 unfold enterQ
 have L := lies_of (p := p) hΓ
 show Sem.wp M Γ (Sem.bind currentRecursionLimit _) Q E p s
 walk_at "eK"
 unfold enterS at h
 rw [Sem.wp_bind'] at h
 refine Sem.wp_mono M Γ _ (fun limit p' s' h' => ?_) (fun _ _ _ h' => h') p s h
 by_cases e : limit = recursionLimit
 ·subst e
  rw [if_pos rfl] at h'
  have e1 : nearF ((Γ.code, p) :: Γ.below) 0 recursionLimit = false := L.near' hd 0
  have e2 : overF ((Γ.code, p) :: Γ.below) 0 recursionLimit = false := L.over hd 0
  have e3 : warmF ((Γ.code, p) :: Γ.below) 0 recursionLimit = false := L.warm hd 0
  simp only [e1, e2, e3, cond_false]
  exact h'
 ·rw [if_neg e] at h'
  exact h'.elim
theorem callFunctionS_le {A : Around} (hΓ : Γ.In A) (hd : A.depth < recursionLimit) {a : Addr} {fd : FuncData} {args : Args} {Q : PySem.Fin → Pos → Shared → Prop}
  (h : Sem.wp M Γ (callFunctionS a fd args) Q E p s) : Sem.wp M Γ (callFunction a fd args) Q E p s := by
 unfold callFunctionS at h
 unfold callFunction
 have gen : ∀ (J J' : Str → Sem PySem.Fin), (∀ c p s, Sem.wp M Γ (J c) Q E p s → Sem.wp M Γ (J' c) Q E p s) →
   Sem.wp M Γ (match fd.code with
    | .none => pure fd.qualname >>= J
    | c => field c 1 >>= fun r => match r with
      | .str q _ => pure q >>= J
      | _ => pure fd.qualname >>= J) Q E p s →
   Sem.wp M Γ (match fd.code with
    | .none => pure fd.qualname >>= J'
    | c => field c 1 >>= fun r => match r with
      | .str q _ => pure q >>= J'
      | _ => pure fd.qualname >>= J') Q E p s := by
  intro J J' hJ h
  split at h
  ·exact hJ _ _ _ h
  ·walk_at "eZ"
   refine Sem.wp_mono M Γ _ (fun r p s h => ?_) (fun _ _ _ h' => h') p s h
   split at h
   ·exact hJ _ _ _ h
   ·exact hJ _ _ _ h
 refine gen _ _ (fun compiled p s h => ?_) h
 walk_at "eZ"
 refine Sem.wp_mono M Γ _ (fun binds p s h => ?_) (fun _ _ _ h' => h') p s h
 walk_at "eZ"
 refine Sem.wp_mono M Γ _ (fun env p s h => ?_) (fun _ _ _ h' => h') p s h
 walk_at "eZ"
 exact enterS_le hΓ hd h
theorem callS_le {A : Around} (hΓ : Γ.In A) (hd : A.depth < recursionLimit) {f : Value} {args : Args} {Q : PySem.Fin → Pos → Shared → Prop}
  (h : Sem.wp M Γ (callS f args) Q E p s) : Sem.wp M Γ (callAny f args) Q E p s := by
 cases f with
 | ref a =>
   unfold callS at h
   simp only at h
   rw [Sem.wp_bind'] at h
   rw [show load a = Sem.load a none .pure from rfl, Sem.wp_load] at h
   obtain ⟨o, ho, h⟩ := h
   rw [Sem.wp_pure] at h
   split at h
   ·rename_i fd e
    unfold callAny
    simp only
    rw [Sem.wp_bind', show load a = Sem.load a none .pure from rfl, Sem.wp_load]
    refine ⟨o, ho, ?_⟩
    rw [Sem.wp_pure, e]
    exact callFunctionS_le hΓ hd h
   ·exact h
 | _ => exact h
end
def roomS : Sem Unit := do
 let limit ← currentRecursionLimit
 if limit = recursionLimit then pure () else unsupported "limit"
open Builtin.Generator in
def genWakeS (g : Value) : Sem PySem.Fin := do
 let n ← holding [Value.none] (genNumber g)
 let before ← genState n
 match before with
 | GenStatus.fresh | .suspended => roomS
 | _ => pure ()
 match ← resume n (.send .none) with
 | .yielded v => ret v
 | .returned v =>
   if v == .none then raiseNew (← newExc (.type "StopIteration") [])
   rule "generator.return-value"; throw (← newExc (.type "StopIteration") [v])
 | .raised e => genLeft g e
 | .running => rule "generator.already-executing"; raiseError "ValueError" "generator already executing"
 | .justStarted => rule "generator.send-to-fresh"; raiseError "TypeError" "can't send non-None value to a just-started generator"
 | .finished => raiseNew (← newExc (.type "StopIteration") [])
def genNextS (args : Args) : Sem PySem.Fin := do
 let (g, _) ← slotArgs "__next__" 0 args
 genWakeS g
section
variable {M : Model} {Γ : PySem.Ctx} {p : Pos} {s : Shared} {E : Value → Pos → Shared → Prop}
theorem roomS_le {A : Around} (hΓ : Γ.In A) (hd : A.depth < recursionLimit) {Q : Unit → Pos → Shared → Prop} (h : Sem.wp M Γ roomS Q E p s) : Sem.wp M Γ roomToWake Q E p s := by
 rw [show @roomToWake = wakeQ from wakeQ_eq]
 unfold wakeQ
 have L := lies_of (p := p) hΓ
 show Sem.wp M Γ (Sem.bind currentRecursionLimit _) Q E p s
 walk_at "eK"
 unfold roomS at h
 rw [Sem.wp_bind'] at h
 refine Sem.wp_mono M Γ _ (fun limit p' s' h' => ?_) (fun _ _ _ h' => h') p s h
 by_cases e : limit = recursionLimit
 ·subst e
  rw [if_pos rfl] at h'
  have e1 : nearF ((Γ.code, p) :: Γ.below) 0 recursionLimit = false := L.near' hd 0
  have e3 : warmF ((Γ.code, p) :: Γ.below) 0 recursionLimit = false := L.warm hd 0
  simp only [e1, e3, cond_false]
  exact h'
 ·rw [if_neg e] at h'
  exact h'.elim
theorem genWakeS_le {A : Around} (hΓ : Γ.In A) (hd : A.depth < recursionLimit) {g : Value} {Q : PySem.Fin → Pos → Shared → Prop} (h : Sem.wp M Γ (genWakeS g) Q E p s) :
  Sem.wp M Γ (Builtin.Generator.genWake g (.send .none)) Q E p s := by
 unfold genWakeS at h
 unfold Builtin.Generator.genWake
 walk_at "eZ"
 refine Sem.wp_mono M Γ _ (fun n p s h => ?_) (fun _ _ _ h' => h') p s h
 walk_at "eZ"
 refine Sem.wp_mono M Γ _ (fun before p s h => ?_) (fun _ _ _ h' => h') p s h
 cases before with
 | fresh =>
   show Sem.wp M Γ (roomToWake >>= _) Q E p s
   have h : Sem.wp M Γ (roomS >>= _) Q E p s := h
   walk_at "eZ"
   exact roomS_le hΓ hd h
 | suspended =>
   show Sem.wp M Γ (roomToWake >>= _) Q E p s
   have h : Sem.wp M Γ (roomS >>= _) Q E p s := h
   walk_at "eZ"
   exact roomS_le hΓ hd h
 | running => exact h
 | finished => exact h
theorem den_entry {id : String} {b : Builtin} (h : entryFor table id = some b) (args : Args) : denote table (.builtin id args) = b args := by
 show (match entryFor table id with | some b => b args | none => _) = _
 rw [h]
theorem genNextS_le {A : Around} (hΓ : Γ.In A) (hd : A.depth < recursionLimit) {args : Args} {Q : PySem.Fin → Pos → Shared → Prop} (h : Sem.wp M Γ (genNextS args) Q E p s) :
  Sem.wp M Γ (denote table (.builtin "generator.__next__" args)) Q E p s := by
 rw [den_entry PySem.entry_gen_next args]
 unfold Builtin.«generator.__next__»
 unfold genNextS at h
 walk_at "eZ"
 exact Sem.wp_mono M Γ _ (fun x p s h => genWakeS_le hΓ hd h) (fun _ _ _ h' => h') p s h
end
def denS (A : Around) (c : Code) : Sem PySem.Fin := match c with
 | .call f args => match Nat.blt A.depth recursionLimit with
   | true => callS f args
   | false => denote table (.call f args)
 | .builtin id args => match id == "generator.__next__" with
   | true => match Nat.blt A.depth recursionLimit with
     | true => genNextS args
     | false => denote table (.builtin id args)
   | false => denote table (.builtin id args)
 | c => denote table c
theorem denS_le {M : Model} {A : Around} {c : Code} {Q : PySem.Fin → Shared → Prop} {E : Value → Shared → Prop} {s : Shared}
  (h : wpOwn M A c (denS (A.under c) c) Q E s) : wpOwn M A c (denote table c) Q E s := by
 cases c with
 | call f args =>
   intro Γ p hc hΓ
   have z := h Γ p hc hΓ
   unfold denS at z
   simp only at z
   split at z
   ·rename_i e
    have hlt : (A.under (.call f args)).depth < recursionLimit := Nat.le_of_ble_eq_true e
    exact callS_le (by have := hΓ.in; rwa [hc] at this) hlt z
   ·exact z
 | builtin id args =>
   intro Γ p hc hΓ
   have z := h Γ p hc hΓ
   unfold denS at z
   simp only at z
   cases e0 : (id == "generator.__next__") with
   | false => rw [e0] at z; exact z
   | true =>
     rw [e0] at z
     cases e : Nat.blt (A.under (.builtin id args)).depth recursionLimit with
     | false => rw [e] at z; exact z
     | true =>
       rw [e] at z
       have hlt : (A.under (.builtin id args)).depth < recursionLimit := Nat.le_of_ble_eq_true e
       rw [show id = "generator.__next__" from eq_of_beq e0]
       exact genNextS_le (by have := hΓ.in; rwa [hc] at this) hlt z
 | _ => exact h
def getL : News → Addr → Option Obj
 | [], _ => none
 | p :: T, a => if p.1 = a then some p.2 else getL T a
theorem getL_mem {T : News} {a : Addr} {o : Obj} (h : getL T a = some o) : (a, o) ∈ T := by
 induction T with
 | nil => cases h
 | cons p T ih =>
   unfold getL at h
   split at h
   ·rename_i e
    cases h
    subst e
    exact .head _
   ·exact .tail _ (ih h)
structure CS1 (V : XV) (g₀ : List GenState) where
 A₀ : Around
 code : Code
 inn : News
 m : Nat
 i : Nat
 gl : List GenState
 r : Result
 out : News
 m' : Nat
 i' : Nat
 gl' : List GenState
 ok : Ctr V.prog V.w V.h₀ V.d V.os g₀ A₀ code inn m i gl (fun r0 n0 m0 i0 gl0 => r0 = r ∧ n0 = out ∧ m0 = m' ∧ i0 = i' ∧ gl0 = gl')
structure CSA (V : XV) (g₀ : List GenState) where
 A₀ : Around
 code : Code
 inn : News
 m : Nat
 i : Nat
 gl : List GenState
 T : Type
 P : T → Prop
 r : T → Result
 out : T → News
 m' : T → Nat
 i' : T → Nat
 gl' : T → List GenState
 ok : Ctr V.prog V.w V.h₀ V.d V.os g₀ A₀ code inn m i gl (fun r0 n0 m0 i0 gl0 => ∃ x, P x ∧ r0 = r x ∧ n0 = out x ∧ m0 = m' x ∧ i0 = i' x ∧ gl0 = gl' x)
inductive AnT (V : XV) (g₀ : List GenState) : Type 1 where
 | nil
 | cell (i : Nat) (r : AnT V g₀)
 | top (r : AnT V g₀)
 | got (k : Nat) (o : Obj) (r : AnT V g₀)
 | go (r : AnT V g₀)
 | one (is : List Nat) (k : Nat) (S : CS1 V g₀) (r : AnT V g₀)
 | any (is : List Nat) (k : Nat) (S : CSA V g₀) (r : (x : S.T) → S.P x → AnT V g₀)
 | stk (r : AnT V g₀)
 | cellL (i : Nat) (r : AnT V g₀)
structure CK where
 hd : Option Value
 code : Code
 news : News
 m : Nat
 i : Nat
 gl : List GenState
def CS1.key {V : XV} {g₀ : List GenState} (S : CS1 V g₀) : CK := ⟨S.A₀.handled, S.code, S.inn, S.m, S.i, S.gl⟩
inductive OB where
 | ad (a b : Nat)
 | get (T : News) (a : Addr) (o : Obj)
 | co (x y : CK)
inductive O1 where
 | ad (a : Nat)
 | get (T : News) (a : Addr) (o : Obj) (h : (a, o) ∈ T)
 | co (x : CK)
def O1.dup : O1 → OB
 | .ad a => .ad a a
 | .get T a o _ => .get T a o
 | .co x => .co x x
def dupL : List O1 → List OB
 | [] => []
 | x :: l => x.dup :: dupL l
def OB.Ok : OB → Prop
 | .ad a b => a = b
 | .get T a o => (a, o) ∈ T
 | .co x y => x = y
def OkB : List OB → Prop
 | [] => True
 | p :: l => p.Ok ∧ OkB l
theorem okRefl : ∀ l : List O1, OkB (dupL l)
 | [] => trivial
 | .ad _ :: l => ⟨rfl, okRefl l⟩
 | .get _ _ _ h :: l => ⟨h, okRefl l⟩
 | .co _ :: l => ⟨rfl, okRefl l⟩
def AOkQ (A₀ A : Around) : Bool := Nat.ble A.depth A₀.depth && A₀.guards.isNone && Nat.ble A.units A₀.units
theorem mem_back {R T : News} {a : Addr} {o : Obj} (h : getL T a = some o) : (a, o) ∈ R ++ T := List.mem_append.mpr (.inr (getL_mem h))
abbrev QRest := News → Nat → Nat → List OB → List GenState → Prop
abbrev Stk := Nat → Pos × List (Code × Pos)
def Stk.tail (S : Stk) : Stk := fun n => S (n + 1)
def Stk.cons (x : Pos × List (Code × Pos)) (S : Stk) : Stk
 | 0 => x
 | n + 1 => S n
def Stk.none : Stk := fun _ => (default, [])
abbrev QTy (V : XV) (g₀ : List GenState) := Stk → AnT V g₀ → Code → Option (List Frame) → Kont → Sem PySem.Fin → QRest
def qnay (n : Nat) : QRest := fun _ _ _ _ _ => Stopped n
def okPick (is : List Nat) (k : Nat) : Bool := decide is.Nodup && is.all fun i => Nat.blt i k
section
variable (V : XV) (g₀ : List GenState) (gn : Nat) (par : Params)
variable (rm : RmTy) (re : ReTy) (rw_ : RwTy)
def qleft (n : Nat) (c : Code) (md : Option (List Frame)) (κ : Kont) (t : Sem PySem.Fin) : QRest := fun news m i acc gl => OkB acc ∧ rm n c md κ t news m i gl
def qret (n : Nat) (ih : QTy V g₀) (S : Stk) (an : AnT V g₀) (r : Result) (c : Code) (md : Option (List Frame)) (κ : Kont) (t : Sem PySem.Fin) : QRest := match md with
 | none => match κ with
   | .base => fun news m i acc gl => OkB acc ∧ re n r news m i gl
   | .ret c₁ _ k κ => ih S an c₁ none κ (k r)
   | .gen .. => qleft rm n c md κ t
   | .genS .. => qleft rm n c md κ t
 | some fs => match fs with
   | [] => match an with
     | .cell j an => match κ with
       | .gen g c₁ k₁ κ₁ => fun news m i acc gl => ih S an c₁ none κ₁ (k₁ (End.ret r).result) news m i (.ad g (gn + j) :: acc) (gl.set j (End.ret r).genState)
       | _ => qnay 40
     | _ => fun news m i acc gl => OkB acc ∧ rw_ n (.ret r) κ news m i gl
   | f :: fs => match f with
     | .ret k _ _ _ c₁ _ _ => ih S an c₁ (some fs) κ (k r)
     | .gen .. => qleft rm n c md κ t
def qback (n : Nat) (ih : QTy V g₀) (S : Stk) (an : AnT V g₀) (r : Result) (κ : Kont) : QRest := match κ with
 | .base => fun news m i acc gl => OkB acc ∧ re n r news m i gl
 | .ret c₁ _ k κ => ih S an c₁ none κ (k r)
 | .gen .. => qnay 22
 | .genS .. => qnay 22
def qone (A : Around) (c' : Code) (is : List Nat) (k : Nat) (S : CS1 V g₀) (go : Result → QRest) : QRest := match okPick is k with
 | false => qnay 20
 | true => match S with
   | ⟨A₀, code, inn, m1, i1, gl1, r, out, m', i', gl', _⟩ => match AOkQ A₀ A with
     | false => qnay 21
     | true => fun news m i acc gl => go r out m' i' (k_addr% "eY") gl'
def qany (A : Around) (c' : Code) (is : List Nat) (k : Nat) : (S : CSA V g₀) → ((x : S.T) → S.P x → Result → QRest) → QRest
 | ⟨A₀, code, inn, m1, i1, gl1, T, P, r, out, m', i', gl', _⟩, go => match okPick is k with
   | false => qnay 20
   | true => match AOkQ A₀ A with
     | false => qnay 21
     | true => fun news m i acc gl => OkB (k_addr% "eY") ∧ ∀ (x : T) (hx : P x), go x hx (r x) (out x) (m' x) (i' x) [] (gl' x)
def mark {α : Type} (n : Nat) (c : Code) (md : Option (List Frame)) (κ : Kont) (t : Sem PySem.Fin) (x : α) : α := x
def plAt (l c : Nat) (p : Pos) : Bool := match p with | ⟨a, b, _, _⟩ => match Nat.beq a l with | true => Nat.beq b c | false => false
def plNo (_ : Pos) : Bool := false
def ostepQ (pl : Pos → Bool) (n : Nat) (ih : QTy V g₀) (S : Stk) (an : AnT V g₀) (c : Code) (md : Option (List Frame)) (κ : Kont) (t : Sem PySem.Fin) : QRest := match t with
 | .pure fin => match fin with
   | .done f => fFlow f fun f => qret V g₀ gn rm re rw_ n ih S an (.ok f) c md κ (.pure (.done f))
   | .again c' => match an with
     | .go an => fCode c' fun c' => match c'.quiet with
       | true => match md with
         | none => ih S an c' none κ (denS ((aroundOf V true κ).under c') c')
         | some fs => ih S an c' (some fs) κ (denote table c')
       | false => qnay 5
     | .one is k Sp an => match md with
       | none => fCode c' fun c' => match c'.quiet with
         | true => qone V g₀ (aroundOf V true κ) c' is k Sp fun r => qback V g₀ re n ih S an r κ
         | false => qnay 5
       | some _ => qnay 6
     | .any is k Sp an => match md with
       | none => fCode c' fun c' => match c'.quiet with
         | true => qany V g₀ (aroundOf V true κ) c' is k Sp fun x hx r => qback V g₀ re n ih S (an x hx) r κ
         | false => qnay 5
       | some _ => qnay 6
     | _ => qleft rm n c md κ (.pure (.again c'))
 | .raise e => qret V g₀ gn rm re rw_ n ih S an (.error e) c md κ (.raise e)
 | .rule _ k => ih S an c md κ (k ())
 | .at q k => match pl q with
   | true => qleft rm n c md κ (.at q k)
   | false => ih S an c md κ (k ())
 | .point _ k => ih S an c md κ (k ())
 | .ask k => match V with
   | ⟨p, _, _, _, _, _, _, _, _, _, _⟩ => ih S an c md κ (k ⟨p, par⟩)
 | .fresh k => fun news m i => ih S an c md κ (k i) news m (i + 1)
 | .load a p k => match an with
   | .cell j an => fun news m i acc gl => match news[j]? with
     | some ⟨b, o⟩ => ih S an c md κ (k o) news m i (.ad a b :: acc) gl
     | none => Stopped 1
   | .top an => match V.kt.get a with
     | some o => ih S an c md κ (k o)
     | none => qnay 2
   | .got j o an => fun news m i acc gl => ih S an c md κ (k o) news m i (.get (news.drop j) a o :: acc) gl
   | _ => qleft rm n c md κ (.load a p k)
 | .loadIfAlive a k => match an with
   | .cell j an => fun news m i acc gl => match news[j]? with
     | some ⟨b, o⟩ => ih S an c md κ (k (some o)) news m i (.ad a b :: acc) gl
     | none => Stopped 1
   | .top an => match V.kt.get a with
     | some o => ih S an c md κ (k (some o))
     | none => qnay 2
   | .got j o an => fun news m i acc gl => ih S an c md κ (k (some o)) news m i (.get (news.drop j) a o :: acc) gl
   | _ => qleft rm n c md κ (.loadIfAlive a k)
 | .update a p f k => match an with
   | .cell j an => fun news m i acc gl => match news[j]? with
     | some ⟨b, o⟩ => match (f o).isFreed with
       | true => Stopped 6
       | false => fObj (f o) fun o' => ih S an c md κ (k ()) (news.set j (b, o')) m i (.ad a b :: acc) gl
     | none => Stopped 1
   | .cellL j an => fun news m i acc gl => match news[j]? with
     | some ⟨b, o⟩ => match (f o).isFreed with
       | true => Stopped 6
       | false => ih S an c md κ (k ()) (news.set j (b, f o)) m i (.ad a b :: acc) gl
     | none => Stopped 1
   | _ => qleft rm n c md κ (.update a p f k)
 | .alloc o k => fun news m i acc gl => match o.isFreed with
   | true => Stopped 6
   | false => fObj o fun o' => mark n c md κ (.alloc o k) (ih S an c md κ (k m) ((m, o') :: news) (m + 1) i acc gl)
 | .handled own k => match own with
   | false => match md with
     | none => ih S an c md κ (k (aroundOf V true κ).handled)
     | some fs => ih S an c md κ (k (k_addr% "dl").handled)
   | true => qleft rm n c md κ (.handled own k)
 | .call c' hd g l k => match an with
   | .go an => match md with
     | none => match okMark hd with
       | true => fCode c' fun c' => ih S an c' none (.ret c hd k κ) (denS ((k_addr% "aH").under c') c')
       | false => qnay 8
     | some fs => fCode c' fun c' => ih S.tail an c' (some (.ret k hd g l c (S 0).1 [] :: fs)) κ (denote table c')
   | .one is j Sp an => match okMark hd with
     | true => fCode c' fun c' => match md with
       | none => qone V g₀ (k_addr% "aH") c' is j Sp fun r => ih S an c none κ (k r)
       | some fs => qone V g₀ (k_addr% "dZ") c' is j Sp fun r => ih S an c (some fs) κ (k r)
     | false => qnay 8
   | .any is j Sp an => match okMark hd with
     | true => fCode c' fun c' => match md with
       | none => qany V g₀ (k_addr% "aH") c' is j Sp fun x hx r => ih S (an x hx) c none κ (k r)
       | some fs => qany V g₀ (k_addr% "dZ") c' is j Sp fun x hx r => ih S (an x hx) c (some fs) κ (k r)
     | false => qnay 8
   | _ => qleft rm n c md κ (.call c' hd g l k)
 | .newGen c' k => fun news m i acc gl => ih S an c md κ (k (gn + gl.length)) news m i acc (gl ++ [.fresh c'])
 | .genState g k => match an with
   | .cell j an => fun news m i acc gl => match gl[j]? with
     | some gs => ih S an c md κ (k gs.seen) news m i (.ad g (gn + j) :: acc) gl
     | none => Stopped 10
   | _ => qleft rm n c md κ (.genState g k)
 | .unsupported w => qleft rm n c md κ (.unsupported w)
 | .finish e => qleft rm n c md κ (.finish e)
 | .register a k => qleft rm n c md κ (.register a k)
 | .choose s x k => qleft rm n c md κ (.choose s x k)
 | .os q l k => qleft rm n c md κ (.os q l k)
 | .fork x k => qleft rm n c md κ (.fork x k)
 | .thread k => qleft rm n c md κ (.thread k)
 | .await a f tt l k => qleft rm n c md κ (.await a f tt l k)
 | .stack k => match an with
   | .go an => ih S.tail an c md κ (k ((c, (S 0).1) :: (S 0).2))
   | .stk an => fun news m i acc gl => OkB acc ∧ ∀ (x : Pos × List (Code × Pos)), LiesG V (k_addr% "cn") ((c, x.1) :: x.2) → ih S an c md κ (k ((c, x.1) :: x.2)) news m i [] gl
   | _ => qleft rm n c md κ (.stack k)
 | .resume g r l k => match an with
   | .cell j an => match md with
     | none => fun news m i acc gl => match gl[j]? with
       | some gs => match gs with
         | .fresh c₀ => match r with
           | .send v => match v with
             | .none => ih S an c₀ (some []) (.gen g c k κ) (denote table c₀) news m i (.ad g (gn + j) :: acc) (gl.set j .running)
             | _ => Stopped 31
           | .throw _ => Stopped 31
         | .suspended k₀ _ c₀ _ fs₀ _ => ih S an c₀ (some fs₀) (.gen g c k κ) (k₀ r) news m i (.ad g (gn + j) :: acc) (gl.set j .running)
         | _ => Stopped 32
       | none => Stopped 33
     | some _ => qnay 34
   | _ => qleft rm n c md κ (.resume g r l k)
 | .yield v gd l k => match an with
   | .cell j an => match md with
     | some fs => match gd with
       | false => match splitAtGen fs with
         | none => match fs.any Frame.guarded with
           | false => match κ with
             | .gen g c₁ k₁ κ₁ => fun news m i acc gl => ih S.tail an c₁ none κ₁ (k₁ (End.susp v false l k c (S 0).1 fs).result) news m i (.ad g (gn + j) :: acc) (gl.set j (End.susp v false l k c (S 0).1 fs).genState)
             | _ => qnay 40
           | true => qnay 41
         | some _ => qnay 42
       | true => qnay 43
     | none => qnay 44
   | _ => qleft rm n c md κ (.yield v gd l k)
def simQ (pl : Pos → Bool) : Nat → QTy V g₀
 | 0 => fun _ _ c md κ t => qleft rm 0 c md κ t
 | n + 1 => ostepQ V g₀ gn par rm re rw_ pl n (simQ pl n)
end
end Mine
set_option genSizeOf false
set_option genInjectivity false
namespace Mine
noncomputable section
open PySem PySem.Spec PySem.Calls PyProof.Rows PySem.W PySem.W.X
structure IT where
 T : Type
 x : T
def nthI : List IT → Nat → IT
 | [], _ => ⟨Unit, ()⟩
 | a :: l, n => match n with
   | 0 => a
   | n + 1 => nthI l n
abbrev Names (L : List IT) := (j : Nat) → (nthI L j).T
def nthF {α : Type} : List (α → Prop) → Nat → α → Prop
 | [], _, _ => True
 | p :: l, n, x => match n with
   | 0 => p x
   | n + 1 => nthF l n x
def trunc {L : List IT} (b : Nat) (ρ : Names L) : Names L := fun j => Bool.rec (nthI L j).x (ρ j) (Nat.blt j b)
def Fx {L : List IT} (F : List (Names L → Prop)) (b : Nat) (ρ : Names L) : Prop := ∀ j, Nat.blt j b = true → nthF F j (trunc (j + 1) ρ)
def Ext {L : List IT} (b : Nat) (ρ₀ ρ : Names L) : Prop := ∀ j, Nat.blt j b = true → ρ j = ρ₀ j
theorem trunc_ext {L : List IT} {b : Nat} {ρ₀ ρ : Names L} (h : Ext b ρ₀ ρ) : trunc b ρ = trunc b ρ₀ := by
 funext j
 unfold trunc
 have := h j
 cases e : Nat.blt j b with
 | false => rfl
 | true => exact this e
theorem Ext.le {L : List IT} {a b : Nat} {ρ₀ ρ : Names L} (h : Ext b ρ₀ ρ) (ab : a ≤ b) : Ext a ρ₀ ρ := fun j hj =>
 h j (Nat.ble_eq_true_of_le (Nat.le_trans (Nat.le_of_ble_eq_true hj) ab))
theorem trunc_trunc {L : List IT} {a b : Nat} (ab : a ≤ b) (ρ : Names L) : trunc a (trunc b ρ) = trunc a ρ := by
 refine trunc_ext fun j hj => ?_
 have hb : Nat.blt j b = true := Nat.ble_eq_true_of_le (Nat.le_trans (Nat.le_of_ble_eq_true hj) ab)
 unfold trunc
 rw [hb]
theorem Fx.trunc {L : List IT} {F : List (Names L → Prop)} {b : Nat} {ρ : Names L} (h : Fx F b ρ) : Fx F b (trunc b ρ) := fun j hj => by
 rw [trunc_trunc (Nat.le_of_ble_eq_true hj)]; exact h j hj
structure CD where
 A₀ : Around
 code : Code
 inn : News
 m : Nat
 i : Nat
 gl : List GenState
 r : Result
 out : News
 m' : Nat
 i' : Nat
 gl' : List GenState
structure ND (T : Type) where
 A₀ : Around
 code : Code
 inn : News
 m : Nat
 i : Nat
 gl : List GenState
 P : T → Prop
 r : T → Result
 out : T → News
 m' : T → Nat
 i' : T → Nat
 gl' : T → List GenState
def CD.Ok (V : XV) (g₀ : List GenState) (D : CD) : Prop := Ctr V.prog V.w V.h₀ V.d V.os g₀ D.A₀ D.code D.inn D.m D.i D.gl (fun r0 n0 m0 i0 gl0 => r0 = D.r ∧ n0 = D.out ∧ m0 = D.m' ∧ i0 = D.i' ∧ gl0 = D.gl')
def ND.Ok (V : XV) (g₀ : List GenState) {T : Type} (D : ND T) : Prop := Ctr V.prog V.w V.h₀ V.d V.os g₀ D.A₀ D.code D.inn D.m D.i D.gl (fun r0 n0 m0 i0 gl0 => ∃ x, D.P x ∧ r0 = D.r x ∧ n0 = D.out x ∧ m0 = D.m' x ∧ i0 = D.i' x ∧ gl0 = D.gl' x)
structure W1 (V : XV) (g₀ : List GenState) (H : Prop) where
 D : CD
 ok : H → D.Ok V g₀
structure WN (V : XV) (g₀ : List GenState) (H : Prop) (T : Type) where
 D : ND T
 ok : H → D.Ok V g₀
structure GT (H : Prop) where
 T : News
 a : Addr
 o : Obj
 ok : H → (a, o) ∈ T
def CellsAt (V : XV) (ix : List (Nat × Addr)) : Prop := ∃ h news m, ORep V h news m ∧ ∀ p ∈ ix, (news[p.1]?).map Prod.fst = some p.2
structure WD (V : XV) (H : Prop) where
 ix : List (Nat × Addr)
 α : Type
 a : α
 b : α
 F : α → Sem PySem.Fin
 ok : H → CellsAt V ix → a = b
inductive An3 (V : XV) (g₀ : List GenState) (L : List IT) (F : List (Names L → Prop)) where
 | nil
 | cell (i : Nat) (r : An3 V g₀ L F)
 | top (r : An3 V g₀ L F)
 | go (r : An3 V g₀ L F)
 | got (b k : Nat) (S : (ρ : Names L) → GT (Fx F b ρ)) (r : An3 V g₀ L F)
 | skip (k : Nat) (r : An3 V g₀ L F)
 | lax (r : An3 V g₀ L F)
 | stk (b : Nat) (f : (nthI L b).T → Pos × List (Code × Pos)) (g : Pos × List (Code × Pos) → (nthI L b).T) (e : ∀ y, f (g y) = y) (r : An3 V g₀ L F)
 | wd (b : Nat) (S : (ρ : Names L) → WD V (Fx F b ρ)) (r : An3 V g₀ L F)
 | one (b : Nat) (is : List Nat) (k n : Nat) (S : (ρ : Names L) → News → Nat → Nat → List GenState → W1 V g₀ (Fx F b ρ)) (r : An3 V g₀ L F)
 | any (b : Nat) (is : List Nat) (k n : Nat) (S : (ρ : Names L) → News → Nat → Nat → List GenState → WN V g₀ (Fx F b ρ) (nthI L b).T) (r : An3 V g₀ L F)
inductive Cm where
 | ad (a : Nat)
 | gt (T : News) (a : Addr)
 | ix (l : List (Option Addr))
 | tr (t : Sem PySem.Fin)
 | pr (p : Prop)
 | ck (hd : Option Value) (fr : Option (List PySem.Env)) (code : Code) (news : News) (m i : Nat) (gl : List GenState)
theorem Cm.ad_inj {a b : Nat} (h : Cm.ad a = Cm.ad b) : a = b := by cases h; rfl
theorem Cm.gt_inj {T T' : News} {a b : Addr} (h : Cm.gt T a = Cm.gt T' b) : T = T' ∧ a = b := by cases h; exact ⟨rfl, rfl⟩
theorem Cm.ix_inj {a b : List (Option Addr)} (h : Cm.ix a = Cm.ix b) : a = b := by cases h; rfl
theorem Cm.tr_inj {a b : Sem PySem.Fin} (h : Cm.tr a = Cm.tr b) : a = b := by cases h; rfl
theorem Cm.pr_inj {a b : Prop} (h : Cm.pr a = Cm.pr b) : a = b := by cases h; rfl
theorem Cm.ck_inj {h h' f f' c c' n n' m m' i i' g g'} (e : Cm.ck h f c n m i g = Cm.ck h' f' c' n' m' i' g') : h = h' ∧ f = f' ∧ c = c' ∧ n = n' ∧ m = m' ∧ i = i' ∧ g = g' := by
 cases e; exact ⟨rfl, rfl, rfl, rfl, rfl, rfl, rfl⟩
theorem cons_inj {α : Type} {a b : α} {l l' : List α} (h : a :: l = b :: l') : a = b ∧ l = l' := by cases h; exact ⟨rfl, rfl⟩
structure Rs where
 l : List Cm
 r : List Cm
 leaf : Prop
def Rs.Ok (x : Rs) : Prop := x.l = x.r ∧ x.leaf
def nay (n : Nat) : Rs := ⟨[], [], Stopped n⟩
theorem nay_no {n : Nat} (h : (nay n).Ok) : False := by cases h.2
def fNews {β : Type} : Nat → News → (News → β) → β
 | 0, l, k => k l
 | n + 1, l, k => match l with
   | [] => k []
   | p :: l => match p with
     | (a, o) => fNews n l fun l => k ((a, o) :: l)
theorem fNews_eq {β : Type} (n : Nat) (l : News) (k : News → β) : fNews n l k = k l := by
 induction n generalizing l k with
 | zero => rfl
 | succ n ih =>
   cases l with
   | nil => rfl
   | cons p l => exact ih l _
def takeA : Nat → News → News → News
 | 0, _, R => R
 | n + 1, l, R => match l with
   | [] => R
   | p :: l => p :: takeA n l R
def midL (j n : Nat) (l R : News) : News := takeA n (l.drop j) R
abbrev RRest := News → Nat → Nat → List Cm → List Cm → List GenState → Rs
abbrev RTy (V : XV) (g₀ : List GenState) (L : List IT) (F : List (Names L → Prop)) := Stk → Names L → An3 V g₀ L F → Nat → Code → Option (List Frame) → Kont → Sem PySem.Fin → RRest
def rnay (n : Nat) : RRest := fun _ _ _ _ _ _ => nay n
def onB (b : Bool) (n : Nat) (x : Rs) : Rs := match b with
 | true => x
 | false => nay n
def onCell (news : News) (j : Nat) (f : Addr → Obj → Rs) : Rs := match news[j]? with
 | some p => match p with
   | (b, o) => f b o
 | none => nay 1
def onTop (o : Option Obj) (f : Obj → Rs) : Rs := match o with
 | some o => f o
 | none => nay 2
def onGen (gl : List GenState) (j : Nat) (f : GenState → Rs) : Rs := match gl[j]? with
 | some g => f g
 | none => nay 3
def onGot {H : Prop} (g : GT H) (f : News → Addr → Obj → Rs) : Rs := match g with
 | ⟨T, x, o, _⟩ => f T x o
def frOf (A₀ A : Around) : Option (List PySem.Env) := match A₀.frames with
 | none => none
 | some _ => A.frames
def AOkR (A₀ A : Around) : Bool := Nat.ble A.depth A₀.depth && A₀.guards.isNone && Nat.ble A.units A₀.units
theorem AOkR.le {A₀ A : Around} (h : AOkR A₀ A = true) : A.depth ≤ A₀.depth ∧ A₀.guards = none ∧ A.units ≤ A₀.units := by
 unfold AOkR at h
 simp only [Bool.and_eq_true, Option.isNone_iff_eq_none] at h
 obtain ⟨⟨h2, h4⟩, h5⟩ := h
 exact ⟨Nat.le_of_ble_eq_true h2, h4, Nat.le_of_ble_eq_true h5⟩
theorem frOf_ok {A₀ A : Around} (h : frOf A₀ A = A₀.frames) : A₀.frames = none ∨ A₀.frames = A.frames := by
 unfold frOf at h
 cases e : A₀.frames with
 | none => exact .inl rfl
 | some x => rw [e] at h; exact .inr h.symm
section
variable (V : XV) (g₀ : List GenState) (L : List IT) (F : List (Names L → Prop)) (gn : Nat) (par : Params)
variable (rm : RmTy) (re : ReTy) (rw_ : RwTy)
def rleft (ρ : Names L) (b n : Nat) (c : Code) (md : Option (List Frame)) (κ : Kont) (t : Sem PySem.Fin) : RRest := fun news m i aL aR gl => ⟨aL, aR, Fx F b ρ → rm n c md κ t news m i gl⟩
def rend (ρ : Names L) (b n : Nat) (r : Result) : RRest := fun news m i aL aR gl => ⟨aL, aR, Fx F b ρ → re n r news m i gl⟩
def rret (n : Nat) (ih : RTy V g₀ L F) (S : Stk) (ρ : Names L) (an : An3 V g₀ L F) (b : Nat) (r : Result) (c : Code) (md : Option (List Frame)) (κ : Kont) (t : Sem PySem.Fin) : RRest := match md with
 | none => match κ with
   | .base => rend L F re ρ b n r
   | .ret c₁ _ k κ => ih S ρ an b c₁ none κ (k r)
   | .gen .. => rleft L F rm ρ b n c md κ t
   | .genS .. => rleft L F rm ρ b n c md κ t
 | some fs => match fs with
   | [] => match an with
     | .cell j an => match κ with
       | .gen g c₁ k₁ κ₁ => fun news m i aL aR gl => ih S ρ an b c₁ none κ₁ (k₁ (End.ret r).result) news m i (.ad g :: aL) (.ad (gn + j) :: aR) (gl.set j (End.ret r).genState)
       | _ => rnay 40
     | _ => fun news m i aL aR gl => ⟨aL, aR, Fx F b ρ → rw_ n (.ret r) κ news m i gl⟩
   | f :: fs => match f with
     | .ret k _ _ _ c₁ _ _ => ih S ρ an b c₁ (some fs) κ (k r)
     | .gen .. => rleft L F rm ρ b n c md κ t
def rback (n : Nat) (ih : RTy V g₀ L F) (S : Stk) (ρ : Names L) (an : An3 V g₀ L F) (b : Nat) (r : Result) (κ : Kont) : RRest := match κ with
 | .base => rend L F re ρ b n r
 | .ret c₁ _ k κ => ih S ρ an b c₁ none κ (k r)
 | .gen .. => rnay 22
 | .genS .. => rnay 22
def rone (ρ : Names L) (bn : Nat) (A : Around) (c' : Code) (b : Nat) (is : List Nat) (k nn : Nat) (S : (ρ : Names L) → News → Nat → Nat → List GenState → W1 V g₀ (Fx F b ρ)) (go : Result → RRest) : RRest := fun news m i aL aR gl =>
 onB (okPick is k) 20 <| onB (Nat.beq b bn) 23 <| match (S (trunc b ρ) (k_addr% "bp") m i gl).D with
  | ⟨A₀, code, inn, m1, i1, gl1, r, out, m', i', gl'⟩ => onB (AOkR A₀ A) 21 <| fNews nn out fun out =>
    go r out m' i' (.ck A.handled (frOf A₀ A) c' (k_addr% "bp") m i gl :: aL) (.ck A₀.handled A₀.frames code inn m1 i1 gl1 :: aR) gl'
def rany (ρ : Names L) (bn : Nat) (A : Around) (c' : Code) (b : Nat) (is : List Nat) (k nn : Nat) (S : (ρ : Names L) → News → Nat → Nat → List GenState → WN V g₀ (Fx F b ρ) (nthI L b).T) (go : Result → RRest) : RRest := fun news m i aL aR gl =>
 onB (okPick is k) 20 <| onB (Nat.beq b bn) 23 <| match (S (trunc b ρ) (k_addr% "bp") m i gl).D with
  | ⟨A₀, code, inn, m1, i1, gl1, P, r, out, m', i', gl'⟩ => onB (AOkR A₀ A) 21 <| fNews nn (out (ρ b)) fun out =>
    go (r (ρ b)) out (m' (ρ b)) (i' (ρ b)) (.pr (P (ρ b)) :: .ck A.handled (frOf A₀ A) c' (k_addr% "bp") m i gl :: aL) (.pr (nthF F b (trunc (b + 1) ρ)) :: .ck A₀.handled A₀.frames code inn m1 i1 gl1 :: aR) (gl' (ρ b))
def bR (x : Bool) (n : Nat) (f : RRest) : RRest := fun news m i aL aR gl => onB x n (f news m i aL aR gl)
def anCl (an : An3 V g₀ L F) (f : Nat → An3 V g₀ L F → RRest) (d : RRest) : RRest := match an with
 | .cell j an => f j an
 | _ => d
def anG (an : An3 V g₀ L F) (f : An3 V g₀ L F → RRest) (d : RRest) : RRest := match an with
 | .go an => f an
 | _ => d
def anLd (ρ : Names L) (b : Nat) (a : Addr) (an : An3 V g₀ L F) (f : Obj → An3 V g₀ L F → RRest) (d : RRest) : RRest := match an with
 | .cell j an => fun news m i aL aR gl => onCell news j fun x o => f o an news m i (.ad a :: aL) (.ad x :: aR) gl
 | .top an => fun news m i aL aR gl => onTop (V.kt.get a) fun o => f o an news m i aL aR gl
 | .got b' j G an => fun news m i aL aR gl => onB (Nat.beq b' b) 24 <| onGot (G (trunc b' ρ)) fun T x o => f o an news m i (.gt (news.drop j) a :: aL) (.gt T x :: aR) gl
 | _ => d
def anCa (ρ : Names L) (b : Nat) (A : Around) (c' : Code) (an : An3 V g₀ L F) (go : An3 V g₀ L F → RRest) (f : Nat → An3 V g₀ L F → Result → RRest) (d : RRest) : RRest := match an with
 | .go an => go an
 | .one b' is k nn Sp an => rone V g₀ L F ρ b A c' b' is k nn Sp (f b an)
 | .any b' is k nn Sp an => rany V g₀ L F ρ b A c' b' is k nn Sp (f (b + 1) an)
 | _ => d
def rstep0 (n : Nat) (ih : RTy V g₀ L F) (S : Stk) (ρ : Names L) (an : An3 V g₀ L F) (b : Nat) (c : Code) (md : Option (List Frame)) (κ : Kont) (t : Sem PySem.Fin) : RRest := match t with
 | .pure fin => match fin with
   | .done f => fFlow f fun f => rret V g₀ L F gn rm re rw_ n ih S ρ an b (.ok f) c md κ (.pure (.done f))
   | .again c' => match md with
     | none => fCode c' fun c' => bR c'.quiet 5 (anCa V g₀ L F ρ b (aroundOf V true κ) c' an (fun an => ih S ρ an b c' none κ (denS ((aroundOf V true κ).under c') c'))
       (fun b an r => rback V g₀ L F re n ih S ρ an b r κ) (rleft L F rm ρ b n c none κ (.pure (.again c'))))
     | some fs => fCode c' fun c' => bR c'.quiet 5 (anG V g₀ L F an (fun an => ih S ρ an b c' (some fs) κ (denote table c')) (rleft L F rm ρ b n c (some fs) κ (.pure (.again c'))))
 | .raise e => rret V g₀ L F gn rm re rw_ n ih S ρ an b (.error e) c md κ (.raise e)
 | .rule _ k => ih S ρ an b c md κ (k ())
 | .at _ k => ih S ρ an b c md κ (k ())
 | .point _ k => ih S ρ an b c md κ (k ())
 | .ask k => match V with
   | ⟨p, _, _, _, _, _, _, _, _, _, _⟩ => ih S ρ an b c md κ (k ⟨p, par⟩)
 | .fresh k => fun news m i => ih S ρ an b c md κ (k i) news m (i + 1)
 | .load a p k => anLd V g₀ L F ρ b a an (fun o an => ih S ρ an b c md κ (k o)) (rleft L F rm ρ b n c md κ (.load a p k))
 | .loadIfAlive a k => anLd V g₀ L F ρ b a an (fun o an => ih S ρ an b c md κ (k (some o))) (rleft L F rm ρ b n c md κ (.loadIfAlive a k))
 | .update a p f k => anCl V g₀ L F an (fun j an news m i aL aR gl => onCell news j fun x o => onB (!(f o).isFreed) 6 <| fObj (f o) fun o' => ih S ρ an b c md κ (k ()) (news.set j (x, o')) m i (.ad a :: aL) (.ad x :: aR) gl)
   (rleft L F rm ρ b n c md κ (.update a p f k))
 | .alloc o k => fun news m i aL aR gl => onB (!o.isFreed) 6 <| fObj o fun o => ih S ρ an b c md κ (k m) ((m, o) :: news) (m + 1) i aL aR gl
 | .handled own k => match own with
   | false => match md with
     | none => ih S ρ an b c md κ (k (aroundOf V true κ).handled)
     | some fs => ih S ρ an b c md κ (k (k_addr% "dl").handled)
   | true => rleft L F rm ρ b n c md κ (.handled own k)
 | .call c' hd g l k => match md with
   | none => fCode c' fun c' => bR (okMark hd) 8 (anCa V g₀ L F ρ b (k_addr% "aH") c' an (fun an => bR (finOk V c) 9 (ih S ρ an b c' none (.ret c hd k κ) (denS ((k_addr% "aH").under c') c')))
     (fun b an r => ih S ρ an b c none κ (k r)) (rleft L F rm ρ b n c none κ (.call c' hd g l k)))
   | some fs => fCode c' fun c' => match okMark hd with
     | true => anCa V g₀ L F ρ b (k_addr% "dZ") c' an (fun an => ih S.tail ρ an b c' (some (.ret k hd g l c (S 0).1 [] :: fs)) κ (denote table c'))
       (fun b an r => ih S ρ an b c (some fs) κ (k r)) (rleft L F rm ρ b n c (some fs) κ (.call c' hd g l k))
     | false => anG V g₀ L F an (fun an => ih S.tail ρ an b c' (some (.ret k hd g l c (S 0).1 [] :: fs)) κ (denote table c')) (rleft L F rm ρ b n c (some fs) κ (.call c' hd g l k))
 | .newGen c' k => fun news m i aL aR gl => ih S ρ an b c md κ (k (gn + gl.length)) news m i aL aR (gl ++ [.fresh c'])
 | .genState g k => anCl V g₀ L F an (fun j an news m i aL aR gl => onGen gl j fun gs => ih S ρ an b c md κ (k gs.seen) news m i (.ad g :: aL) (.ad (gn + j) :: aR) gl) (rleft L F rm ρ b n c md κ (.genState g k))
 | .unsupported w => rleft L F rm ρ b n c md κ (.unsupported w)
 | .finish e => rleft L F rm ρ b n c md κ (.finish e)
 | .register a k => rleft L F rm ρ b n c md κ (.register a k)
 | .choose s x k => rleft L F rm ρ b n c md κ (.choose s x k)
 | .os q l k => rleft L F rm ρ b n c md κ (.os q l k)
 | .fork x k => rleft L F rm ρ b n c md κ (.fork x k)
 | .thread k => rleft L F rm ρ b n c md κ (.thread k)
 | .await a f tt l k => rleft L F rm ρ b n c md κ (.await a f tt l k)
 | .stack k => anG V g₀ L F an (fun an => ih S.tail ρ an b c md κ (k ((c, (S 0).1) :: (S 0).2))) (rleft L F rm ρ b n c md κ (.stack k))
 | .resume g r l k => match md with
   | none => anCl V g₀ L F an (fun j an news m i aL aR gl => onB (genOk V) 33 <| onGen gl j fun gs => match gs with
      | .fresh c₀ => match r with
        | .send v => match v with
          | .none => ih S ρ an b c₀ (some []) (.gen g c k κ) (denote table c₀) news m i (.ad g :: aL) (.ad (gn + j) :: aR) (gl.set j .running)
          | _ => nay 31
        | .throw _ => nay 31
      | .suspended k₀ _ c₀ _ fs₀ _ => ih S ρ an b c₀ (some fs₀) (.gen g c k κ) (k₀ r) news m i (.ad g :: aL) (.ad (gn + j) :: aR) (gl.set j .running)
      | _ => nay 32) (rleft L F rm ρ b n c none κ (.resume g r l k))
   | some fs => rleft L F rm ρ b n c (some fs) κ (.resume g r l k)
 | .yield v gd l k => match md with
   | some fs => match gd with
     | false => match κ with
       | .gen g c₁ k₁ κ₁ => anCl V g₀ L F an (fun j an news m i aL aR gl => onB (splitAtGen fs).isNone 42 <| onB (!fs.any Frame.guarded) 41 <|
         ih S.tail ρ an b c₁ none κ₁ (k₁ (End.susp v false l k c (S 0).1 fs).result) news m i (.ad g :: aL) (.ad (gn + j) :: aR) (gl.set j (End.susp v false l k c (S 0).1 fs).genState)) (rleft L F rm ρ b n c (some fs) (.gen g c₁ k₁ κ₁) (.yield v false l k))
       | κ => rleft L F rm ρ b n c (some fs) κ (.yield v false l k)
     | true => rleft L F rm ρ b n c (some fs) κ (.yield v true l k)
   | none => rleft L F rm ρ b n c none κ (.yield v gd l k)
def aroundAt (V : XV) (c : Code) (md : Option (List Frame)) (κ : Kont) : Around := match md with
 | none => (aroundOf V true κ).under c
 | some fs => (aroundOf V false κ).over c fs
def rlax (ih : RTy V g₀ L F) (S : Stk) (ρ : Names L) (an : An3 V g₀ L F) (b : Nat) (c : Code) (md : Option (List Frame)) (κ : Kont) (t : Sem PySem.Fin) : RRest := match t with
 | .alloc o k => fun news m i aL aR gl => onB (!o.isFreed) 6 <| ih S ρ an b c md κ (k m) ((m, o) :: news) (m + 1) i aL aR gl
 | .update a p f k => match an with
   | .cell j an => fun news m i aL aR gl => onCell news j fun x o => onB (!(f o).isFreed) 6 <| ih S ρ an b c md κ (k ()) (news.set j (x, f o)) m i (.ad a :: aL) (.ad x :: aR) gl
   | _ => rnay 51
 | _ => rnay 52
def rstk (ih : RTy V g₀ L F) (S : Stk) (ρ : Names L) (an : An3 V g₀ L F) (b b' : Nat) (f : (nthI L b').T → Pos × List (Code × Pos)) (c : Code) (md : Option (List Frame)) (κ : Kont) (t : Sem PySem.Fin) : RRest := match t with
 | .stack k => fun news m i aL aR gl => onB (Nat.beq b' b) 25 <|
   ih S ρ an (b + 1) c md κ (k ((c, (f (ρ b')).1) :: (f (ρ b')).2)) news m i (.pr (LiesG V (aroundAt V c md κ) ((c, (f (ρ b')).1) :: (f (ρ b')).2)) :: aL) (.pr (nthF F b' (trunc (b' + 1) ρ)) :: aR) gl
 | _ => rnay 53
def onWd {H : Prop} (g : WD V H) (f : List (Nat × Addr) → Sem PySem.Fin → Sem PySem.Fin → Rs) : Rs := match g with
 | ⟨ix, _, a, b, F, _⟩ => f ix (F a) (F b)
def rstep (n : Nat) (ih : RTy V g₀ L F) (S : Stk) (ρ : Names L) (an : An3 V g₀ L F) (b : Nat) (c : Code) (md : Option (List Frame)) (κ : Kont) (t : Sem PySem.Fin) : RRest := match an with
 | .skip k an => match k with
   | 0 => ih S ρ an b c md κ t
   | k + 1 => rstep0 V g₀ L F gn par rm re rw_ n ih S ρ (.skip k an) b c md κ t
 | .lax an => rlax V g₀ L F ih S ρ an b c md κ t
 | .stk b' f _ _ an => rstk V g₀ L F ih S ρ an b b' f c md κ t
 | .wd b' G an => fun news m i aL aR gl => onB (Nat.beq b' b) 26 <| onWd V (G (trunc b' ρ)) fun ix t1 t2 =>
   ih S ρ an b c md κ t2 news m i (.ix (ix.map fun p => (news[p.1]?).map Prod.fst) :: .tr t :: aL) (.ix (ix.map fun p => some p.2) :: .tr t1 :: aR) gl
 | an => rstep0 V g₀ L F gn par rm re rw_ n ih S ρ an b c md κ t
def simR : Nat → RTy V g₀ L F
 | 0 => fun _ ρ _ b c md κ t => rleft L F rm ρ b 0 c md κ t
 | n + 1 => rstep V g₀ L F gn par rm re rw_ n (simR n)
end
end
end Mine
namespace Mine
open PySem PySem.Spec PySem.Calls PyProof.Rows PySem.W PySem.W.X
section
variable {V : XV} {g₀ : List GenState} {L : List IT} {F : List (Names L → Prop)}
theorem setGen_gcat (h : Heap) (i : Nat) (gl : List GenState) (j : Nat) (x : GenState) : (OSt V g₀ h i gl).setGen (g₀.length + j) x = OSt V g₀ h i (gl.set j x) := by
 unfold OSt Shared.setGen
 have : (⟨gcat g₀ gl⟩ : Array GenState).setIfInBounds (g₀.length + j) x = ⟨gcat g₀ (gl.set j x)⟩ := by
  apply Array.ext'
  simp [gcat_eq]
 rw [this]
theorem gen_at {h : Heap} {i : Nat} {gl : List GenState} {j g : Nat} {gs : GenState} (e : gl[j]? = some gs) (eg : g = g₀.length + j) : (OSt V g₀ h i gl).gens[g]? = some gs := by
 show (⟨gcat g₀ gl⟩ : Array GenState)[g]? = some gs
 rw [eg, gcat_eq, List.getElem?_toArray, List.getElem?_append_right (Nat.le_add_right _ _), Nat.add_sub_cancel_left]
 exact e
theorem mean_retG {r : Result} {c : Code} {g : Nat} {c₁ : Code} {k₁ : GenResult → Sem PySem.Fin} {κ₁ : Kont} {t : Sem PySem.Fin} {h : Heap} {i : Nat} {gl : List GenState} {j : Nat} (ht : t = leafOf r) (eg : g = g₀.length + j)
  (x : MG V c₁ none κ₁ (k₁ (End.ret r).result) (OSt V g₀ h i (gl.set j (End.ret r).genState))) : MG V c (some []) (.gen g c₁ k₁ κ₁) t (OSt V g₀ h i gl) :=
 mg_ret (md := some []) ht (mg_wake (by rw [eg, setGen_gcat]; exact x))
theorem denS_at {V : XV} {A : Around} {c : Code} {Q : PySem.Fin → Shared → Prop} {E : Value → Shared → Prop} {s : Shared} (h : atNF V A c (denS (A.under c) c) Q E s) : atNF V A c (denote table c) Q E s := by
 cases c with
 | call f args =>
   intro Γ p hc hΓ hn
   have z := h Γ p hc hΓ hn
   unfold denS at z
   simp only at z
   split at z
   ·rename_i e
    have hlt : (A.under (.call f args)).depth < recursionLimit := Nat.le_of_ble_eq_true e
    exact callS_le (by have := hΓ.in; rwa [hc] at this) hlt z
   ·exact z
 | builtin id args =>
   intro Γ p hc hΓ hn
   have z := h Γ p hc hΓ hn
   unfold denS at z
   simp only at z
   cases e0 : (id == "generator.__next__") with
   | false => rw [e0] at z; exact z
   | true =>
     rw [e0] at z
     cases e : Nat.blt (A.under (.builtin id args)).depth recursionLimit with
     | false => rw [e] at z; exact z
     | true =>
       rw [e] at z
       have hlt : (A.under (.builtin id args)).depth < recursionLimit := Nat.le_of_ble_eq_true e
       rw [show id = "generator.__next__" from eq_of_beq e0]
       exact genNextS_le (by have := hΓ.in; rwa [hc] at this) hlt z
 | _ => exact h
theorem denS_means {c' : Code} {κ : Kont} {s : Shared} (h : MG V c' none κ (denS ((aroundOf V true κ).under c') c') s) : MG V c' none κ (denote table c') s := ⟨fun q => denS_le (h.1 q), fun q => denS_at (h.2 q)⟩
theorem got_at {h : Heap} {news : News} {m : Nat} (D : ORep V h news m) {j : Nat} {a : Addr} {o : Obj} (e : (a, o) ∈ news.drop j) : h.get? a = some o :=
 (D.mm.nw _ (List.mem_of_mem_drop e)).1
def Told (b : Nat) (ρ₀ : Names L) (f : Stk → Names L → Rs) : Prop := ∀ S ρ, Ext b ρ₀ ρ → (f S ρ).Ok
theorem Ext.refl (b : Nat) (ρ : Names L) : Ext b ρ ρ := fun _ _ => rfl
theorem Told.nay {b : Nat} {ρ₀ : Names L} {n : Nat} {P : Prop} (H : Told b ρ₀ fun _ _ => Mine.nay n) : P := (nay_no (H .none ρ₀ (.refl _ _))).elim
theorem Told.onB {b : Nat} {ρ₀ : Names L} {x : Bool} {n : Nat} {f : Stk → Names L → Rs} (H : Told b ρ₀ fun S ρ => Mine.onB x n (f S ρ)) : x = true ∧ Told b ρ₀ f := by
 cases x with
 | true => exact ⟨rfl, H⟩
 | false => exact Told.nay H
theorem Told.onCell {b : Nat} {ρ₀ : Names L} {news : News} {j : Nat} {f : Stk → Names L → Addr → Obj → Rs} (H : Told b ρ₀ fun S ρ => Mine.onCell news j (f S ρ)) :
  ∃ x o, news[j]? = some (x, o) ∧ Told b ρ₀ fun S ρ => f S ρ x o := by
 unfold Mine.onCell at H
 cases e : news[j]? with
 | none => simp only [e] at H; exact Told.nay H
 | some q => simp only [e] at H; exact ⟨q.1, q.2, rfl, H⟩
theorem Told.onTop {b : Nat} {ρ₀ : Names L} {x : Option Obj} {f : Stk → Names L → Obj → Rs} (H : Told b ρ₀ fun S ρ => Mine.onTop x (f S ρ)) : ∃ o, x = some o ∧ Told b ρ₀ fun S ρ => f S ρ o := by
 cases x with
 | none => exact Told.nay H
 | some o => exact ⟨o, rfl, H⟩
theorem Told.onGen {b : Nat} {ρ₀ : Names L} {gl : List GenState} {j : Nat} {f : Stk → Names L → GenState → Rs} (H : Told b ρ₀ fun S ρ => Mine.onGen gl j (f S ρ)) : ∃ g, gl[j]? = some g ∧ Told b ρ₀ fun S ρ => f S ρ g := by
 unfold Mine.onGen at H
 cases e : gl[j]? with
 | none => simp only [e] at H; exact Told.nay H
 | some q => simp only [e] at H; exact ⟨q, rfl, H⟩
abbrev Then (F : List (Names L → Prop)) (b : Nat) (ρ₀ : Names L) (aL aR : List Cm) (P : Prop) : Prop := aL = aR ∧ ((∀ ρ, Ext b ρ₀ ρ → Fx F b ρ) → P)
def RGood (V : XV) (g₀ : List GenState) (L : List IT) (F : List (Names L → Prop)) (ih : RTy V g₀ L F) : Prop :=
 ∀ an b ρ₀ c md κ t news m i aL aR gl, (Told b ρ₀ fun S ρ => ih S ρ an b c md κ t news m i aL aR gl) → Then F b ρ₀ aL aR (k_addr% "bM")
theorem Told.leaf {b : Nat} {ρ₀ : Names L} {aL aR : List Cm} {P : Prop} (H : Told b ρ₀ fun _ ρ => ⟨aL, aR, Fx F b ρ → P⟩) : Then F b ρ₀ aL aR P :=
 ⟨(H .none ρ₀ (.refl _ _)).1, fun f => (H .none ρ₀ (.refl _ _)).2 (f ρ₀ (.refl _ _))⟩
theorem rleft_good {n : Nat} {b : Nat} {ρ₀ : Names L} {c : Code} {md : Option (List Frame)} {κ : Kont} {t : Sem PySem.Fin} {news m i aL aR gl} (H : Told b ρ₀ fun _ ρ => rleft L F (RM V g₀) ρ b n c md κ t news m i aL aR gl) :
  Then F b ρ₀ aL aR (k_addr% "bM") := Told.leaf H
variable {ih : RTy V g₀ L F} (IH : RGood V g₀ L F ih)
include IH
theorem rret_good {n : Nat} {an : An3 V g₀ L F} {b : Nat} {ρ₀ : Names L} {r : Result} {c : Code} {md : Option (List Frame)} {κ : Kont} {t : Sem PySem.Fin} (ht : t = leafOf r) {news m i aL aR gl}
  (H : Told b ρ₀ fun S ρ => rret V g₀ L F g₀.length (RM V g₀) (RE V g₀) (RW_ V g₀) n ih S ρ an b r c md κ t news m i aL aR gl) :
  Then F b ρ₀ aL aR (k_addr% "bM") := by
 cases md with
 | none =>
   cases κ with
   | base =>
     obtain ⟨e, x⟩ : Then F b ρ₀ aL aR (RE V g₀ n r news m i gl) := Told.leaf H
     exact ⟨e, fun f h D => mg_ret (md := none) ht ⟨fun _ => x f h D, fun _ => x f h D⟩⟩
   | ret c₁ hd k κ => exact (k_addr% "ap").imp id fun x f h D => mg_ret ht (x f h D)
   | gen => exact rleft_good H
   | genS => exact rleft_good H
 | some fs =>
   cases fs with
   | nil =>
     have hend : (Told b ρ₀ fun _ ρ => ⟨aL, aR, Fx F b ρ → RW_ V g₀ n (.ret r) κ news m i gl⟩) → Then F b ρ₀ aL aR (∀ h, ORep V h news m → MG V c (some []) κ t (OSt V g₀ h i gl)) :=
      fun H => (Told.leaf H).imp id fun x f h D => mg_ret (md := some []) ht (x f h D)
     cases an with
     | cell j an =>
       cases κ with
       | gen g c₁ k₁ κ₁ =>
         walk_at "cW"
         have ok := cons_inj ok
         exact ⟨ok.2, fun f h D => mean_retG ht (Cm.ad_inj ok.1) (x f h D)⟩
       | _ => exact Told.nay H
     | _ => exact hend H
   | cons f fs =>
     cases f with
     | ret k hd g l c₁ p₁ kp => exact (k_addr% "ap").imp id fun x f h D => mg_ret ht (x f h D)
     | gen => exact rleft_good H
theorem rback_good {n : Nat} {an : An3 V g₀ L F} {b : Nat} {ρ₀ : Names L} {r : Result} {κ : Kont} {news m i aL aR gl}
  (H : Told b ρ₀ fun S ρ => rback V g₀ L F (RE V g₀) n ih S ρ an b r κ news m i aL aR gl) : Then F b ρ₀ aL aR (∀ h, ORep V h news m → endG V κ r (OSt V g₀ h i gl)) := by
 cases κ with
 | base =>
   obtain ⟨e, x⟩ : Then F b ρ₀ aL aR (RE V g₀ n r news m i gl) := Told.leaf H
   exact ⟨e, fun f h D => ⟨fun _ => x f h D, fun _ => x f h D⟩⟩
 | ret c₁ hd k κ => exact (k_addr% "ap").imp id fun x f h D => mg_back (x f h D)
 | gen => exact Told.nay H
 | genS => exact Told.nay H
omit IH
theorem okPick_mm {h₀ h : Heap} {news : News} (M : Mm h₀ h news) {is : List Nat} {k : Nat} (e : okPick is k = true) : Mm h₀ h (k_addr% "bp") := M.choose is k e
theorem rone_good {b : Nat} {ρ₀ : Names L} {A : Around} {c' : Code} {b' : Nat} {is : List Nat} {k nn : Nat} {Sp : (ρ : Names L) → News → Nat → Nat → List GenState → W1 V g₀ (Fx F b' ρ)}
  {go : Stk → Names L → Result → RRest} {G : Result → Shared → Prop} {news m i aL aR gl}
  (hgo : ∀ r news m i aL aR gl, (Told b ρ₀ fun S ρ => go S ρ r news m i aL aR gl) → Then F b ρ₀ aL aR (∀ h, ORep V h news m → G r (OSt V g₀ h i gl)))
  (H : Told b ρ₀ fun S ρ => rone V g₀ L F ρ b A c' b' is k nn Sp (go S ρ) news m i aL aR gl) : Then F b ρ₀ aL aR (∀ h, ORep V h news m → codeAny (model V.prog V.w) A c' G (OSt V g₀ h i gl)) := by
 obtain ⟨e1, H⟩ := Told.onB H
 obtain ⟨e2, H⟩ := Told.onB H
 have e2 := Nat.eq_of_beq_eq_true e2
 subst e2
 have H' : Told b' ρ₀ fun S ρ => match (Sp (trunc b' ρ₀) (k_addr% "bp") m i gl).D with
  | ⟨A₀, code, inn, m1, i1, gl1, r, out, m', i', gl'⟩ => onB (AOkR A₀ A) 21 <| fNews nn out fun out =>
    go S ρ r out m' i' (.ck A.handled (frOf A₀ A) c' (k_addr% "bp") m i gl :: aL) (.ck A₀.handled A₀.frames code inn m1 i1 gl1 :: aR) gl' := fun S ρ x => by
  rw [← trunc_ext x]; exact H S ρ x
 generalize Sp (trunc b' ρ₀) (k_addr% "bp") m i gl = W at H'
 obtain ⟨⟨A₀, code, inn, m1, i1, gl1, r, out, m', i', gl'⟩, okC⟩ := W
 obtain ⟨e3, H⟩ := Told.onB H'
 simp only [fNews_eq] at H
 obtain ⟨ok, x⟩ := hgo _ _ _ _ _ _ _ H
 have ok := cons_inj ok
 refine ⟨ok.2, fun f h D => ?_⟩
 have a := AOkR.le e3
 obtain ⟨q1, q2, rfl, q3, rfl, rfl, rfl⟩ := Cm.ck_inj ok.1
 walk_at "dv"
 rintro r0 n0 m0 i0 gl0 h' ⟨rfl, rfl, rfl, rfl, rfl⟩ M hs
 exact x f h' ⟨M, hs⟩
def upN (b : Nat) (ρ : Names L) (x : (nthI L b).T) : Names L := fun j => if h : b = j then h ▸ x else ρ j
theorem upN_self (b : Nat) (ρ : Names L) (x : (nthI L b).T) : upN b ρ x b = x := by unfold upN; rw [dif_pos rfl]
theorem upN_ext (b : Nat) (ρ : Names L) (x : (nthI L b).T) : Ext b ρ (upN b ρ x) := fun j hj => by
 unfold upN
 rw [dif_neg]
 rintro rfl
 exact absurd (Nat.le_of_ble_eq_true hj) (Nat.lt_irrefl _)
theorem Ext.trans {b : Nat} {a c d : Names L} (h : Ext b a c) (h' : Ext b c d) : Ext b a d := fun j hj => (h' j hj).trans (h j hj)
theorem rany_good {b : Nat} {ρ₀ : Names L} {A : Around} {c' : Code} {b' : Nat} {is : List Nat} {k nn : Nat} {Sp : (ρ : Names L) → News → Nat → Nat → List GenState → WN V g₀ (Fx F b' ρ) (nthI L b').T}
  {go : Stk → Names L → Result → RRest} {G : Result → Shared → Prop} {news m i aL aR gl}
  (hgo : ∀ ρ₀ r news m i aL aR gl, (Told (b + 1) ρ₀ fun S ρ => go S ρ r news m i aL aR gl) → Then F (b + 1) ρ₀ aL aR (∀ h, ORep V h news m → G r (OSt V g₀ h i gl)))
  (H : Told b ρ₀ fun S ρ => rany V g₀ L F ρ b A c' b' is k nn Sp (go S ρ) news m i aL aR gl) : Then F b ρ₀ aL aR (∀ h, ORep V h news m → codeAny (model V.prog V.w) A c' G (OSt V g₀ h i gl)) := by
 obtain ⟨e1, H⟩ := Told.onB H
 obtain ⟨e2, H⟩ := Told.onB H
 have e2 := Nat.eq_of_beq_eq_true e2
 subst e2
 have H' : Told b' ρ₀ fun S ρ => match (Sp (trunc b' ρ₀) (k_addr% "bp") m i gl).D with
  | ⟨A₀, code, inn, m1, i1, gl1, P, r, out, m', i', gl'⟩ => onB (AOkR A₀ A) 21 <| fNews nn (out (ρ b')) fun out =>
    go S ρ (r (ρ b')) out (m' (ρ b')) (i' (ρ b')) (.pr (P (ρ b')) :: .ck A.handled (frOf A₀ A) c' (k_addr% "bp") m i gl :: aL) (.pr (nthF F b' (trunc (b' + 1) ρ)) :: .ck A₀.handled A₀.frames code inn m1 i1 gl1 :: aR) (gl' (ρ b')) := fun S ρ x => by
  rw [← trunc_ext x]; exact H S ρ x
 generalize Sp (trunc b' ρ₀) (k_addr% "bp") m i gl = W at H'
 obtain ⟨⟨A₀, code, inn, m1, i1, gl1, P, r, out, m', i', gl'⟩, okC⟩ := W
 obtain ⟨e3, H⟩ := Told.onB H'
 simp only [fNews_eq] at H
 have blt : Nat.blt b' (b' + 1) = true := Nat.ble_eq_true_of_le (Nat.le_refl _)
 have step : ∀ ρ₁, Ext b' ρ₀ ρ₁ → _ := fun ρ₁ e => hgo ρ₁ (r (ρ₁ b')) (out (ρ₁ b')) (m' (ρ₁ b')) (i' (ρ₁ b'))
  (.pr (P (ρ₁ b')) :: .ck A.handled (frOf A₀ A) c' (k_addr% "bp") m i gl :: aL) (.pr (nthF F b' (trunc (b' + 1) ρ₁)) :: .ck A₀.handled A₀.frames code inn m1 i1 gl1 :: aR) (gl' (ρ₁ b')) fun S ρ x => by
   have e' : ρ b' = ρ₁ b' := x b' blt
   rw [← e', ← trunc_ext x]
   exact H S ρ (e.trans (x.le (Nat.le_succ _)))
 have ok := cons_inj (cons_inj (step ρ₀ (.refl _ _)).1).2
 refine ⟨ok.2, fun f h D => ?_⟩
 have a := AOkR.le e3
 obtain ⟨q1, q2, rfl, q3, rfl, rfl, rfl⟩ := Cm.ck_inj ok.1
 walk_at "dv"
 rintro r0 n0 m0 i0 gl0 h' ⟨y, hy, rfl, rfl, rfl, rfl, rfl⟩ M hs
 have s1 := step (upN b' ρ₀ y) (upN_ext _ _ _)
 have eP := Cm.pr_inj (cons_inj s1.1).1
 rw [upN_self] at s1 eP
 refine s1.2 (fun ρ x j hj => ?_) h' ⟨M, hs⟩
 have hj' := Nat.le_of_ble_eq_true hj
 rcases Nat.lt_or_eq_of_le (Nat.le_of_succ_le_succ hj') with q | rfl
 ·exact f ρ ((upN_ext b' ρ₀ y).trans (x.le (Nat.le_succ _))) j (Nat.ble_eq_true_of_le q)
 ·rw [trunc_ext x, ← eP]; exact hy
theorem notB {x : Bool} (h : (!x) = true) : x = false := by cases x with | false => rfl | true => cases h
theorem upd_good {c : Code} {md : Option (List Frame)} {κ : Kont} {a : Addr} {p : Option Value} {f : Obj → Obj} {k : Unit → Sem PySem.Fin} {news : News} {m i : Nat} {gl : List GenState} {j : Nat} {y : Addr} {o : Obj} (e : news[j]? = some (y, o)) (ea : a = y) (hf : (f o).isFreed = false)
  (x : ∀ h, ORep V h (news.set j (y, f o)) m → MG V c md κ (k ()) (OSt V g₀ h i gl)) : ∀ h, ORep V h news m → MG V c md κ (.update a p f k) (OSt V g₀ h i gl) := by
 intro h D
 subst ea
 have ho := D.mm.at j _ _ e
 have D' : ORep V (h.update a f) (news.set j (a, f o)) m := ⟨D.mm.update e hf, by rw [(Heap.SameBut.update ..).1]; exact D.size⟩
 exact mg_update ho (x _ D')
theorem alloc_good {c : Code} {md : Option (List Frame)} {κ : Kont} {o : Obj} {k : Addr → Sem PySem.Fin} {news : News} {m i : Nat} {gl : List GenState} (hf : o.isFreed = false)
  (x : ∀ h, ORep V h ((m, o) :: news) (m + 1) → MG V c md κ (k m) (OSt V g₀ h i gl)) : ∀ h, ORep V h news m → MG V c md κ (.alloc o k) (OSt V g₀ h i gl) := by
 intro h D
 have D' : ORep V (h.push o) ((m, o) :: news) (m + 1) := ⟨by rw [← D.size]; exact D.mm.alloc hf, by rw [Heap.size_push, D.size]⟩
 have z := x _ D'
 rw [← D.size] at z
 exact mg_alloc z
theorem Told.bR {b : Nat} {ρ₀ : Names L} {x : Bool} {n : Nat} {f : Stk → Names L → RRest} {news m i aL aR gl} (H : Told b ρ₀ fun S ρ => Mine.bR x n (f S ρ) news m i aL aR gl) :
  x = true ∧ Told b ρ₀ fun S ρ => f S ρ news m i aL aR gl := Told.onB H
theorem Told.fCode {b : Nat} {ρ₀ : Names L} {c : Code} {f : Stk → Names L → Code → RRest} {news m i aL aR gl} (H : Told b ρ₀ fun S ρ => (Mine.fCode c (f S ρ)) news m i aL aR gl) :
  Told b ρ₀ fun S ρ => f S ρ c news m i aL aR gl := fun S ρ x => by have := H S ρ x; simp only [fCode_eq] at this; exact this
theorem Told.fFlow {b : Nat} {ρ₀ : Names L} {c : Flow} {f : Stk → Names L → Flow → RRest} {news m i aL aR gl} (H : Told b ρ₀ fun S ρ => (Mine.fFlow c (f S ρ)) news m i aL aR gl) :
  Told b ρ₀ fun S ρ => f S ρ c news m i aL aR gl := fun S ρ x => by have := H S ρ x; simp only [fFlow_eq] at this; exact this
theorem Told.fObj {b : Nat} {ρ₀ : Names L} {c : Obj} {f : Stk → Names L → Obj → Rs} (H : Told b ρ₀ fun S ρ => Mine.fObj c (f S ρ)) : Told b ρ₀ fun S ρ => f S ρ c := fun S ρ x => by have := H S ρ x; simp only [fObj_eq] at this; exact this
section
variable {b : Nat} {ρ₀ : Names L} {an : An3 V g₀ L F} {news : News} {m i : Nat} {aL aR : List Cm} {gl : List GenState} {C : Prop}
theorem Told.anCl {f : Stk → Names L → Nat → An3 V g₀ L F → RRest} {d : Stk → Names L → RRest} (H : Told b ρ₀ fun S ρ => Mine.anCl V g₀ L F an (f S ρ) (d S ρ) news m i aL aR gl)
  (h1 : ∀ j an, (Told b ρ₀ fun S ρ => f S ρ j an news m i aL aR gl) → C) (h0 : (k_addr% "ei") → C) : C := by
 cases an with
 | cell => exact h1 _ _ H
 | _ => exact h0 H
theorem Told.anG {f : Stk → Names L → An3 V g₀ L F → RRest} {d : Stk → Names L → RRest} (H : Told b ρ₀ fun S ρ => Mine.anG V g₀ L F an (f S ρ) (d S ρ) news m i aL aR gl)
  (h1 : ∀ an, (Told b ρ₀ fun S ρ => f S ρ an news m i aL aR gl) → C) (h0 : (k_addr% "ei") → C) : C := by
 cases an with
 | go => exact h1 _ H
 | _ => exact h0 H
theorem Told.anLd (K : V.kt.Holds V.h₀ 1 0) {a : Addr} {f : Stk → Names L → Obj → An3 V g₀ L F → RRest} {d : Stk → Names L → RRest} {P : Heap → Prop}
  (H : Told b ρ₀ fun S ρ => Mine.anLd V g₀ L F ρ b a an (f S ρ) (d S ρ) news m i aL aR gl)
  (h1 : ∀ o an aL aR, (Told b ρ₀ fun S ρ => f S ρ o an news m i aL aR gl) → Then F b ρ₀ aL aR (∀ h, ORep V h news m → h.get? a = some o → P h))
  (h0 : (k_addr% "ei") → Then F b ρ₀ aL aR (∀ h, ORep V h news m → P h)) : Then F b ρ₀ aL aR (∀ h, ORep V h news m → P h) := by
 cases an with
 | cell j an =>
   obtain ⟨y, o, e, H⟩ := Told.onCell H
   obtain ⟨ok, x⟩ := h1 _ _ _ _ H
   have ok := cons_inj ok
   exact ⟨ok.2, fun f h D => x f h D (by rw [Cm.ad_inj ok.1]; exact D.mm.at j _ _ e)⟩
 | top an =>
   obtain ⟨o, e, H⟩ := Told.onTop H
   exact (h1 _ _ _ _ H).imp id fun x f h D => x f h D (kt_top K D e)
 | got b' j G an =>
   obtain ⟨e, H⟩ := Told.onB H
   have e := Nat.eq_of_beq_eq_true e
   subst e
   have H' : Told b' ρ₀ fun S ρ => onGot (G (trunc b' ρ₀)) fun T x o => f S ρ o an news m i (.gt (news.drop j) a :: aL) (.gt T x :: aR) gl := fun S ρ x => by rw [← trunc_ext x]; exact H S ρ x
   generalize G (trunc b' ρ₀) = W at H'
   obtain ⟨T, y, o, mem⟩ := W
   obtain ⟨ok, x⟩ := h1 _ _ _ _ H'
   have ok := cons_inj ok
   obtain ⟨rfl, rfl⟩ := Cm.gt_inj ok.1
   exact ⟨ok.2, fun f h D => x f h D (got_at D (mem (Fx.trunc (f ρ₀ (.refl _ _)))))⟩
 | _ => exact h0 H
theorem Told.anCa {A : Around} {c' : Code} {go : Stk → Names L → An3 V g₀ L F → RRest} {f : Stk → Names L → Nat → An3 V g₀ L F → Result → RRest} {d : Stk → Names L → RRest} {G : Result → Shared → Prop} {P : Heap → Prop}
  (H : Told b ρ₀ fun S ρ => Mine.anCa V g₀ L F ρ b A c' an (go S ρ) (f S ρ) (d S ρ) news m i aL aR gl)
  (hg : ∀ an, (Told b ρ₀ fun S ρ => go S ρ an news m i aL aR gl) → Then F b ρ₀ aL aR (∀ h, ORep V h news m → P h))
  (hc : ∀ b ρ₀ an r news m i aL aR gl, (Told b ρ₀ fun S ρ => f S ρ b an r news m i aL aR gl) → Then F b ρ₀ aL aR (∀ h, ORep V h news m → G r (OSt V g₀ h i gl)))
  (hG : ∀ h, ORep V h news m → codeAny (model V.prog V.w) A c' G (OSt V g₀ h i gl) → P h)
  (h0 : (k_addr% "ei") → Then F b ρ₀ aL aR (∀ h, ORep V h news m → P h)) : Then F b ρ₀ aL aR (∀ h, ORep V h news m → P h) := by
 cases an with
 | go an => exact hg _ H
 | one b' is k nn Sp an => exact (rone_good (fun r news m i aL aR gl H => hc _ _ _ _ _ _ _ _ _ _ H) H).imp id fun x f h D => hG h D (x f h D)
 | any b' is k nn Sp an => exact (rany_good (fun ρ₀ r news m i aL aR gl H => hc _ _ _ _ _ _ _ _ _ _ H) H).imp id fun x f h D => hG h D (x f h D)
 | _ => exact h0 H
end
include IH
theorem rstep0_good (K : V.kt.Holds V.h₀ 1 0) {par : Params} (hpar : V.w.params = par) {n : Nat} : RGood V g₀ L F (rstep0 V g₀ L F g₀.length par (RM V g₀) (RE V g₀) (RW_ V g₀) n ih) := by
 intro an b ρ₀ c md κ t news m i aL aR gl H
 cases t with
 | pure fin =>
   cases fin with
   | done f => exact rret_good IH rfl (Told.fFlow H)
   | again c' =>
     cases md with
     | none =>
       obtain ⟨q, H⟩ := Told.bR (Told.fCode H)
       exact Told.anCa H (fun an H => (k_addr% "ap").imp id fun x f h D => mg_againGo q (denS_means (x f h D)))
        (fun b ρ₀ an r news m i aL aR gl H => rback_good IH H) (fun h D x => mg_again q x) rleft_good
     | some fs =>
       obtain ⟨q, H⟩ := Told.bR (Told.fCode H)
       exact Told.anG H (fun an H => (k_addr% "ap").imp id fun x f h D => mg_againS q (x f h D)) rleft_good
 | raise e => exact rret_good IH rfl H
 | rule tag k => walk_at "dH"
 | «at» q k => walk_at "dH"
 | point l k => walk_at "dH"
 | ask k => exact (k_addr% "ap").imp id fun x f h D => mg_skim 1 (by have y := x f h D; rw [← hpar] at y; exact y)
 | fresh k => exact (k_addr% "ap").imp id fun x f h D => mg_fresh (x f h D)
 | load a p k => exact Told.anLd K H (fun o an aL aR H => (k_addr% "ap").imp id fun x f h D e => mg_load e (x f h D)) rleft_good
 | loadIfAlive a k => exact Told.anLd K H (fun o an aL aR H => (k_addr% "ap").imp id fun x f h D e => mg_alive e (x f h D)) rleft_good
 | update a p f k =>
   refine Told.anCl H (fun j an H => ?_) rleft_good
   obtain ⟨y, o, e, H⟩ := Told.onCell H
   obtain ⟨hf, H⟩ := Told.onB H
   obtain ⟨ok, x⟩ := IH _ _ _ _ _ _ _ _ _ _ _ _ _ (Told.fObj H)
   have ok := cons_inj ok
   exact ⟨ok.2, fun q => upd_good e (Cm.ad_inj ok.1) (notB hf) (x q)⟩
 | alloc o k =>
   obtain ⟨hf, H⟩ := Told.onB H
   exact (IH _ _ _ _ _ _ _ _ _ _ _ _ _ (Told.fObj H)).imp id fun x f => alloc_good (notB hf) (x f)
 | handled own k =>
   cases own with
   | true => exact rleft_good H
   | false =>
     cases md with
     | none => exact (k_addr% "ap").imp id fun x f h D => mg_handled (x f h D)
     | some fs => exact (k_addr% "ap").imp id fun x f h D => mg_handledS (x f h D)
 | call c' hd g l k =>
   cases md with
   | none =>
     obtain ⟨q, H⟩ := Told.bR (Told.fCode H)
     exact Told.anCa H (fun an H => by
      obtain ⟨qf, H⟩ := Told.bR H
      exact (k_addr% "ap").imp id fun x f h D => mg_callGo q qf (denS_means (κ := .ret c hd k κ) (x f h D)))
      (fun b ρ₀ an r news m i aL aR gl H => (k_addr% "ap").imp id fun x f h D => mg_back (x f h D)) (fun h D x => mg_call q x) rleft_good
   | some fs =>
     have H := Told.fCode H
     have hg : ∀ an, (Told b ρ₀ fun S ρ => ih S.tail ρ an b c' (some (.ret k hd g l c (S 0).1 [] :: fs)) κ (denote table c') news m i aL aR gl) →
       Then F b ρ₀ aL aR (∀ h, ORep V h news m → MG V c (some fs) κ (.call c' hd g l k) (OSt V g₀ h i gl)) := fun an H => by
      have H' : ∀ p : Pos, Then F b ρ₀ aL aR (∀ h, ORep V h news m → MG V c' (some (.ret k hd g l c p [] :: fs)) κ (denote table c') (OSt V g₀ h i gl)) := fun p =>
       IH an b ρ₀ c' (some (.ret k hd g l c p [] :: fs)) κ (denote table c') news m i aL aR gl fun S ρ x => H (Stk.cons (p, []) S) ρ x
      exact ⟨(H' default).1, fun f h D => mg_callF fun p => (H' p).2 f h D⟩
     cases q : okMark hd with
     | true =>
       simp only [q] at H
       exact Told.anCa (G := fun r s => V.t₀ = 0 → postSg V.prog V.w (aroundOf V false κ) c fs (wakeOf V κ) k r s) H hg (fun b ρ₀ an r news m i aL aR gl H => (k_addr% "ap").imp id fun x f h D z => mg_backS z (x f h D)) (fun h D x => mg_callS q fun z => codeAny_mono x fun _ _ y => y z) rleft_good
     | false =>
       simp only [q] at H
       exact Told.anG H hg rleft_good
 | newGen c' k => exact (k_addr% "ap").imp id fun x f h D => mg_newGen (x f h D)
 | genState g k =>
   refine Told.anCl H (fun j an H => ?_) rleft_good
   obtain ⟨gs, e, H⟩ := Told.onGen H
   walk_at "cW"
   have ok := cons_inj ok
   exact ⟨ok.2, fun f h D => mg_genState (gen_at e (Cm.ad_inj ok.1)) (x f h D)⟩
 | unsupported w => exact rleft_good H
 | finish e => exact rleft_good H
 | register a k => exact rleft_good H
 | choose s x k => exact rleft_good H
 | os q l k => exact rleft_good H
 | fork x k => exact rleft_good H
 | thread k => exact rleft_good H
 | await a f tt l k => exact rleft_good H
 | stack k =>
   refine Told.anG H (fun an H => ?_) rleft_good
   have H' : ∀ (p : Pos) (below : List (Code × Pos)), Then F b ρ₀ aL aR (∀ h, ORep V h news m → MG V c md κ (k ((c, p) :: below)) (OSt V g₀ h i gl)) := fun p below =>
    IH an b ρ₀ c md κ (k ((c, p) :: below)) news m i aL aR gl fun S ρ x => H (Stk.cons (p, below) S) ρ x
   exact ⟨(H' default []).1, fun f h D => mg_stack fun p below _ => (H' p below).2 f h D⟩
 | resume g r l k =>
   cases md with
   | some fs => exact rleft_good H
   | none =>
     refine Told.anCl H (fun j an H => ?_) rleft_good
     obtain ⟨qg, H⟩ := Told.onB H
     have qg := genOk_is qg
     obtain ⟨gs, e, H⟩ := Told.onGen H
     cases gs with
     | fresh c₀ =>
       cases r with
       | throw => exact Told.nay H
       | send v =>
         cases v with
         | none =>
           walk_at "cW"
           have ok := cons_inj ok
           have eg := Cm.ad_inj ok.1
           exact ⟨ok.2, fun f h D => mg_resume_f qg (gen_at e eg) (by have y := x f h D; rw [← setGen_gcat, ← eg] at y; exact y)⟩
         | _ => exact Told.nay H
     | suspended k₀ l₀ c₀ p₀ fs₀ cl =>
       walk_at "cW"
       have ok := cons_inj ok
       have eg := Cm.ad_inj ok.1
       exact ⟨ok.2, fun f h D => mg_resume_s qg (gen_at e eg) (by have y := x f h D; rw [← setGen_gcat, ← eg] at y; exact y)⟩
     | _ => exact Told.nay H
 | «yield» v gd l k =>
   cases md with
   | none => exact rleft_good H
   | some fs =>
     cases gd with
     | true => exact rleft_good H
     | false =>
       cases κ with
       | gen g c₁ k₁ κ₁ =>
         refine Told.anCl H (fun j an H => ?_) rleft_good
         obtain ⟨e1, H⟩ := Told.onB H
         obtain ⟨e2, H⟩ := Told.onB H
         have H' : ∀ p : Pos, Then F b ρ₀ (.ad g :: aL) (.ad (g₀.length + j) :: aR) (∀ h, ORep V h news m → MG V c₁ none κ₁ (k₁ (End.susp v false l k c p fs).result) (OSt V g₀ h i (gl.set j (End.susp v false l k c p fs).genState))) := fun p =>
          IH an b ρ₀ c₁ none κ₁ _ news m i _ _ _ fun S ρ x => H (Stk.cons (p, []) S) ρ x
         have ok := cons_inj (H' default).1
         have eg := Cm.ad_inj ok.1
         exact ⟨ok.2, fun f h D => mg_yield (Option.isNone_iff_eq_none.mp e1) (notB e2) fun p => mg_wake (by rw [eg, setGen_gcat]; exact (H' p).2 f h D)⟩
       | _ => exact rleft_good H
include IH
theorem rlax_good {an : An3 V g₀ L F} {b : Nat} {ρ₀ : Names L} {c : Code} {md : Option (List Frame)} {κ : Kont} {t : Sem PySem.Fin} {news m i aL aR gl}
  (H : Told b ρ₀ fun S ρ => rlax V g₀ L F ih S ρ an b c md κ t news m i aL aR gl) : Then F b ρ₀ aL aR (k_addr% "bM") := by
 cases t with
 | alloc o k =>
   obtain ⟨hf, H⟩ := Told.onB H
   exact (k_addr% "ap").imp id fun x f => alloc_good (notB hf) (x f)
 | update a p f k =>
   cases an with
   | cell j an =>
     obtain ⟨y, o, e, H⟩ := Told.onCell H
     obtain ⟨hf, H⟩ := Told.onB H
     walk_at "cW"
     have ok := cons_inj ok
     exact ⟨ok.2, fun q => upd_good e (Cm.ad_inj ok.1) (notB hf) (x q)⟩
   | _ => exact Told.nay H
 | _ => exact Told.nay H
theorem rstk_good {an : An3 V g₀ L F} {b : Nat} {ρ₀ : Names L} {b' : Nat} {f : (nthI L b').T → Pos × List (Code × Pos)} {g : Pos × List (Code × Pos) → (nthI L b').T} (fg : ∀ y, f (g y) = y) {c : Code} {md : Option (List Frame)} {κ : Kont} {t : Sem PySem.Fin} {news m i aL aR gl}
  (H : Told b ρ₀ fun S ρ => rstk V g₀ L F ih S ρ an b b' f c md κ t news m i aL aR gl) : Then F b ρ₀ aL aR (k_addr% "bM") := by
 cases t with
 | stack k =>
   obtain ⟨e2, H⟩ := Told.onB H
   have e2 := Nat.eq_of_beq_eq_true e2
   subst e2
   have blt : Nat.blt b' (b' + 1) = true := Nat.ble_eq_true_of_le (Nat.le_refl _)
   have step : ∀ ρ₁, Ext b' ρ₀ ρ₁ → _ := fun ρ₁ e => IH an (b' + 1) ρ₁ c md κ (k ((c, (f (ρ₁ b')).1) :: (f (ρ₁ b')).2)) news m i
    (.pr (LiesG V (aroundAt V c md κ) ((c, (f (ρ₁ b')).1) :: (f (ρ₁ b')).2)) :: aL) (.pr (nthF F b' (trunc (b' + 1) ρ₁)) :: aR) gl fun S ρ x => by
     have e' : ρ b' = ρ₁ b' := x b' blt
     rw [← e', ← trunc_ext x]
     exact H S ρ (e.trans (x.le (Nat.le_succ _)))
   refine ⟨(cons_inj (step ρ₀ (.refl _ _)).1).2, fun q h D => ?_⟩
   have fin : ∀ (p : Pos) (below : List (Code × Pos)), LiesG V (aroundAt V c md κ) ((c, p) :: below) → MG V c md κ (k ((c, p) :: below)) (OSt V g₀ h i gl) := fun p below l => by
    have s1 := step (upN b' ρ₀ (g (p, below))) (upN_ext _ _ _)
    have eP := Cm.pr_inj (cons_inj s1.1).1
    rw [upN_self, fg] at s1 eP
    refine s1.2 (fun ρ x j hj => ?_) h D
    have hj' := Nat.le_of_ble_eq_true hj
    rcases Nat.lt_or_eq_of_le (Nat.le_of_succ_le_succ hj') with z | rfl
    ·exact q ρ ((upN_ext b' ρ₀ _).trans (x.le (Nat.le_succ _))) j (Nat.ble_eq_true_of_le z)
    ·rw [trunc_ext x, ← eP]; exact l
   exact mg_stack fun p below l => fin p below (by cases md <;> exact l)
 | _ => exact Told.nay H
omit IH
theorem Told.onWd {b : Nat} {ρ₀ : Names L} {H0 : Prop} {g : WD V H0} {f : Stk → Names L → List (Nat × Addr) → Sem PySem.Fin → Sem PySem.Fin → Rs} (H : Told b ρ₀ fun S ρ => Mine.onWd V g (f S ρ)) :
  Told b ρ₀ fun S ρ => f S ρ g.ix (g.F g.a) (g.F g.b) := H
include IH
theorem rstep_good (K : V.kt.Holds V.h₀ 1 0) {par : Params} (hpar : V.w.params = par) {n : Nat} : RGood V g₀ L F (rstep V g₀ L F g₀.length par (RM V g₀) (RE V g₀) (RW_ V g₀) n ih) := by
 intro an b ρ₀ c md κ t news m i aL aR gl H
 cases an with
 | skip k an =>
   cases k with
   | zero => exact IH _ _ _ _ _ _ _ _ _ _ _ _ _ H
   | succ k => exact rstep0_good IH K hpar _ _ _ _ _ _ _ _ _ _ _ _ _ H
 | lax an => exact rlax_good IH H
 | stk b' f g e an => exact rstk_good IH e H
 | wd b' G an =>
   obtain ⟨e, H⟩ := Told.onB H
   have e := Nat.eq_of_beq_eq_true e
   subst e
   have H' : Told b' ρ₀ fun S ρ => onWd V (G (trunc b' ρ₀)) fun ix t1 t2 =>
     ih S ρ an b' c md κ t2 news m i (.ix (ix.map fun p => (news[p.1]?).map Prod.fst) :: .tr t :: aL) (.ix (ix.map fun p => some p.2) :: .tr t1 :: aR) gl := fun S ρ x => by rw [← trunc_ext x]; exact H S ρ x
   have H2 := Told.onWd H'
   obtain ⟨ok, x⟩ := IH _ _ _ _ _ _ _ _ _ _ _ _ _ H2
   have o1 := cons_inj ok
   have o2 := cons_inj o1.2
   refine ⟨o2.2, fun f h D => ?_⟩
   have et := Cm.tr_inj o2.1
   have ei := Cm.ix_inj o1.1
   rw [et, (G (trunc b' ρ₀)).ok (Fx.trunc (f ρ₀ (.refl _ _))) ⟨h, news, m, D, List.map_inj_left.mp ei⟩]
   exact x f h D
 | _ => exact rstep0_good IH K hpar _ _ _ _ _ _ _ _ _ _ _ _ _ H
omit IH
theorem CellsAt.ne {p q : Nat} {a b : Addr} (C : CellsAt V [(p, a), (q, b)]) (pq : Nat.beq p q = false) : a ≠ b := by
 obtain ⟨h, news, m, D, C⟩ := C
 have h1 := C (p, a) (.head _)
 have h2 := C (q, b) (.tail _ (.head _))
 simp only [Option.map_eq_some_iff] at h1 h2
 obtain ⟨⟨_, oa⟩, e1, rfl⟩ := h1
 obtain ⟨⟨_, ob⟩, e2, rfl⟩ := h2
 exact D.mm.ne p q _ _ oa ob e1 e2 pq
theorem CellsAt.old (K : V.kt.Holds V.h₀ 1 0) {p : Nat} {a b : Addr} {ob : Obj} (C : CellsAt V [(p, a)]) (hk : V.kt.get b = some ob) : a ≠ b := by
 obtain ⟨h, news, m, D, C⟩ := C
 have h1 := C (p, a) (.head _)
 simp only [Option.map_eq_some_iff] at h1
 obtain ⟨⟨_, oa⟩, e1, rfl⟩ := h1
 exact D.mm.ne_old p _ oa e1 b ob (by have z := KT.Holds.get K hk; rwa [Nat.one_mul, Nat.add_zero] at z)
theorem dec_no {p : Prop} (α : Type) (d : Decidable p) (A : p → α) (B : α) (h : ¬ p) : @Decidable.rec p (fun _ => α) (fun _ => B) A d = B := by
 cases d with
 | isFalse _ => rfl
 | isTrue q => exact absurd q h
theorem dec_yes {p : Prop} (α : Type) (d : Decidable p) (A : α) (B : ¬ p → α) (h : p) : @Decidable.rec p (fun _ => α) B (fun _ => A) d = A := by
 cases d with
 | isFalse q => exact absurd h q
 | isTrue _ => rfl
noncomputable def WD.no (V : XV) (H : Prop) (ix : List (Nat × Addr)) (p : Prop) (α : Type) (d : Decidable p) (A : p → α) (B : α) (F : α → Sem PySem.Fin) (h : H → CellsAt V ix → ¬ p) : WD V H :=
 ⟨ix, α, @Decidable.rec p (fun _ => α) (fun _ => B) A d, B, F, fun x c => dec_no α d A B (h x c)⟩
noncomputable def WD.yes (V : XV) (H : Prop) (ix : List (Nat × Addr)) (p : Prop) (α : Type) (d : Decidable p) (A : α) (B : ¬ p → α) (F : α → Sem PySem.Fin) (h : H → CellsAt V ix → p) : WD V H :=
 ⟨ix, α, @Decidable.rec p (fun _ => α) B (fun _ => A) d, A, F, fun x c => dec_yes α d A B (h x c)⟩
theorem simR_good (K : V.kt.Holds V.h₀ 1 0) {par : Params} (hpar : V.w.params = par) : ∀ n, RGood V g₀ L F (simR V g₀ L F g₀.length par (RM V g₀) (RE V g₀) (RW_ V g₀) n)
 | 0 => fun _ _ _ _ _ _ _ _ _ _ _ _ _ H => rleft_good H
 | n + 1 => rstep_good (simR_good K hpar n) K hpar
theorem simR_run (K : V.kt.Holds V.h₀ 1 0) {par : Params} (hpar : V.w.params = par) (n : Nat) (an : An3 V g₀ L F) (c : Code) (md : Option (List Frame)) (κ : Kont) (t : Sem PySem.Fin) (news : List (Addr × Obj)) (m i : Nat) (gl : List GenState)
  (H : ∀ S ρ, (simR V g₀ L F g₀.length par (RM V g₀) (RE V g₀) (RW_ V g₀) n S ρ an 0 c md κ t news m i [] [] gl).Ok) (k : Nat) : RM V g₀ k c md κ t news m i gl :=
 (simR_good K hpar n an 0 (fun j => (nthI L j).x) c md κ t news m i [] [] gl fun S ρ _ => H S ρ).2 fun _ _ j hj => (nomatch hj)
end
end Mine
namespace Mine
theorem simQ_self : @Mine.simQ = @Mine.simQ := rfl
theorem simR_self : @Mine.simR = @Mine.simR := rfl
theorem denS_self : @Mine.denS = @Mine.denS := rfl
end Mine
lay_z Mine.simQ Mine.simR Mine.denS
name_z mineQ for Mine.simQ by Mine.simQ_self
name_z mineR for Mine.simR by Mine.simR_self
name_z mineDS for Mine.denS by Mine.denS_self
namespace Mine
open PySem PySem.Spec PySem.Calls PyProof.Rows PySem.W PySem.W.X
section
variable {V : XV} {g₀ : List GenState} {L : List IT} {F : List (Names L → Prop)}
structure Job (V : XV) (g₀ : List GenState) (L : List IT) (F : List (Names L → Prop)) where
 par : Params
 an : An3 V g₀ L F
 c : Code
 md : Option (List Frame)
 κ : Kont
 t : Sem PySem.Fin
 news : News
 m : Nat
 i : Nat
 gl : List GenState
noncomputable def Job.run (n : Nat) (J : Job V g₀ L F) (S : Stk) (ρ : Names L) : Rs := PySem.W.ZFast.mineR V g₀ L F g₀.length J.par (RM V g₀) (RE V g₀) (RW_ V g₀) n S ρ J.an 0 J.c J.md J.κ J.t J.news J.m J.i [] [] J.gl
noncomputable def Job.one (n : Nat) (J : Job V g₀ L F) (T : Stk → Names L → Prop) : Stk → Names L → List Cm × Prop := fun S ρ => ((J.run n S ρ).l, T S ρ)
noncomputable def Job.two (n : Nat) (J : Job V g₀ L F) : Stk → Names L → List Cm × Prop := fun S ρ => ((J.run n S ρ).r, (J.run n S ρ).leaf)
theorem runR1 (K : V.kt.Holds V.h₀ 1 0) (J : Job V g₀ L F) (hpar : V.w.params = J.par) (n k : Nat) (T : Stk → Names L → Prop)
  (h : J.one n T = J.two n) (g : ∀ S ρ, T S ρ) : RM V g₀ k J.c J.md J.κ J.t J.news J.m J.i J.gl := by
 have ok : ∀ S ρ, (J.run n S ρ).Ok := fun S ρ => by
  have e := congrFun (congrFun h S) ρ
  refine ⟨congrArg Prod.fst e, ?_⟩
  have e2 : T S ρ = (J.run n S ρ).leaf := congrArg Prod.snd e
  rw [← e2]; exact g S ρ
 refine simR_run K hpar n J.an _ _ _ _ _ _ _ _ (fun S ρ => ?_) k
 rw [PySem.W.ZFast.mineR_eq]
 exact ok S ρ
theorem runR (K : V.kt.Holds V.h₀ 1 0) (J : Bool → Job V g₀ L F) (b : Bool) (hpar : V.w.params = (J b).par) (n k : Nat) (T : Bool → Stk → Names L → Prop)
  (h1 : (J true).one n (T true) = (J true).two n) (h0 : (J false).one n (T false) = (J false).two n) (g : ∀ S ρ, T b S ρ) :
  RM V g₀ k (J b).c (J b).md (J b).κ (J b).t (J b).news (J b).m (J b).i (J b).gl :=
 runR1 K (J b) hpar n k (T b) (by cases b with | true => exact h1 | false => exact h0) g
theorem startQ {prog : Program} {w : World} {h₀ : Heap} {kt : KT} {A : Around} {R : Result → Shared → Prop} {d : Drawn} {os : OsState} {c : Code} {s : Shared}
  (x : Means ⟨prog, w, h₀, 0, kt, [], A, R, d, 0, os⟩ c none .base (PySem.W.ZFast.mineDS (A.under c) c) s) : codeAny (model prog w) A c R s := by
 rw [← PySem.W.ZFast.mineDS_eq] at x
 exact mean_start (denS_le x)
theorem Ctr.ofQ {prog : Program} {w : World} {h₀ : Heap} {d : Drawn} {os : OsState} {g₀ : List GenState} {A : Around} {c : Code} {news : News} {m i : Nat} {gl : List GenState} {Q : Post} (kt : KT)
  (x : ∀ R, (∀ n r news' m' i' gl', Q r news' m' i' gl' → RE ⟨prog, w, h₀, 0, kt, [], A, R, d, 0, os⟩ g₀ n r news' m' i' gl') →
   RM ⟨prog, w, h₀, 0, kt, [], A, R, d, 0, os⟩ g₀ 0 c none .base (PySem.W.ZFast.mineDS (A.under c) c) news m i gl) : Ctr prog w h₀ d os g₀ A c news m i gl Q := by
 intro h R M hs H
 exact startQ (kt := kt) ((x R (fun n r news' m' i' gl' q h' D => H r news' m' i' gl' h' q D.mm D.size) h ⟨M, hs⟩).1 rfl)
end
def putL : News → Addr → Obj → News
 | [], _, _ => []
 | p :: T, a, o => if p.1 = a then (a, o) :: T else p :: putL T a o
theorem getL_of_mem {T : News} {a : Addr} {o : Obj} (nd : (T.map Prod.fst).Nodup) (h : (a, o) ∈ T) : getL T a = some o := by
 induction T with
 | nil => cases h
 | cons p T ih =>
   walk_at "du"
   unfold getL
   walk_at "ea"
   ·rw [if_pos rfl]
   ·rw [if_neg]
    ·exact ih nd.2 h
    ·intro e
     exact nd.1 (by rw [e]; exact List.mem_map_of_mem (f := Prod.fst) h)
theorem putL_fst (T : News) (a : Addr) (o : Obj) : (putL T a o).map Prod.fst = T.map Prod.fst := by
 induction T with
 | nil => rfl
 | cons p T ih =>
   unfold putL
   split
   ·rename_i e; simp [e]
   ·simp [ih]
theorem getL_put_self {T : News} {a : Addr} {o o' : Obj} (h : getL T a = some o) : getL (putL T a o') a = some o' := by
 induction T with
 | nil => cases h
 | cons p T ih =>
   unfold getL at h
   unfold putL
   split at h
   ·rename_i e; rw [if_pos e]; unfold getL; rw [if_pos rfl]
   ·rename_i e; rw [if_neg e]; unfold getL; rw [if_neg e]; exact ih h
theorem getL_put_ne {T : News} {a b : Addr} {o' : Obj} {r : Option Obj} (e : a ≠ b) (h : getL T b = r) : getL (putL T a o') b = r := by
 subst h
 induction T with
 | nil => rfl
 | cons p T ih =>
   unfold putL
   split
   ·rename_i q
    unfold getL
    rw [if_neg (show ¬ (a, o').1 = b from e), if_neg (show ¬ p.1 = b from q ▸ e)]
   ·unfold getL
    rw [ih]
theorem putL_mem {T : News} {a : Addr} {o' : Obj} {p : Addr × Obj} (nd : (T.map Prod.fst).Nodup) (h : p ∈ putL T a o') : p = (a, o') ∨ (p ∈ T ∧ p.1 ≠ a) := by
 induction T with
 | nil => cases h
 | cons q T ih =>
   walk_at "du"
   unfold putL at h
   split at h
   ·rename_i e
    walk_at "ea"
    ·exact .inl rfl
    ·refine .inr ⟨.tail _ h, fun e' => nd.1 ?_⟩
     rw [e, ← e']; exact List.mem_map_of_mem (f := Prod.fst) h
   ·rename_i e
    walk_at "ea"
    ·exact .inr ⟨.head _, e⟩
    ·rcases ih nd.2 h with h | ⟨h1, h2⟩
     ·exact .inl h
     ·exact .inr ⟨.tail _ h1, h2⟩
def offL (T : News) (a : Addr) : News := T.filter fun p => !decide (p.1 = a)
theorem offL_mem {T : News} {a : Addr} {p : Addr × Obj} : p ∈ offL T a ↔ p ∈ T ∧ p.1 ≠ a := by simp [offL]
section
variable {h₀ h : Heap} {T R : News} {a : Addr} {o o' : Obj}
theorem Mm.out (M : Mm h₀ h (R ++ T)) (e : getL T a = some o) : Mm h₀ h ((a, o) :: (R ++ offL T a)) := by
 have hm := getL_mem e
 refine M.sub (fun p hp => ?_) ?_
 ·walk_at "dz"
  ·exact List.mem_append.mpr (.inr hm)
  ·walk_at "eP"
   ·exact List.mem_append.mpr (.inl hp)
   ·exact List.mem_append.mpr (.inr (offL_mem.mp hp).1)
 ·have nd := M.nd
  rw [List.map_append, List.nodup_append] at nd
  rw [List.map_cons, List.nodup_cons]
  constructor
  ·intro hq
   obtain ⟨p, hp, ep⟩ := List.mem_map.mp hq
   walk_at "eP"
   ·exact nd.2.2 p.1 (List.mem_map_of_mem (f := Prod.fst) hp) a (List.mem_map_of_mem (f := Prod.fst) hm) ep
   ·exact (offL_mem.mp hp).2 ep
  ·rw [List.map_append, List.nodup_append]
   refine ⟨nd.1, ?_, fun x hx y hy => ?_⟩
   ·exact List.Nodup.sublist ((show (offL T a).Sublist T from List.filter_sublist).map Prod.fst) nd.2.1
   ·obtain ⟨q, hq, rfl⟩ := List.mem_map.mp hy
    exact nd.2.2 x hx q.1 (List.mem_map_of_mem (f := Prod.fst) (offL_mem.mp hq).1)
theorem Mm.back {h' : Heap} {N : News} (M₀ : Mm h₀ h (R ++ T)) (e : getL T a = some o) (M : Mm h₀ h' (N ++ (a, o') :: (R ++ offL T a))) : Mm h₀ h' (N ++ (R ++ putL T a o')) := by
 have nd0 := M₀.nd
 rw [List.map_append] at nd0
 have ndT := (List.nodup_append.mp nd0).2.1
 refine M.sub (fun p hp => ?_) ?_
 ·walk_at "eP"
  ·exact List.mem_append.mpr (.inl hp)
  ·walk_at "eP"
   ·exact List.mem_append.mpr (.inr (.tail _ (List.mem_append.mpr (.inl hp))))
   ·rcases putL_mem ndT hp with rfl | ⟨h1, h2⟩
    ·exact List.mem_append.mpr (.inr (.head _))
    ·exact List.mem_append.mpr (.inr (.tail _ (List.mem_append.mpr (.inr (offL_mem.mpr ⟨h1, h2⟩)))))
 ·have nd := M.nd
  rw [List.map_append, List.nodup_append] at nd
  rw [List.map_append, List.nodup_append]
  refine ⟨nd.1, by rw [List.map_append, putL_fst]; exact nd0, fun x hx y hy => ?_⟩
  rw [List.map_append, putL_fst] at hy
  refine nd.2.2 x hx y ?_
  rw [List.map_cons, List.map_append]
  rcases List.mem_append.mp hy with hy | hy
  ·exact .tail _ (List.mem_append.mpr (.inl hy))
  ·obtain ⟨q, hq, rfl⟩ := List.mem_map.mp hy
   by_cases eq : q.1 = a
   ·rw [eq]; exact .head _
   ·exact .tail _ (List.mem_append.mpr (.inr (List.mem_map_of_mem (f := Prod.fst) (offL_mem.mpr ⟨hq, eq⟩))))
theorem putL_same {T : News} (nd : (T.map Prod.fst).Nodup) (e : getL T a = some o) : putL T a o = T := by
 induction T with
 | nil => rfl
 | cons p T ih =>
   unfold getL at e
   unfold putL
   split at e
   ·rename_i q
    rw [if_pos q]
    cases e
    obtain ⟨x, y⟩ := p
    simp only at q
    subst q; rfl
   ·rename_i q
    rw [if_neg q, ih (List.nodup_cons.mp nd).2 e]
theorem Mm.again' {h' : Heap} {N : News} (M₀ : Mm h₀ h (R ++ T)) (e : getL T a = some o) (M : Mm h₀ h' (N ++ (a, o) :: (R ++ offL T a))) : Mm h₀ h' (N ++ (R ++ T)) := by
 have z := Mm.back M₀ e M
 have nd0 := M₀.nd
 rw [List.map_append] at nd0
 rwa [putL_same (List.nodup_append.mp nd0).2.1 e] at z
end
section
variable {prog : Program} {w : World} {h₀ : Heap} {d : Drawn} {os : OsState} {g₀ : List GenState} {A : Around} {c : Code} {m i m' i' : Nat} {gl gl' : List GenState} {a : Addr} {o o' : Obj} {R T : News} {v : Value}
theorem Ctr.write (e : getL T a = some o) (x : ∀ rest, Ctr prog w h₀ d os g₀ A c ((a, o) :: rest) m i gl (oneQ v ((a, o') :: rest) m' i' gl')) :
  Ctr prog w h₀ d os g₀ A c (R ++ T) m i gl (oneQ v (R ++ putL T a o') m' i' gl') := by
 intro h RR M hs H
 refine x (R ++ offL T a) h RR (M.out e) hs ?_
 walk_at "cc"
 exact H _ _ _ _ _ h' ⟨rfl, rfl, rfl, rfl, rfl⟩ (Mm.back (N := []) M e M') hs'
theorem Ctr.read (e : getL T a = some o) (x : ∀ rest, Ctr prog w h₀ d os g₀ A c ((a, o) :: rest) m i gl (oneQ v ((a, o) :: rest) m' i' gl')) :
  Ctr prog w h₀ d os g₀ A c (R ++ T) m i gl (oneQ v (R ++ T) m' i' gl') := by
 intro h RR M hs H
 refine x (R ++ offL T a) h RR (M.out e) hs ?_
 walk_at "cc"
 exact H _ _ _ _ _ h' ⟨rfl, rfl, rfl, rfl, rfl⟩ (Mm.again' (N := []) M e M') hs'
theorem Ctr.readN {N : News} (e : getL T a = some o) (x : ∀ rest, Ctr prog w h₀ d os g₀ A c ((a, o) :: rest) m i gl (oneQ v (N ++ (a, o) :: rest) m' i' gl')) :
  Ctr prog w h₀ d os g₀ A c (R ++ T) m i gl (oneQ v (N ++ (R ++ T)) m' i' gl') := by
 intro h RR M hs H
 refine x (R ++ offL T a) h RR (M.out e) hs ?_
 walk_at "cc"
 exact H _ _ _ _ _ h' ⟨rfl, rfl, rfl, rfl, rfl⟩ (Mm.again' M e M') hs'
abbrev resQ (r : Result) (news : News) (m i : Nat) (gl : List GenState) : Post := fun r0 n0 m0 i0 gl0 => r0 = r ∧ n0 = news ∧ m0 = m ∧ i0 = i ∧ gl0 = gl
variable {P P' : News} {r : Result}
theorem Mm.mid {h : Heap} (M : Mm h₀ h (P ++ (R ++ T))) (e : getL T a = some o) : Mm h₀ h (P ++ (a, o) :: (R ++ offL T a)) := by
 rw [← List.append_assoc] at M
 have z := M.out e
 refine z.perm ?_
 rw [List.append_assoc]
 exact List.perm_middle.symm
theorem Ctr.rd (e : getL T a = some o) (x : ∀ rest, Ctr prog w h₀ d os g₀ A c (P ++ (a, o) :: rest) m i gl (resQ r (P' ++ (a, o) :: rest) m' i' gl')) :
  Ctr prog w h₀ d os g₀ A c (P ++ (R ++ T)) m i gl (resQ r (P' ++ (R ++ T)) m' i' gl') := by
 intro h RR M hs H
 refine x (R ++ offL T a) h RR (M.mid e) hs ?_
 walk_at "cc"
 exact H _ _ _ _ _ h' ⟨rfl, rfl, rfl, rfl, rfl⟩ (Mm.again' M.right e M') hs'
theorem Ctr.wr (e : getL T a = some o) (x : ∀ rest, Ctr prog w h₀ d os g₀ A c (P ++ (a, o) :: rest) m i gl (resQ r (P' ++ (a, o') :: rest) m' i' gl')) :
  Ctr prog w h₀ d os g₀ A c (P ++ (R ++ T)) m i gl (resQ r (P' ++ (R ++ putL T a o')) m' i' gl') := by
 intro h RR M hs H
 refine x (R ++ offL T a) h RR (M.mid e) hs ?_
 walk_at "cc"
 exact H _ _ _ _ _ h' ⟨rfl, rfl, rfl, rfl, rfl⟩ (Mm.back M.right e M') hs'
end
abbrev exQ (T : Type) (P : T → Prop) (r : T → Result) (out : T → News) (m i : T → Nat) (gl : T → List GenState) : Post := fun r0 n0 m0 i0 gl0 => ∃ x, P x ∧ r0 = r x ∧ n0 = out x ∧ m0 = m x ∧ i0 = i x ∧ gl0 = gl x
abbrev CtrN (T : Type) (P : T → Prop) (prog : Program) (w : World) (h₀ : Heap) (d : Drawn) (os : OsState) (g₀ : List GenState) (A : Around) (c : Code) (news : News) (m i : Nat) (gl : List GenState)
  (r : T → Result) (out : T → News) (m' i' : T → Nat) (gl' : T → List GenState) : Prop :=
 (∃ x, P x) ∧ Ctr prog w h₀ d os g₀ A c news m i gl (exQ T P r out m' i' gl')
section
variable {prog : Program} {w : World} {h₀ : Heap} {d : Drawn} {os : OsState} {g₀ gl₁ : List GenState} {A : Around} {c : Code} {m i : Nat} {news : News}
theorem gcat_gcat (gl : List GenState) : gcat (g₀ ++ gl₁) gl = gcat g₀ (gl₁ ++ gl) := by simp [gcat_eq]
theorem Ctr.gens' {T : Type} {P : T → Prop} {r : T → Result} {out : T → News} {m' i' : T → Nat} {gl' : T → List GenState} {gl : List GenState} (x : Ctr prog w h₀ d os (g₀ ++ gl₁) A c news m i gl (exQ T P r out m' i' gl')) :
  Ctr prog w h₀ d os g₀ A c news m i (gl₁ ++ gl) (exQ T P r out m' i' (fun x => gl₁ ++ gl' x)) := by
 intro h R M hs H
 rw [← gcat_gcat]
 refine x h R M hs ?_
 walk_at "eV"
 rw [gcat_gcat]
 exact H _ _ _ _ _ h' ⟨y, hy, rfl, rfl, rfl, rfl, rfl⟩ M' hs'
theorem Ctr.gens {T : Type} {P : T → Prop} {r : T → Result} {out : T → News} {m' i' : T → Nat} {gl' : T → List GenState} (x : Ctr prog w h₀ d os (g₀ ++ gl₁) A c news m i [] (exQ T P r out m' i' gl')) :
  Ctr prog w h₀ d os g₀ A c news m i gl₁ (exQ T P r out m' i' (fun x => gl₁ ++ gl' x)) := by
 intro h R M hs H
 have e : gcat g₀ gl₁ = gcat (g₀ ++ gl₁) [] := by rw [gcat_gcat, List.append_nil]
 rw [e]
 refine x h R M hs ?_
 walk_at "eV"
 rw [gcat_gcat]
 exact H _ _ _ _ _ h' ⟨y, hy, rfl, rfl, rfl, rfl, rfl⟩ M' hs'
end
section
variable {prog : Program} {w : World} {h₀ : Heap} {d : Drawn} {os : OsState} {g₀ : List GenState} {A : Around} {c : Code} {m i : Nat} {gl : List GenState} {a : Addr} {o : Obj} {R T : News}
theorem Ctr.readE {X : Type} {P : X → Prop} {r : X → Result} {N : X → News} {m' i' : X → Nat} {gl' : X → List GenState} (e : getL T a = some o)
  (x : ∀ rest, Ctr prog w h₀ d os g₀ A c ((a, o) :: rest) m i gl (exQ X P r (fun x => N x ++ (a, o) :: rest) m' i' gl')) :
  Ctr prog w h₀ d os g₀ A c (R ++ T) m i gl (exQ X P r (fun x => N x ++ (R ++ T)) m' i' gl') := by
 intro h RR M hs H
 refine x (R ++ offL T a) h RR (M.out e) hs ?_
 walk_at "eV"
 exact H _ _ _ _ _ h' ⟨y, hy, rfl, rfl, rfl, rfl, rfl⟩ (Mm.again' M e M') hs'
end
end Mine
namespace Mine
open PySem PySem.W PySem.W.X
noncomputable abbrev finFz (act : Code × Pos) : Option (Option Value × List (Str × Value)) := PySem.W.ZFast.zw4888157548219442464 (fun _ => Option (Option Value × List (Str × Value))) act.1 (fun pos gone => some (pos.head?, gone)) (fun _ => none)
theorem finFz_none {act : Code × Pos} (h : isFin act.1 = false) : finFz act = none := by
 obtain ⟨c, p⟩ := act
 cases c <;> try rfl
 rename_i id args
 by_cases e : id = "lifetime.gc.finalise"
 ·subst e; simp [isFin] at h
 ·exact dif_neg e
theorem LiesG.noFinZ {V : XV} {A : Around} {c : Code} {p : Pos} {st : List (Code × Pos)} (h : LiesG V A ((c, p) :: st)) (q : V.t₀ ≠ 0) (hc : isFin c = false) : List.findSome? finFz ((c, p) :: st) = none :=
 List.findSome?_eq_none_iff.mpr fun x hx => finFz_none (noFin.cons hc (h.2 q) x hx)
end Mine
namespace Mine
open PySem PySem.Spec PySem.Calls PyProof.Rows PySem.W PySem.W.X
theorem without_self (kv : List (Int × Value)) (k : Int) : valueAt (without kv k) k = none := by
 unfold valueAt without
 rw [Option.map_eq_none_iff, List.find?_eq_none]
 intro p hp
 simp only [List.mem_filter] at hp
 simp only [decide_eq_true_eq]
 intro e
 have := hp.2
 simp [e] at this
theorem without_ne {kv : List (Int × Value)} {k k' : Int} (h : k' ≠ k) : valueAt (without kv k) k' = valueAt kv k' := by
 unfold without
 induction kv with
 | nil => rfl
 | cons p kv ih =>
   rw [List.filter_cons]
   split
   ·rw [valueAt_cons, valueAt_cons, ih]
   ·rename_i q
    have : p.1 = k := by simpa using q
    rw [ih, valueAt_cons, if_neg (by rw [this]; exact fun e => h e.symm)]
theorem stored_self' (kv : List (Int × Value)) (k : Int) (v : Value) : valueAt (stored kv k v) k = some v := stored_self rfl
theorem stored_ne' {kv : List (Int × Value)} {k k' : Int} {v : Value} {r : Option Value} (h : k' ≠ k) (e : valueAt kv k' = r) : valueAt (stored kv k v) k' = r := (stored_ne rfl h).trans e
theorem without_ne' {kv : List (Int × Value)} {k k' : Int} {r : Option Value} (h : k' ≠ k) (e : valueAt kv k' = r) : valueAt (without kv k) k' = r := (without_ne h).trans e
theorem nil_at (k : Int) : valueAt [] k = none := rfl
theorem stored_le {kv : List (Int × Value)} {k : Int} {v : Value} {n : Nat} (h : kv.length ≤ n) : (stored kv k v).length ≤ n + 1 := Nat.le_trans (stored_len rfl) (Nat.succ_le_succ h)
theorem without_le {kv : List (Int × Value)} {k : Int} {n : Nat} (h : kv.length ≤ n) : (without kv k).length ≤ n := Nat.le_trans (List.length_filter_le _ _) h
theorem len_line {kv : List (Int × Value)} {n m : Nat} (h : kv.length ≤ n) (hn : Nat.ble n m = true) : kv.length ≤ m := Nat.le_trans h (Nat.le_of_ble_eq_true hn)
end Mine
namespace Mine
open Lean Meta Elab Tactic PySem PySem.W PySem.W.X
def tOb : Lean.Expr := mkConst ``OB
def plE (p : Option (Nat × Nat)) : Lean.Expr := match p with
 | some (l, c) => mkApp2 (mkConst ``plAt) (mkRawNatLit l) (mkRawNatLit c)
 | none => mkConst ``plNo
def simQE (b : Env) (par : Lean.Expr) (fuel : Nat) (S ans : Lean.Expr) (x : Cur) (pl : Option (Nat × Nat)) : Lean.Expr :=
 mkAppN (mkConst `PySem.W.ZFast.mineQ) #[b.V, b.g₀, mkApp2 (mkConst ``List.length [0]) tGen b.g₀, par, mkApp2 (mkConst ``RM) b.V b.g₀, mkApp2 (mkConst ``RE) b.V b.g₀, mkApp2 (mkConst ``RW_) b.V b.g₀, plE pl, mkRawNatLit fuel, S, ans, x.c, x.md, x.κ, x.t, x.newsE, x.m, x.i, nilOf tOb, x.gl]
structure QCfg where
 stops : List String := []
 say : Bool := false
 words : Bool := false
 most : Nat := 100000
 depth : Nat := 480
 fuel : Nat := big
 place : Option (Nat × Nat) := none
 wd : Bool := false
 lies : Bool := false
 loops : Bool := false
 ids : List String := []
structure Cand where
 gc : Bool := false
 word : String
 L : Lean.Expr
 name : Name
def normPar (e : Lean.Expr) : Lean.Expr := e.replace (go 400)
where
 go : Nat → Lean.Expr → Option Lean.Expr
  | 0, _ => none
  | n + 1, e =>
    match e with
    | .app (.const c _) a =>
      if c == ``PySem.Params.strHash then
       let a := strip a
       if a.getAppNumArgs == 3 && a.getAppFn.isConst && a.getAppFn.constName!.getString! == "parB" then some (mkApp (mkConst ``PySem.Params.strHash) a.getAppArgs[0]!) else none
      else none
    | .proj c 0 a =>
      if c == ``PySem.Params then
       let a := strip a
       if a.getAppNumArgs == 3 && a.getAppFn.isConst && a.getAppFn.constName!.getString! == "parB" then some (mkApp (mkConst ``PySem.Params.strHash) a.getAppArgs[0]!) else none
      else none
    | _ => none
 strip (a : Lean.Expr) : Lean.Expr :=
  if a.isAppOfArity ``PySem.Setting.params 1 && a.appArg!.isAppOfArity ``PySem.Setting.mk 2 then a.appArg!.appArg!
  else match a with
   | .proj c 1 x => if c == ``PySem.Setting && x.isAppOfArity ``PySem.Setting.mk 2 then x.appArg! else a
   | _ => a
def swapE (x y e : Lean.Expr) : Lean.Expr := if x == y then e else e.replace fun q => if q == x then some y else none
structure QSt where
 parB : Lean.Expr
 b : Env
 par : Lean.Expr
 cfg : QCfg
 start : Cur
 base : LocalContext
 baseInst : LocalInstances
 cands : Array Cand
 obs : List Lean.Expr := []
 own : Array Lean.Expr := #[]
 lastN : Nat := 0
inductive StepR where
 | cell (k : Nat) | top | go
 | got (k : Nat) (T a o h : Lean.Expr)
 | skip (k : Nat) | lax | stk
 | wd (ix : List (Nat × Lean.Expr)) (α a b F : Lean.Expr) (ch : Option (Bool × Lean.Expr × Lean.Expr × Lean.Expr × Lean.Expr)) (C h : Lean.Expr)
 | ctr (L : Lean.Expr) (a : Array Lean.Expr) (is : List Nat) (k nn : Nat) (y : Cur) (q : Array Lean.Expr) (named : Bool)
structure QRef where
 steps : IO.Ref (Array StepR)
 leaf : IO.Ref (k_addr% "cE")
 tys : IO.Ref (Array (Lean.Expr × Lean.Expr))
 leftN : IO.Ref Nat
 ans : IO.Ref (Array (Lean.Expr × Lean.Expr × Option Lean.Expr))
 bind : IO.Ref (Array (Lean.Expr × Lean.Expr × Lean.Expr))
 left : IO.Ref (Array (MVarId × String))
 lets : IO.Ref (Array (Lean.Expr × Lean.Expr))
def appE (R T : Lean.Expr) : Lean.Expr :=
 let l := mkApp (mkConst ``List [0]) tPair
 mkApp6 (mkConst ``HAppend.hAppend [0, 0, 0]) l l l (mkApp2 (mkConst ``instHAppendOfAppend [0]) l (mkApp (mkConst ``List.instAppend [0]) tPair)) R T
def tailParts (t : Lean.Expr) : Option Lean.Expr × Lean.Expr := if t.isAppOfArity ``HAppend.hAppend 6 then (some t.getAppArgs[4]!, t.getAppArgs[5]!) else (none, t)
def normNews : Nat → Lean.Expr → MetaM (List (Lean.Expr × Lean.Expr) × Lean.Expr)
 | 0, e => return ([], e)
 | n + 1, e => do
   let e ← instantiateMVars e
   if e.isAppOfArity ``HAppend.hAppend 6 then
    let (l, t) ← normNews n e.getAppArgs[4]!
    if t.isAppOf ``List.nil then
     let (l2, t2) ← normNews n e.getAppArgs[5]!
     return (l ++ l2, t2)
    return (l, appE t e.getAppArgs[5]!)
   if e.isAppOfArity ``putL 3 || e.isFVar then return ([], e)
   let e' ← if e.isAppOfArity ``List.cons 3 then pure e else kw e
   if e'.isAppOfArity ``List.cons 3 then
    let a := e'.getAppArgs
    let p ← if a[1]!.isAppOfArity ``Prod.mk 4 then pure a[1]! else kw a[1]!
    unless p.isAppOfArity ``Prod.mk 4 do return ([], e)
    let (l, t) ← normNews n a[2]!
    return ((p.getAppArgs[2]!, p.getAppArgs[3]!) :: l, t)
   if e'.isAppOf ``List.nil then return ([], e')
   return ([], e)
def byLocal (P : Lean.Expr) : MetaM (Option Lean.Expr) := do
 let g ← mkFreshExprMVar P
 if ← tryHyps g.mvarId! then return some (← instantiateMVars g) else return none
def proveNe (a b : Lean.Expr) (ty : Lean.Expr) : MetaM (Option Lean.Expr) := do
 let ne := mkApp3 (mkConst ``Ne [1]) ty a b
 if let some h ← byLocal ne then return some h
 let ne' := mkApp3 (mkConst ``Ne [1]) ty b a
 if let some h ← byLocal ne' then return some (mkApp4 (mkConst ``Ne.symm [1]) ty b a h)
 return none
def sideE (g : MVarId) : MetaM Bool := do
 if ← g.isAssigned then return true
 let P ← instantiateMVars (← g.getType)
 let P := P.consumeMData.headBeta
 if P.isAppOfArity ``Eq 3 && (P.getAppArgs[0]!).isConstOf ``PySem.Addr then
  let l ← instantiateMVars P.appFn!.appArg!
  let r ← instantiateMVars P.appArg!
  if l.hasExprMVar then return false
  let ms ← getMVars r
  for x in ms do
   if (← instantiateMVars (← x.getType)).isConstOf `Mine.Ad then return false
  if ← commitWhen (isDefEq l r) then
   g.assign (mkApp2 (mkConst ``Eq.refl [1]) (P.getAppArgs[0]!) l)
   return true
  return ← tryHyps g
 if let .const nm _ := P.getAppFn then
  if (`Mine).isPrefixOf nm then
   for d? in (← getLCtx).decls.toArray.reverse do
    let some d := d? | continue
    if d.isImplementationDetail then continue
    let dt ← instantiateMVars d.type
    unless dt.getAppFn.isConstOf nm do continue
    if ← commitWhen (isDefEq P dt) then
     g.assign d.toExpr
     return true
   return false
 if P.hasExprMVar then return false
 tryHyps g
def getByWord (T a : Lean.Expr) : MetaM (k_addr% "cE") := do
 for nm in [`Mine.ld_sd, `Mine.ld_pd, `Mine.ld_nd, `Mine.ld_s, `Mine.ld_p, `Mine.ld_n, `Mine.ld_d, `Mine.ld_w1, `Mine.ld_w2, `Mine.ld_w3, `Mine.ld_w4] do
  unless (← getEnv).contains nm do continue
  let r ← commitWhenSome? do
   let L := mkConst nm
   let (xs, _, C) ← forallMetaTelescope (← inferType L)
   let C ← instantiateMVars C
   let l := C.appFn!.appArg!
   unless ← isDefEq l.appFn!.appArg! T do return none
   unless ← isDefEq l.appArg! a do return none
   for _ in [0:3] do
    for x in xs do
     let x' ← instantiateMVars x
     if x'.isMVar then
      let ty ← instantiateMVars (← inferType x')
      if ← isProp ty then
       let _ ← (try sideE x'.mvarId! catch _ => pure false)
   for x in xs do
    if (← instantiateMVars x).hasExprMVar then return none
   let o ← instantiateMVars C.appArg!.appArg!
   return some (o, ← instantiateMVars (mkAppN L xs))
  if r.isSome then return r
 return none
def proveGet : Nat → Lean.Expr → Lean.Expr → MetaM (k_addr% "cE")
 | 0, _, _ => return none
 | n + 1, T, a => do
   let T ← instantiateMVars T
   let tObj := mkConst ``Obj
   if T.isAppOfArity ``putL 3 then
    let as := T.getAppArgs
    if as[1]! == a || (← eqAt as[1]! a) then
     let some (o, h) ← proveGet n as[0]! as[1]! | return none
     return some (as[2]!, mkAppN (mkConst ``getL_put_self) #[as[0]!, as[1]!, o, as[2]!, h])
    let some ne ← proveNe as[1]! a (mkConst ``Nat) | return none
    let some (o, h) ← proveGet n as[0]! a | return none
    return some (o, mkAppN (mkConst ``getL_put_ne) #[as[0]!, as[1]!, a, as[2]!, mkApp2 (mkConst ``Option.some [0]) tObj o, ne, h])
   let o ← mkFreshExprMVar tObj
   let P := mkApp3 (mkConst ``Eq [1]) (mkApp (mkConst ``Option [0]) tObj) (mkApp2 (mkConst ``getL) T a) (mkApp2 (mkConst ``Option.some [0]) tObj o)
   match ← byLocal P with
   | some h => return some (← instantiateMVars o, h)
   | none => getByWord T a
def dInt : Lean.Expr := mkConst ``Int.instDecidableEq
def mkStored (kvs k v : Lean.Expr) : Lean.Expr := mkAppN (mkConst ``stored) #[mkConst ``Int, dInt, kvs, k, v]
def mkWithout (kvs k : Lean.Expr) : Lean.Expr := mkAppN (mkConst ``without) #[mkConst ``Int, dInt, kvs, k]
def mkValueAt (kvs k : Lean.Expr) : Lean.Expr := mkAppN (mkConst ``valueAt) #[mkConst ``Int, dInt, kvs, k]
def tKvs : Lean.Expr := mkApp (mkConst ``List [0]) (k_addr% "eO")
def proveDE (prog w : Lean.Expr) : Nat → Lean.Expr → MetaM (k_addr% "cE")
 | 0, _ => return none
 | n + 1, es => do
   let es ← instantiateMVars es
   if es.isAppOfArity ``storeE 4 then
    let as := es.getAppArgs
    let some (kvs, h) ← proveDE prog w n as[0]! | return none
    return some (mkStored kvs as[1]! as[3]!, mkAppN (mkConst ``DE.store) #[prog, w, as[0]!, kvs, h, as[1]!, as[2]!, as[3]!])
   if es.isAppOfArity ``dropE 2 then
    let as := es.getAppArgs
    let some (kvs, h) ← proveDE prog w n as[0]! | return none
    return some (mkWithout kvs as[1]!, mkAppN (mkConst ``DE.drop) #[prog, w, as[0]!, kvs, h, as[1]!])
   if es.isAppOf ``List.nil then
    return some (nilOf (k_addr% "eO"), mkApp2 (mkConst ``DE.nil) prog w)
   let kvs ← mkFreshExprMVar tKvs
   match ← byLocal (mkApp4 (mkConst ``DE) prog w kvs es) with
   | some h => return some (← instantiateMVars kvs, h)
   | none => return none
def tOptV : Lean.Expr := mkApp (mkConst ``Option [0]) (mkConst ``Value)
def proveAt : Nat → Lean.Expr → Lean.Expr → MetaM (k_addr% "cE")
 | 0, _, _ => return none
 | n + 1, kvs, k => do
   let kvs ← instantiateMVars kvs
   if kvs.isAppOfArity ``stored 5 then
    let as := kvs.getAppArgs.extract 2 10
    if as[1]! == k || (← eqAt as[1]! k) then
     return some (mkApp2 (mkConst ``Option.some [0]) (mkConst ``Value) as[2]!, mkApp3 (mkConst ``stored_self') as[0]! as[1]! as[2]!)
    let some ne ← proveNe k as[1]! (mkConst ``Int) | return none
    let some (r, h) ← proveAt n as[0]! k | return none
    return some (r, mkAppN (mkConst ``stored_ne') #[as[0]!, as[1]!, k, as[2]!, r, ne, h])
   if kvs.isAppOfArity ``without 4 then
    let as := kvs.getAppArgs.extract 2 10
    if as[1]! == k || (← eqAt as[1]! k) then
     return some (mkApp (mkConst ``Option.none [0]) (mkConst ``Value), mkApp2 (mkConst ``without_self) as[0]! as[1]!)
    let some ne ← proveNe k as[1]! (mkConst ``Int) | return none
    let some (r, h) ← proveAt n as[0]! k | return none
    return some (r, mkAppN (mkConst ``without_ne') #[as[0]!, as[1]!, k, r, ne, h])
   if kvs.isAppOf ``List.nil then return some (mkApp (mkConst ``Option.none [0]) (mkConst ``Value), mkApp (mkConst ``nil_at) k)
   let r ← mkFreshExprMVar tOptV
   match ← byLocal (mkApp3 (mkConst ``Eq [1]) tOptV (mkValueAt kvs k) r) with
   | some h => return some (← instantiateMVars r, h)
   | none => return none
def lenE (kvs : Lean.Expr) : Lean.Expr := mkApp2 (mkConst ``List.length [0]) (k_addr% "eO") kvs
def natLE (a b : Lean.Expr) : Lean.Expr := mkApp4 (mkConst ``LE.le [0]) (mkConst ``Nat) (mkConst ``instLENat) a b
def proveLen : Nat → Lean.Expr → MetaM (k_addr% "cE")
 | 0, _ => return none
 | n + 1, kvs => do
   let kvs ← instantiateMVars kvs
   if kvs.isAppOfArity ``stored 5 then
    let as := kvs.getAppArgs.extract 2 10
    let some (r, h) ← proveLen n as[0]! | return none
    return some (mkApp (mkConst ``Nat.succ) r, mkAppN (mkConst ``stored_le) #[as[0]!, as[1]!, as[2]!, r, h])
   if kvs.isAppOfArity ``without 4 then
    let as := kvs.getAppArgs.extract 2 10
    let some (r, h) ← proveLen n as[0]! | return none
    return some (r, mkAppN (mkConst ``without_le) #[as[0]!, as[1]!, r, h])
   if kvs.isAppOf ``List.nil then return some (mkRawNatLit 0, mkApp (mkConst ``Nat.le_refl) (mkRawNatLit 0))
   let r ← mkFreshExprMVar (mkConst ``Nat)
   match ← byLocal (natLE (lenE kvs) r) with
   | some h => return some (← instantiateMVars r, h)
   | none => return none
def byOmega (g : MVarId) : MetaM Bool := do
 let s ← saveState
 try
  let some g' ← g.falseOrByContra | return true
  g'.withContext do
   let hyps ← (← getLocalHyps).filterM fun h => do
    let t ← instantiateMVars (← inferType h)
    return t.isAppOf ``LE.le || t.isAppOf ``LT.lt || t.isAppOf ``GE.ge || t.isAppOf ``GT.gt || t.isAppOf ``Not || (t.isAppOfArity ``Eq 3 && ((t.getAppArgs[0]!).isConstOf ``Nat || (t.getAppArgs[0]!).isConstOf ``Int))
   Lean.Elab.Tactic.Omega.omega hyps.toList g'
  return true
 catch _ =>
  s.restore
  return false
def sideQ (late : Bool) (g : MVarId) : MetaM Bool := do
 if ← g.isAssigned then return true
 let P ← instantiateMVars (← g.getType)
 let P := P.consumeMData.headBeta
 if P.isForall then
  if P.hasExprMVar && !late then return false
  for d? in (← getLCtx).decls.toArray.reverse do
   let some d := d? | continue
   if d.isImplementationDetail then continue
   unless d.type.isForall do continue
   if ← commitWhen (isDefEq P d.type) then
    g.assign d.toExpr
    return true
  return false
 if P.isAppOfArity ``Eq 3 then
  let l ← instantiateMVars P.appFn!.appArg!
  let r ← instantiateMVars P.appArg!
  if (P.getAppArgs[0]!).isConstOf ``PySem.Addr && !l.hasExprMVar then
   let ms ← getMVars r
   for x in ms do
    if (← instantiateMVars (← x.getType)).isConstOf `Mine.Ad then return false
   if ← commitWhen (isDefEq l r) then
    g.assign (mkApp2 (mkConst ``Eq.refl [1]) (P.getAppArgs[0]!) l)
    return true
   return ← tryHyps g
  if l.isAppOfArity ``getL 2 then
   if l.appFn!.appArg!.getAppFn.isMVar || l.appArg!.hasExprMVar then return false
   let some (o, h) ← proveGet 60 l.appFn!.appArg! l.appArg! | return false
   unless r.isAppOfArity ``Option.some 2 do return false
   unless ← commitWhen (withReducible (isDefEq r.appArg! o)) do
    unless ← unifyDeep 40 r.appArg! o do return false
   g.assign h
   return true
  if l.isAppOfArity ``valueAt 4 then
   if l.hasExprMVar then return false
   let some (v, h) ← proveAt 60 l.appFn!.appArg! l.appArg! | return false
   unless ← isDefEq r v do return false
   g.assign h
   return true
 if P.isAppOfArity ``DE 4 then
  let as := P.getAppArgs
  if as[3]!.hasExprMVar then return false
  let some (kvs, h) ← proveDE as[0]! as[1]! 60 as[3]! | return false
  unless ← isDefEq as[2]! kvs do return false
  g.assign h
  return true
 if let .const nm _ := P.getAppFn then
  if (`Mine).isPrefixOf nm && nm != `Mine.DE then
   for d? in (← getLCtx).decls.toArray.reverse do
    let some d := d? | continue
    if d.isImplementationDetail then continue
    let dt ← instantiateMVars d.type
    unless dt.getAppFn.isConstOf nm do continue
    if ← commitWhen (isDefEq P dt) then
     g.assign d.toExpr
     return true
   if !late then return false
 if P.hasExprMVar && !late then return false
 if P.isAppOfArity ``LE.le 4 then
  let a := P.getAppArgs[2]!
  let m := P.getAppArgs[3]!
  if a.isAppOfArity ``List.length 2 && !a.hasExprMVar && (P.getAppArgs[0]!).isConstOf ``Nat then if (← isDefEq (← inferType a.appArg!) tKvs) then
   if let some (n, h) ← proveLen 60 a.appArg! then
    if (← kw (mkApp2 (mkConst ``Nat.ble) n m)).isConstOf ``Bool.true then
     g.assign (mkAppN (mkConst ``len_line) #[a.appArg!, n, m, h, rflAt (mkConst ``Bool) (mkConst ``Bool.true)])
     return true
 if P.isAppOfArity ``Ne 3 && !P.hasExprMVar then
  let as := P.getAppArgs
  if let some h ← proveNe as[1]! as[2]! as[0]! then
   g.assign h
   return true
 if ← tryHyps g then return true
 if P.hasExprMVar || !late then return false
 if P.isAppOfArity ``Eq 3 && (P.getAppArgs[0]!).isConstOf ``Bool then
  let l := P.appFn!.appArg!
  if !l.hasFVar && (← kw l).isConstOf ``Bool.true && (P.appArg!).isConstOf ``Bool.true then
   g.assign (rflAt (mkConst ``Bool) (mkConst ``Bool.true))
   return true
 if P.isAppOf ``LE.le || P.isAppOf ``LT.lt || P.isAppOf ``GE.ge || P.isAppOf ``GT.gt || P.isAppOf ``Not then byOmega g
 else return false
def refsIn (e : Lean.Expr) : Array Lean.Expr := Id.run do
 let mut todo : Array Lean.Expr := #[e]
 let mut out : Array Lean.Expr := #[]
 for _ in [0:20000] do
  match todo.back? with
  | none => break
  | some x =>
    todo := todo.pop
    if x.isAppOfArity ``PySem.Value.ref 1 then out := out.push x.appArg!
    else match x with
     | .app f a => todo := (todo.push a).push f
     | .lam _ _ b _ => todo := todo.push b
     | .mdata _ b => todo := todo.push b
     | .proj _ _ b => todo := todo.push b
     | _ => pure ()
 return out
def hanging (y : Cur) (code : Lean.Expr) (acc : List Nat) : MetaM (List Nat) := do
 let mut kept := acc
 let mut todo := acc
 let mut roots := refsIn code
 for _ in [0:200] do
  for a in roots do
   for k in [0:y.news.length] do
    unless kept.contains k do
     let b := y.news[k]!.1
     if a == b || (← eqAt a b) then
      kept := kept ++ [k]
      todo := todo ++ [k]
  match todo with
  | [] => break
  | k :: r =>
    todo := r
    roots := refsIn (← tidyObj y.news[k]!.2)
 return kept.filter fun k => !acc.contains k
def matchQ (sayIt : Bool) (gc : Option Lean.Expr) : Nat → Cur → Lean.Expr → List Nat → MetaM (Option (List Nat))
 | 0, _, _, _ => return none
 | n + 1, y, p, acc => do
   let p ← instantiateMVars p
   let p ← if p.isAppOfArity ``HAppend.hAppend 6 then pure p else whnfR p
   let rest := (List.range y.news.length).filter fun k => !acc.contains k
   let rest ← match gc with
    | some code => if p.isAppOfArity ``List.cons 3 then pure rest else (do
      let h ← hanging y code acc
      return rest.filter fun k => h.contains k)
    | none => pure rest
   let restE := fun tl => listOfE tPair (rest.map fun k => pairOf y.news[k]!.1 y.news[k]!.2) tl
   if p.isAppOfArity ``HAppend.hAppend 6 then
    let R := p.getAppArgs[4]!
    let T := p.getAppArgs[5]!
    let (R0?, T0) := tailParts y.tail
    let R0 := match R0? with
     | some R0 => if rest.isEmpty then R0 else appE (restE (nilOf tPair)) R0
     | none => restE (nilOf tPair)
    unless ← isDefEq R R0 do return none
    unless ← isDefEq T T0 do return none
    return some (acc ++ rest)
   if p.isAppOfArity ``List.cons 3 then
    let c ← whnfR p.getAppArgs[1]!
    let a ← instantiateMVars c.getAppArgs[2]!
    let o ← instantiateMVars c.getAppArgs[3]!
    let mut k := 0
    let mut found := none
    for (b, ob) in y.news do
     if found.isNone && !acc.contains k then
      if a.hasExprMVar then
       if ← commitWhen (do return ((← commitWhen (withReducible (isDefEq o ob))) || (← unifyDeep 40 o (← tidyObj ob))) && (← isDefEq a b)) then found := some k
      else if a == b || (← eqAt a b) then
       if (← commitWhen (withReducible (isDefEq o ob))) || (← unifyDeep 40 o (← tidyObj ob)) then found := some k
       else
        if sayIt then IO.println s!"the object of {← showShort a}: {← showShort (← tidyObj ob)} is not {← showShort (← instantiateMVars o)}"
        return none
     k := k + 1
    let some kf := found | return none
    matchQ sayIt gc n y p.getAppArgs[2]! (acc ++ [kf])
   else if p.isAppOf ``List.nil then
    return some acc
   else
    if p == y.tail && rest.isEmpty then return some acc
    unless ← isDefEq p (restE y.tail) do return none
    return some (acc ++ rest)
def underEx (T : Lean.Expr) : MetaM (Option (Lean.Expr × Bool)) := do
 if T.isAppOfArity ``And 2 then
  return some (← whnfR T.appArg!, true)
 else return some (T, false)
def tryCtr (st : QSt) (y : Cur) (hdE c' : Lean.Expr) (L : Lean.Expr) (gc say : Bool) : MetaM (Option (Lean.Expr × Array Lean.Expr × Option Lean.Expr × List Nat)) := do
 let LT ← inferType L
 let (xs, _, T) ← forallMetaTelescope LT
 let T ← whnfR T
 let T0 := T
 let some (T, ex) ← underEx T | return none
 unless T.isAppOfArity ``Ctr 13 do return none
 let a := T.getAppArgs
 let va := st.b.V.getAppArgs
 for (k, j) in [(0, 0), (1, 1), (2, 2), (3, 8), (4, 10)] do
  unless ← isDefEq a[k]! va[j]! do return none
 unless ← isDefEq a[5]! st.b.g₀ do return none
 unless ← unifyCode a[7]! c' do
  if say then IO.println (← (m!"another code: {← showShort c'}").toString)
  return none
 unless ← isDefEq a[9]! y.m do return none
 unless ← isDefEq a[10]! y.i do return none
 let glP ← instantiateMVars a[11]!
 let mut glLate := false
 let glV? : Option Lean.Expr := if glP.isAppOfArity ``HAppend.hAppend 6 then some glP.getAppArgs[4]! else if glP.isAppOfArity ``PySem.W.R.appendR 3 then some glP.getAppArgs[1]! else none
 if glV?.elim false (·.isMVar) then
  let yg := y.gl
  let parts : Option Lean.Expr := if yg.isAppOfArity ``HAppend.hAppend 6 then some yg.getAppArgs[4]!
   else if yg.getAppNumArgs == 3 && (yg.isAppOf ``List.append || yg.isAppOf ``PySem.W.R.appendR) then some yg.getAppArgs[1]! else none
  match parts with
  | some A =>
    unless ← isDefEq glV?.get! A do return none
    glLate := true
  | none => unless ← isDefEq glP y.gl do (do if say then IO.println s!"gens {← showShort y.gl}"); return none
 else unless ← isDefEq glP y.gl do (do if say then IO.println s!"gens {← showShort y.gl}"); return none
 if (← instantiateMVars a[6]!).isMVar then
  let dl := mkRawNatLit (st.cfg.depth + 350)
  let none1 (t : Lean.Expr) := mkApp (mkConst ``Option.none [0]) t
  let A := mkAppN (mkConst ``Around.mk) #[hdE, dl, none1 (mkApp (mkConst ``List [0]) (mkConst ``PySem.Env)), none1 (mkApp (mkConst ``List [0]) (mkConst ``PySem.Code)), mkRawNatLit (2 * st.cfg.depth)]
  unless ← isDefEq a[6]! A do return none
 else if (← instantiateMVars a[6]!).hasExprMVar then
  let hA ← whnfR (mkApp (mkConst ``PySem.Around.handled) (← instantiateMVars a[6]!))
  let hA ← if hA.isMVar then pure hA else whnf hA
  if hA.hasExprMVar then unless ← isDefEq hA hdE do return none
 let some is ← matchQ say (if gc then some c' else none) 400 y a[8]! [] | (do if say then IO.println (← (m!"cells").toString)); return none
 for pass in [0:5] do
  for x in xs do
   let x' ← instantiateMVars x
   if x'.isMVar then
    let ty ← instantiateMVars (← inferType x')
    if ← isProp ty then
     let _ ← (try sideQ (pass ≥ 3) x'.mvarId! catch _ => pure false)
 for x in xs do
  let x' ← instantiateMVars x
  if x'.isMVar then
   if say then IO.println (← (m!"left open: {← instantiateMVars (← inferType x')}").toString)
   return none
 if glLate then unless ← eqAt (← instantiateMVars a[11]!) y.gl do
  if say then IO.println s!"the last generators {← showShort (← instantiateMVars a[11]!)} are not {← showShort y.gl}"
  return none
 let L' ← instantiateMVars (mkAppN L xs)
 let a ← a.mapM instantiateMVars
 let T0 ← instantiateMVars T0
 return some (L', a, if ex then some T0 else none, is)
def tryCtr' (st : QSt) (y : Cur) (hdE c' : Lean.Expr) (cd : Cand) (say : Bool) : MetaM (Option (Lean.Expr × Array Lean.Expr × Option Lean.Expr × List Nat)) := do
 try tryCtr st y hdE c' cd.L cd.gc say
 catch e =>
  if say then IO.println (← (m!"{cd.name}: {e.toMessageData}").toString)
  return none
def outList (news : Lean.Expr) : MetaM (Lean.Expr × Nat) := do
 let (l, t) ← normNews 400 news
 return (normPar (listOfE tPair (l.map fun (a, o) => pairOf a o) t), l.length)
def symArgQ (y : Cur) (c : Lean.Expr) : MetaM Bool := do
 let c ← tidyHead c
 unless c.isAppOf ``PySem.Code.call || c.isAppOf ``PySem.Code.builtin do return false
 let a ← tidyHead c.appArg!
 let l ← tidyList 4 a.getAppArgs[0]! tidyHead
 let mut l := l
 for _ in [0:4] do
  unless l.isAppOfArity ``List.cons 3 do break
  let v ← tidyHead l.getAppArgs[1]!
  l := l.getAppArgs[2]!
  unless v.isAppOf ``PySem.Value.ref do continue
  let a := v.appArg!
  if (← kw a).isRawNatLit then continue
  let mut k? ← placeOf y a
  if k?.isNone then
   let mut k := 0
   for (b, _) in y.news do
    if k?.isNone then if ← eqAt a b then k? := some k
    k := k + 1
  if k?.isNone then return true
 symArg y c
def openNews (T : Lean.Expr) : MetaM Lean.Expr := do
 let k := if T.isAppOfArity ``RM 11 then 7 else if T.isAppOfArity ``RE 8 then 4 else 0
 if k == 0 then return T
 let as := T.getAppArgs
 let (l, t) ← readNews 400 as[k]!
 let mut any := false
 let mut out : Array Lean.Expr := #[]
 for (a, o) in l do
  if ← ctor? o then out := out.push (pairOf a o)
  else
   let o1 ← kw o
   if o1.isAppOfArity ``Obj.mk 4 && !o.isFVar then
    any := true
    out := out.push (pairOf a (← tidyObj o1))
   else out := out.push (pairOf a o)
 if any then return mkAppN T.getAppFn (as.set! k (listOfE tPair out.toList t)) else return T
structure Tpls where
 recName : Name
 nargs : Nat
 bind : Lean.Expr
 catch_ : Lean.Expr
def lamBody : Nat → Lean.Expr → Lean.Expr
 | 0, e => e
 | n + 1, .lam _ _ b _ => lamBody n b
 | _, e => e
def tpls : MetaM Tpls := do
 let v (n : Name) : MetaM Lean.Expr := do
  let some (.defnInfo d) := (← getEnv).find? n | throwError "no {n}"
  return d.value
 let b := lamBody 4 (← v ``PySem.W.R.bindR)
 return { recName := b.getAppFn.constName!, nargs := b.getAppNumArgs, bind := b, catch_ := lamBody 3 (← v ``PySem.W.R.catchR) }
def etaF (f : Lean.Expr) : Lean.Expr := match f with
 | .lam _ _ (.app g (.bvar 0)) _ => if g.hasLooseBVar 0 then f else g.lowerLooseBVars 1 1
 | f => f
def foldAll (tp : Tpls) (e : Lean.Expr) : Lean.Expr := e.replace (go 400)
where
 go : Nat → Lean.Expr → Option Lean.Expr
  | 0, _ => none
  | n + 1, e => match e with
    | .app .. =>
      if e.getAppFn.isConst && e.getAppFn.constName! == tp.recName && e.getAppNumArgs == tp.nargs then
       let as := e.getAppArgs
       let α := as[0]!
       match as[1]! with
       | .lam _ _ mb _ =>
         if mb.isApp then
          let β := mb.appArg!
          if β.hasLooseBVars then none else
          let M := as[as.size - 1]!
          let fits (whole : Lean.Expr) (free : Nat) : Bool :=
           let ws := whole.getAppArgs
           (List.range (as.size - 1)).all fun i => i == free || ws[i]! == as[i]!
          let f := etaF as[2]!
          if fits (tp.bind.instantiateRev #[α, β, M, f]) 2 then
           some (mkApp4 (mkConst ``PySem.W.R.bindR) α β (M.replace (go n)) (f.replace (go n)))
          else if α == β then
           let h := etaF as[3]!
           if fits (tp.catch_.instantiateRev #[α, M, h]) 3 then
            some (mkApp3 (mkConst ``PySem.W.R.catchR) α (M.replace (go n)) (h.replace (go n)))
           else none
          else none
         else none
       | _ => none
      else none
    | _ => none
def leaveQ (st : QSt) (rf : QRef) (T : Lean.Expr) (why : String) : MetaM Lean.Expr := do
 let T ← if st.cfg.wd && st.cfg.place.isSome then openNews T else pure T
 let tp ← tpls
 let T ← closeOff (foldAll tp (swapE st.par st.parB (normPar (← Core.betaReduce (← instantiateMVars T)))))
 let mut zs : Array Lean.Expr := #[]
 for x in st.own do
  if (T.find? fun q => q == x).isSome then zs := zs.push x
  else
   let ty ← inferType x
   if (← isProp ty) && zs.any (fun z => (ty.find? fun q => q == z).isSome) then zs := zs.push x
 for _ in [0:20] do
  let tys ← zs.mapM fun z => do instantiateMVars (← inferType z)
  let zs' := st.own.filter fun x => zs.contains x || tys.any fun ty => (ty.find? fun q => q == x).isSome
  if zs'.size == zs.size then break
  zs := zs'
 let ty ← mkForallFVars zs T
 let g ← withLCtx st.base st.baseInst do mkFreshExprMVar ty
 rf.left.modify (·.push (g.mvarId!, why))
 rf.leaf.set (some (T, mkAppN g zs))
 return mkAppN g zs
def okE (st : QSt) : Lean.Expr × Lean.Expr :=
 let l := listOfE (mkConst ``O1) st.obs (nilOf (mkConst ``O1))
 (mkApp (mkConst ``OkB) (mkApp (mkConst ``dupL) l), mkApp (mkConst ``okRefl) l)
def projNorm (e : Lean.Expr) : MetaM Lean.Expr := do
 let e ← Core.betaReduce (← instantiateMVars e)
 let env ← getEnv
 let step (x : Lean.Expr) : MetaM TransformStep := do
  match x.getAppFn with
  | .const n _ =>
    match env.getProjectionFnInfo? n with
    | some inf =>
      if x.getAppNumArgs == inf.numParams + 1 then
       let s := x.appArg!
       match s.getAppFn with
       | .const cn _ =>
         match env.find? cn with
         | some (.ctorInfo ci) => if s.getAppNumArgs == ci.numParams + ci.numFields then return .done (s.getArg! (ci.numParams + inf.i))
         | _ => pure ()
       | _ => pure ()
    | none => pure ()
  | _ => pure ()
  return .done x
 Core.transform e (post := step)
structure WordR where
 ix : List (Nat × Lean.Expr)
 α : Lean.Expr
 a : Lean.Expr
 b : Lean.Expr
 F : Lean.Expr
 ch : Option (Bool × Lean.Expr × Lean.Expr × Lean.Expr × Lean.Expr)
 C : Lean.Expr
 h : Lean.Expr
def neCells (b : Env) (news : List (Lean.Expr × Lean.Expr)) (u v C : Lean.Expr) : MetaM (Option (List (Nat × Lean.Expr) × Lean.Expr)) := do
 let cell (a : Lean.Expr) : MetaM (Option Nat) := do
  let mut k := 0
  for (c, _) in news do
   if ← eqAt a c then return some k
   k := k + 1
  return none
 let top (a : Lean.Expr) : MetaM (k_addr% "cE") := do
  let o ← kw (mkApp2 (mkConst ``KT.get) (mkApp (mkConst ``XV.kt) b.V) a)
  unless o.isAppOfArity ``Option.some 2 do return none
  return some (o.appArg!, mkApp2 (mkConst ``Eq.refl [1]) (mkApp (mkConst ``Option [0]) (mkConst ``Obj)) o)
 let nat := mkConst ``Nat
 match ← cell u, ← cell v with
 | some j, some k =>
   if j == k then return none
   return some ([(j, u), (k, v)], mkAppN (mkConst ``CellsAt.ne) #[b.V, mkRawNatLit j, mkRawNatLit k, u, v, C, rflAt (mkConst ``Bool) (mkConst ``Bool.false)])
 | some j, none =>
   let v' ← kw v
   unless v'.isRawNatLit do return none
   let some (o, h) ← top v' | return none
   return some ([(j, u)], mkAppN (mkConst ``CellsAt.old) #[b.V, b.K, mkRawNatLit j, u, v, o, C, h])
 | none, some k =>
   let u' ← kw u
   unless u'.isRawNatLit do return none
   let some (o, h) ← top u' | return none
   return some ([(k, v)], mkApp4 (mkConst ``Ne.symm [1]) nat v u (mkAppN (mkConst ``CellsAt.old) #[b.V, b.K, mkRawNatLit k, v, u, o, C, h]))
 | none, none => return none
def findWord (b : Env) (news : List (Lean.Expr × Lean.Expr)) (C t0 : Lean.Expr) (inner : Option Lean.Expr := none) : MetaM (Option WordR) := do
 let ch ← match inner with
  | none => chain 200 t0 pure #[]
  | some W => (do
    let put := fun (x : Lean.Expr) => pure (t0.replace fun q => if q == W then some x else none)
    let W1 ← kw W
    let c ← chain 200 W1 put #[]
    return #[(t0, W, W1, W)] ++ c)
 let plain (w M v h : Lean.Expr) : MetaM (Option WordR) := do
  let ty ← inferType M
  let F ← absAll w M ty
  unless ← kcheck F do return none
  return some { ix := [], α := ty, a := M, b := v, F, ch := none, C, h }
 let choice (w e M p : Lean.Expr) (yes : Bool) (ix : List (Nat × Lean.Expr)) (h : Lean.Expr) : MetaM (Option WordR) := do
  unless e.isAppOf ``Decidable.rec && e.getAppNumArgs ≥ 5 do return none
  let as := e.getAppArgs
  let e5 := mkAppN e.getAppFn (as.extract 0 5)
  let α ← match as[1]! with
   | .lam _ _ β _ => if β.hasLooseBVars then return none else pure β
   | _ => return none
  let dry (m : Lean.Expr) : MetaM (Option Lean.Expr) := do
   match m with
   | .lam _ _ B _ =>
     let B := B.headBeta
     if B.hasLooseBVar 0 then pure none else return some (B.lowerLooseBVars 1 1)
   | _ => pure none
  let (A, B) := (as[3]!, as[2]!)
  let F ← absAll w e5 α
  unless ← kcheck F do return none
  if yes then
   let some A' ← dry A | return none
   return some { ix, α, a := e5, b := A', F, ch := some (true, p, M, A', B), C, h }
  else
   let some B' ← dry B | return none
   return some { ix, α, a := e5, b := B', F, ch := some (false, p, M, A, B'), C, h }
 let up (j0 : Nat) (v0 : Lean.Expr) (ix : List (Nat × Lean.Expr)) : MetaM (Option WordR) := do
  let mut j := j0
  let mut v := v0
  for _ in [0:60] do
   let (w, M, _, e) := ch[j]!
   let res ← kw (← PySem.W.ZRun.putMajor e M v)
   if j > 0 && (res.isAppOfArity ``Decidable.isTrue 2 || res.isAppOfArity ``Decidable.isFalse 2) then
    v := res
    j := j - 1
   else
    return ← choice w e M v.appFn!.appArg! (v.isAppOf ``Decidable.isTrue) ix v.appArg!
  return none
 for (w, M, M1, _) in ch do
  if own? M1 then
   if let some (v, h) ← oracle M1 then
    if let some r ← plain w M v h then return some r
 for j in [0:ch.size] do
  let (w, M, _, _) := ch[j]!
  let ty ← inferType M
  unless ← kcheck ty do continue
  if let some (v, h) ← byHyp M ty then
   if ty.isAppOfArity ``Decidable 1 then
    if let some r ← up j v [] then return some r
   else if let some r ← plain w M v h then return some r
  unless ty.isAppOfArity ``Decidable 1 do continue
  let p := ty.appArg!.headBeta
  unless p.isAppOfArity ``Eq 3 do continue
  let (u, v) := (p.appFn!.appArg!, p.appArg!)
  if ← eqAt u v then
   if let some r ← up j (mkApp2 (mkConst ``Decidable.isTrue) p (mkApp2 (mkConst ``Eq.refl p.getAppFn.constLevels!) p.appFn!.appFn!.appArg! u)) [] then return some r
  unless p.appFn!.appFn!.appArg!.isConstOf ``Nat || p.appFn!.appFn!.appArg!.isConstOf ``PySem.Addr do continue
  let some (ix, h) ← neCells b news u v C | continue
  if let some r ← up j (mkApp2 (mkConst ``Decidable.isFalse) p h) ix then return some r
 for (w, M, _, _) in ch do
  unless M.isAppOfArity ``List.findSome? 4 do continue
  let st ← kw M.appArg!
  unless st.isAppOfArity ``List.cons 3 do continue
  for d? in (← getLCtx).decls.toArray.reverse do
   let some d := d? | continue
   unless d.type.isAppOfArity ``LiesG 3 do continue
   unless ← eqAt d.type.appArg! st do continue
   let la := d.type.getAppArgs
   let V := la[0]!
   let q ← kw st.getAppArgs[1]!
   unless q.isAppOfArity ``Prod.mk 4 do continue
   let c := q.getAppArgs[2]!
   unless (← kw (mkApp (mkConst ``PySem.W.X.XV.t₀) V)).rawNatLit? == some 1 do continue
   let nz := mkApp (mkConst ``Nat.succ_ne_zero) (mkRawNatLit 0)
   let hc := mkApp2 (mkConst ``Eq.refl [1]) (mkConst ``Bool) (mkConst ``Bool.false)
   let h := mkAppN (mkConst ``LiesG.noFinZ) #[V, la[1]!, c, q.getAppArgs[3]!, st.getAppArgs[2]!, d.toExpr, nz, hc]
   if let some r ← plain w M (mkApp (mkConst ``Option.none [0]) (← inferType M).appArg!) h then return some r
 for (w, M, _, e) in ch do
  unless (M.find? fun y => y.isConstOf ``Params.followText).isSome do continue
  unless (← whnfR (← inferType M)).isConstOf ``Bool do continue
  let at_ (b : Lean.Expr) : MetaM Lean.Expr := PySem.W.ZRun.putMajor e M b
  let v1 ← kw (← at_ (mkConst ``Bool.true))
  let v0 ← kw (← at_ (mkConst ``Bool.false))
  unless ← eqAt v1 v0 do continue
  let ty ← inferType e
  let G ← withLocalDeclD `b (mkConst ``Bool) fun b => do mkLambdaFVars #[b] (← at_ b)
  let h := mkAppN (mkConst ``bool_same) #[ty, G, M, v1, mkApp2 (mkConst ``Eq.refl [1]) ty v1, mkApp2 (mkConst ``Eq.refl [1]) ty v1]
  let F ← absAll w e ty
  unless ← kcheck F do continue
  return some { ix := [], α := ty, a := e, b := v1, F, ch := none, C, h }
 return none
def unforce (P : Lean.Expr) : MetaM (Option Lean.Expr) := do
 let ch ← chain 200 P pure #[]
 for (full, M, _, e) in ch do
  unless M.getAppFn.isConst && (M.getAppFn.constName!.toString.startsWith "List.brecOn.go" || M.getAppFn.constName!.toString.startsWith "List.rec") do continue
  let isV := (M.find? fun y => y.isConst && y.constName!.toString == "Mine.fVals._f").isSome
  let isE := (M.find? fun y => y.isConst && y.constName!.toString == "Mine.fEnts._f").isSome
  unless isV || isE do continue
  unless e.isApp && e.getAppNumArgs ≥ 1 do continue
  let K := e.getAppArgs[0]!
  let KT ← whnfR (← inferType K)
  unless KT.isForall do continue
  let some l := M.getAppArgs.find? fun a => a != M.getAppFn && !a.isLambda && !(a.isConst) | continue
  let β := KT.bindingBody!
  let e0 := mkApp e.getAppFn K
  let v0 := (mkApp K l).headBeta
  let F ← absAll full e0 β
  unless ← kcheck F do continue
  return some (mkApp F v0).headBeta
 return none
def openObj (o : Lean.Expr) : MetaM Bool := do
 let o ← kw o
 unless o.isAppOfArity ``Obj.mk 4 do return true
 let dt ← kw o.getAppArgs[2]!
 if dt.isAppOf ``PySem.Data.dict || dt.isAppOf ``PySem.Data.seq || dt.isAppOf ``PySem.Data.fields then
  let isF := dt.isAppOf ``PySem.Data.fields
  let isD := dt.isAppOf ``PySem.Data.dict
  let mut e := mkApp2 (mkConst ``Array.toList [0]) (mkConst (if isD then ``DictEntry else ``Value)) dt.getAppArgs[0]!
  for _ in [0:400] do
   e ← kw e
   if e.isAppOfArity ``List.cons 3 then e := e.getAppArgs[2]! else break
  return !e.isAppOf ``List.nil
 return false
def fuelIn (P : Lean.Expr) : Option (Nat × Bool) := do
 let look (e : Lean.Expr) : Option (Nat × Bool) := Id.run do
  unless e.getAppFn.isConst && e.getAppNumArgs ≥ 5 do return none
  let as := e.getAppArgs
  let mut seen := false
  let mut k := 0
  for a in as do
   if seen then
    k := k + 1
    if a.isRawNatLit then return some (a.rawNatLit?.get!, k ≥ 3)
    if k > 3 then return none
   if a.isAppOfArity ``Mine.RM 2 then seen := true
  return none
 let e ← P.find? fun e => e.isApp && (look e).isSome
 look e
def fuelOf (P : Lean.Expr) : Option Nat := (fuelIn P).map (·.1)
def wordIn (st : QSt) (rf : QRef) (A : Lean.Expr) (y : Cur) (t0 o1 : Lean.Expr) (n2 : Nat) : MetaM (Option Lean.Expr) := do
 let mut parts : Array Lean.Expr := #[]
 let mut todo : Array Lean.Expr := #[o1]
 for _ in [0:600] do
  match todo.back? with
  | none => break
  | some e =>
    todo := todo.pop
    if ← ctor? e then
     unless e.isLit do for a in e.getAppArgs do
      unless a.isSort || a.isFVar || a.isLambda do
       let ty ← try (do whnfR (← inferType a)) catch _ => pure (mkConst `x)
       unless ty.isSort || ty.isForall || ty.isConstOf ``Nat || ty.isConstOf ``Int || ty.isConstOf ``PySem.Addr || ty.isConstOf ``PySem.Tok do todo := todo.push a
    else if e.isApp then parts := parts.push e
 for q in parts do
  let cFv ← mkFreshFVarId
  if let some w ← findWord st.b y.news (.fvar cFv) t0 (some q) then
   if st.cfg.say then logInfo m!"word in a node {← showShort w.a} is {← showShort w.b}"
   let sk := st.lastN - n2 - 1
   if sk > 0 then rf.steps.modify (·.push (.skip sk))
   rf.steps.modify (·.push (.wd w.ix w.α w.a w.b w.F w.ch w.C w.h))
   let t' := (mkApp w.F w.b).headBeta
   let b := st.b
   return some (mkAppN (mkConst `PySem.W.ZFast.mineQ) #[b.V, b.g₀, mkApp2 (mkConst ``List.length [0]) tGen b.g₀, st.par, mkApp2 (mkConst ``RM) b.V b.g₀, mkApp2 (mkConst ``RE) b.V b.g₀, mkApp2 (mkConst ``RW_) b.V b.g₀, plE st.cfg.place, mkRawNatLit (n2 + 1), st.own[0]!, A, y.c, y.md, y.κ, t', y.newsE, y.m, y.i, nilOf tOb, y.gl])
 return none
def tidyCode (c : Lean.Expr) : MetaM Lean.Expr := do
 let c ← tidyHead c
 unless c.isAppOf ``PySem.Code.call || c.isAppOf ``PySem.Code.builtin do return c
 let as := c.getAppArgs
 let a ← tidyHead as[1]!
 unless a.isAppOfArity ``PySem.Args.mk 2 do return c
 let pos ← tidyList 40 a.getAppArgs[0]! tidyVal
 return mkApp2 c.getAppFn as[0]! (mkApp2 a.getAppFn pos a.getAppArgs[1]!)
def goQ (rf : QRef) : Nat → QSt → Lean.Expr → Lean.Expr → MetaM Lean.Expr
 | 0, _, _, _ => throwError "fuel of the driver"
 | fuel + 1, st, A, P => do
   let V := st.b.V
   let g₀ := st.b.g₀
   let nilA := mkApp2 (mkConst ``AnT.nil) V g₀
   let P ← kw P
   if P.isForall then
    let .forallE _ ty body _ := P | throwError "?"
    let ty ← projNorm ty
    return ← withLocalDeclD `x ty fun x => do
     let body ← kw (body.instantiate1 x)
     let .forallE _ pty body _ := body | throwError "?"
     let pty ← projNorm pty
     withLocalDeclD `hx pty fun hx => do
      rf.bind.modify (·.push (A, x, hx))
      rf.tys.modify (·.push (ty, pty))
      let body := body.instantiate1 hx
      let rec addFacts : Nat → Lean.Expr → Lean.Expr → (MetaM Lean.Expr) → MetaM Lean.Expr
       | 0, _, _, k => k
       | n + 1, ty, pf, k => do
         let ty ← whnfR ty
         if ty.isAppOfArity ``And 2 then
          let (l, r) := (ty.appFn!.appArg!, ty.appArg!)
          addFacts n l (mkApp3 (mkConst ``And.left) l r pf) (addFacts n r (mkApp3 (mkConst ``And.right) l r pf) k)
         else withLetDecl `hp ty pf fun h => do
          rf.lets.modify (·.push (h, pf))
          let b ← k
          return b.replaceFVar h pf
      let pf ← addFacts 20 pty hx (goQ rf fuel { st with own := st.own ++ #[x, hx] } A body)
      return Lean.mkLambda `x .default ty ((Lean.mkLambda `hx .default pty (pf.abstract #[hx])).abstract #[x])
   if P.isAppOfArity ``And 2 then
    let q := P.appArg!.headBeta
    if q.isForall then
     let (okT, ok) := okE st
     let pf ← goQ rf fuel { st with obs := [] } A q
     let b ← inferType pf
     return mkApp4 (mkConst ``And.intro) okT b ok pf
    let some (why, y) ← parse q st.start | throwError "what is left is of another kind"
    rf.leftN.set ((q.getAppArgs[2]!.rawNatLit?).getD 0)
    rf.ans.modify (·.push (A, nilA, none))
    let why := if why == "rm" then s!"{(y.t.getAppFn.constName?.getD `x).getString!}" else why
    let q := setAns q A nilA
    let g ← leaveQ st rf q why
    let (okT, ok) := okE st
    return mkApp4 (mkConst ``And.intro) okT q ok g
   let ch ← chain 200 P pure #[]
   let isAsk := match ch.back? with | some (_, M, M1, _) => M == A || M1 == A | none => false
   unless isAsk do
    if st.cfg.wd then
     if st.cfg.say then
      IO.println s!"stuck: fuel {fuelOf P} consts {P.getUsedConstants.toList.filter fun c => (`Mine).isPrefixOf c || (`PySem.W.ZFast).isPrefixOf c}"
      if let some M0 ← PySem.W.XRun.majorOf P then
       IO.println s!"  major {← showShort M0} : {← try (do showShort (← inferType M0)) catch _ => pure "?"}"
       for (_, M, _, e) in (← chain 200 (← kw M0) pure #[]) do IO.println s!"    word {← showShort M} : {← try (do showShort (← inferType M)) catch _ => pure "?"} in {e.getAppFn}"
     if let some M0 ← PySem.W.XRun.majorOf P then
      if M0.isAppOf ``Mine.plAt then return ← goQ rf fuel st A (← PySem.W.ZRun.putMajor P M0 (mkConst ``Bool.false))
     if let some n2 := fuelOf P then
      let sk := st.lastN - n2 - 1
      let skip : MetaM Unit := do if sk > 0 then rf.steps.modify (·.push (.skip sk))
      if let some M0 ← PySem.W.XRun.majorOf P then
       if M0.isAppOf ``Mine.plAt then return ← goQ rf fuel st A (← PySem.W.ZRun.putMajor P M0 (mkConst ``Bool.false))
       let ty0 ← try (do whnfR (← inferType M0)) catch _ => pure (mkConst `x)
       if ty0.isAppOf ``PySem.Sem then
        let as := P.getAppArgs
        let (l, _) ← readNews 400 as[as.size - 5]!
        let t0 ← kw M0
        let cFv ← mkFreshFVarId
        if let some w ← findWord st.b l (.fvar cFv) t0 then
         if st.cfg.say then logInfo m!"word {← showShort w.a} is {← showShort w.b}"
         skip
         rf.steps.modify (·.push (.wd w.ix w.α w.a w.b w.F w.ch w.C w.h))
         return ← goQ rf fuel { st with lastN := n2 + 1 } A (← PySem.W.ZRun.putMajor P M0 (mkApp w.F w.b).headBeta)
      if let some M0 ← PySem.W.XRun.majorOf P then
       let ty0 ← try (do whnfR (← inferType M0)) catch _ => pure (mkConst `x)
       if ty0.isConstOf ``Bool && ((fuelIn P).map (·.2)) == some true then
        let as := P.getAppArgs
        let (l, _) ← readNews 400 as[as.size - 5]!
        let tV (z : Lean.Expr) : Lean.Expr := mkApp2 (mkConst ``PySem.Sem.pure) (mkConst ``PySem.Fin) (mkApp (mkConst ``PySem.Fin.done) (mkApp (mkConst ``PySem.Flow.ret) (mkApp (mkConst ``PySem.Value.bool) z)))
        let cFv ← mkFreshFVarId
        if let some w ← findWord st.b l (.fvar cFv) (tV M0) (some M0) then
         if st.cfg.say then logInfo m!"word of the end {← showShort w.a} is {← showShort w.b}"
         skip
         rf.steps.modify (·.push (.wd w.ix w.α w.a w.b w.F w.ch w.C w.h))
         let z := (mkApp w.F w.b).headBeta
         return ← goQ rf fuel { st with lastN := n2 + 1 } A (← PySem.W.ZRun.putMajor P M0 z.appArg!.appArg!.appArg!.appArg!)
      if let some mk := P.find? (fun e => e.isAppOf ``Mine.mark && e.getAppNumArgs ≥ 7 && (e.getAppArgs.extract 0 6).all fun a => !a.hasLooseBVars) then
       let ma := mk.getAppArgs
       let t := ma[5]!
       if t.isAppOf ``PySem.Sem.alloc then
        let as := P.getAppArgs
        let y : Cur := { st.start with c := ma[2]!, md := ma[3]!, κ := ma[4]!, t, m := as[as.size - 4]!, i := as[as.size - 3]!, gl := as[as.size - 1]! }
        let (l, tl) ← readNews 400 as[as.size - 5]!
        let o1 ← tidyObj t.getAppArgs[1]!
        if let some P2 ← wordIn st rf A { y with news := l, tail := tl } (mkAppN t.getAppFn (t.getAppArgs.set! 1 o1)) o1 n2 then return ← goQ rf fuel { st with lastN := n2 + 1 } A P2
      if let some P' ← unforce P then
       if st.cfg.say then logInfo m!"not forced"
       skip
       rf.steps.modify (·.push .lax)
       return ← goQ rf fuel { st with lastN := n2 } A P'
    for (_, M, M1, _) in ch do logInfo m!"stuck word: {← showShort M} | {← showShort M1}"
    if ch.isEmpty then logInfo m!"stuck: {← showShort P}"
    if st.cfg.say then
     rf.ans.modify (·.push (A, nilA, none))
     return ← mkSorry P true
    throwError "stuck"
   let P0 := setAns P A nilA
   let r ← kw P0
   unless r.isAppOfArity ``And 2 do throwError "asked, yet no place: {← showShort r}"
   let q := r.appArg!.headBeta
   let some (kind, y) ← parse q st.start | throwError "asked, yet no place"
   let nNow := (q.getAppArgs[2]!.rawNatLit?).getD 0
   let st0 := st
   let st := { st with lastN := nNow }
   let stop (why : String) : MetaM Lean.Expr := do
    rf.ans.modify (·.push (A, nilA, none))
    let g ← leaveQ st rf q why
    let (okT, ok) := okE st
    return mkApp4 (mkConst ``And.intro) okT q ok g
   let withA (k : Lean.Expr → MetaM Lean.Expr) : MetaM Lean.Expr := withLocalDeclD `A (mkApp2 (mkConst ``AnT) V g₀) k
   let cont (mk : Lean.Expr → Lean.Expr) (ob : Option Lean.Expr) (sr : StepR) : MetaM Lean.Expr := withA fun A' => do
    let v := mk A'
    rf.steps.modify (·.push sr)
    rf.ans.modify (·.push (A, v, some A'))
    goQ rf fuel { st with obs := (match ob with | some q => q :: st.obs | none => st.obs) } A' (setAns P A v)
   let aTop := fun A' => mkApp3 (mkConst ``AnT.top) V g₀ A'
   let aGo := fun A' => mkApp3 (mkConst ``AnT.go) V g₀ A'
   let aCell := fun (k : Nat) A' => mkApp4 (mkConst ``AnT.cell) V g₀ (mkRawNatLit k) A'
   let obAd := fun (a : Lean.Expr) => some (mkApp (mkConst ``O1.ad) a)
   let t := y.t
   let as := t.getAppArgs
   let find (a : Lean.Expr) : MetaM (Option Nat) := do
    match ← placeOf y a with
    | some k => return some k
    | none =>
      let mut k := 0
      for (c, _) in y.news do
       if ← eqAt a c then return some k
       k := k + 1
      return none
   let doCall (c' : Lean.Expr) (around : Lean.Expr) : MetaM Lean.Expr := do
    if st.cfg.wd then
     let c1 ← tidyCode c'
     let t0 := if t.isAppOf ``Sem.call then mkAppN t.getAppFn (as.set! 1 c1) else mkApp2 t.getAppFn as[0]! (mkApp as[1]!.getAppFn c1)
     if let some P2 ← wordIn st0 rf A y t0 c1 nNow then return ← goQ rf fuel { st with lastN := nNow + 1 } A P2
    let w ← codeWord c'
    if st.cfg.say then logInfo m!"call {w}"
    if st.cfg.stops.contains w || (st.cfg.loops && ["forLoop", "whileLoop", "compLoop"].contains w) || st.cfg.ids.any (fun s => w == "b:" ++ s || w == "call " ++ s || w == "type " ++ s) then return ← stop s!"call: {w}"
    let hdE ← kw (mkApp (mkConst ``Around.handled) around)
    for cd in st.cands do
     if cd.word != w then continue
     let c0 ← tidyHead c'
     let some (L', a, ex, is) ← commitWhenSome? (tryCtr' st y hdE c0 cd st.cfg.say) | continue
     if st.cfg.say then logInfo m!"  by {cd.name}"
     let k := y.news.length
     let isE := listOfE (mkConst ``Nat) (is.map mkRawNatLit) (nilOf (mkConst ``Nat))
     let Q := a[12]!
     let L' := normPar L'
     let inn := normPar a[8]!
     let code := normPar a[7]!
     let ob := mkApp (mkConst ``O1.co) (mkAppN (mkConst ``CK.mk) #[hdE, code, inn, a[9]!, a[10]!, a[11]!])
     if Q.isAppOfArity ``exQ 7 then
      let q := Q.getAppArgs
      let C := match ex with
       | some T0 => mkApp3 (mkConst ``And.right) T0.appFn!.appArg! T0.appArg! L'
       | none => L'
      let (out, nn) ← withLocalDeclD `x q[0]! fun x => do
       let (o, nn) ← outList (mkApp q[3]! x).headBeta
       return (← mkLambdaFVars #[x] o, nn)
      rf.steps.modify (·.push (.ctr C a is k nn y q true))
      let S := mkAppN (mkConst ``CSA.mk) #[V, g₀, a[6]!, code, inn, a[9]!, a[10]!, a[11]!, q[0]!, q[1]!, q[2]!, out, q[4]!, q[5]!, q[6]!, C]
      return ← withA fun A' => do
       let v0 := mkAppN (mkConst ``AnT.any) #[V, g₀, isE, mkRawNatLit k, S]
       let v ← withLocalDeclD `x q[0]! fun x => withLocalDeclD `hx (mkApp q[1]! x).headBeta fun hx => do return mkApp v0 (← mkLambdaFVars #[x, hx] A')
       rf.ans.modify (·.push (A, v0, some A'))
       goQ rf fuel { st with obs := ob :: st.obs } A' (setAns P A v)
     let (res, nw, m', i', gl') ← if Q.isAppOfArity ``oneQ 5 then
         let q := Q.getAppArgs
         pure (mkApp3 (mkConst ``Except.ok [0, 0]) (mkConst ``Value) (mkConst ``Flow) (mkApp (mkConst ``Flow.ret) q[0]!), q[1]!, q[2]!, q[3]!, q[4]!)
      else if Q.isAppOfArity ``resQ 5 then
       let q := Q.getAppArgs
       pure (q[0]!, q[1]!, q[2]!, q[3]!, q[4]!)
      else throwError "{cd.name}: a post of another kind {Q.getAppFn}"
     let (out, nn) ← outList nw
     rf.steps.modify (·.push (.ctr L' a is k nn y #[res, nw, m', i', gl'] false))
     let S := mkAppN (mkConst ``CS1.mk) #[V, g₀, a[6]!, code, inn, a[9]!, a[10]!, a[11]!, normPar res, out, m', i', gl', L']
     return ← withA fun A' => do
      let v := mkAppN (mkConst ``AnT.one) #[V, g₀, isE, mkRawNatLit k, S, A']
      rf.ans.modify (·.push (A, v, some A'))
      goQ rf fuel { st with obs := ob :: st.obs } A' (setAns P A v)
    if symStops.contains w && (← symArgQ y c') then
     for cd in st.cands do
      if cd.word == w then let _ ← tryCtr' st y hdE (← tidyHead c') cd true
     return ← stop s!"call: {w} : {← showShort (← tidyHead c')}"
    cont aGo none .go
   let genAt (g : Lean.Expr) : MetaM (Option Nat) := do
    match ← kw (mkApp2 (mkConst ``Nat.sub) g (mkApp2 (mkConst ``List.length [0]) tGen g₀)) with
    | .lit (.natVal j) => return some j
    | _ =>
      for j in [0:12] do
       if ← eqAt g (mkApp2 (mkConst ``Nat.add) (mkApp2 (mkConst ``List.length [0]) tGen g₀) (mkRawNatLit j)) then return some j
      return none
   let gNat (j : Nat) := mkApp2 (mkConst ``Nat.add) (mkApp2 (mkConst ``List.length [0]) tGen g₀) (mkRawNatLit j)
   if kind == "wake" then
    let κ ← tidyHead q.getAppArgs[4]!
    unless κ.isAppOfArity ``Kont.gen 4 do return ← stop "wake"
    if st.cfg.stops.contains "wake" then return ← stop "wake"
    let some j ← genAt κ.getAppArgs[0]! | return ← stop "wake: which generator"
    if st.cfg.say then logInfo m!"the generator ends"
    return ← cont (aCell j) (obAd (gNat j)) (.cell j)
   match t.getAppFn.constName? with
   | some ``Sem.resume =>
     let some j ← genAt as[1]! | stop "resume: which generator"
     if st.cfg.stops.contains "resume" then return ← stop "resume"
     if st.cfg.say then logInfo m!"resume {j}"
     cont (aCell j) (obAd (gNat j)) (.cell j)
   | some ``Sem.yield =>
     let κ ← tidyHead y.κ
     unless κ.isAppOfArity ``Kont.gen 4 do return ← stop "yield"
     let some j ← genAt κ.getAppArgs[0]! | return ← stop "yield: which generator"
     if st.cfg.say then logInfo m!"yield {j}"
     cont (aCell j) (obAd (gNat j)) (.cell j)
   | some ``Sem.load | some ``Sem.loadIfAlive =>
     let a := as[1]!
     match ← placeOf y a with
     | some k => cont (aCell k) (obAd y.news[k]!.1) (.cell k)
     | none =>
       let a1 ← kw a
       if a1.isRawNatLit then cont aTop none .top else
       match ← find a with
       | some k => cont (aCell k) (obAd y.news[k]!.1) (.cell k)
       | none =>
         let (R?, T) := tailParts y.tail
         match ← proveGet 60 T a1 with
         | some (o, h) =>
           let mem := match R? with
            | some R => mkAppN (mkConst ``mem_back) #[R, T, a1, o, h]
            | none => mkAppN (mkConst ``getL_mem) #[T, a1, o, h]
           cont (fun A' => mkAppN (mkConst ``AnT.got) #[V, g₀, mkRawNatLit y.news.length, o, A']) (some (mkApp4 (mkConst ``O1.get) y.tail a1 o mem)) (.got y.news.length y.tail a1 o mem)
         | none => stop s!"load of an unknown cell {← showShort a1}"
   | some ``Sem.update =>
     let a := as[1]!
     match ← find a with
     | some k =>
       if st.cfg.wd then if ← openObj (mkApp as[3]! y.news[k]!.2) then
        let sk := st0.lastN - nNow - 1
        if sk > 0 then rf.steps.modify (·.push (.skip sk))
        rf.steps.modify (·.push .lax)
        return ← cont (fun A' => mkApp4 (mkConst ``AnT.cellL) V g₀ (mkRawNatLit k) A') (obAd y.news[k]!.1) (.cell k)
       cont (aCell k) (obAd y.news[k]!.1) (.cell k)
     | none => stop s!"update of an unknown cell {← showShort (← kw a)}"
   | some ``Sem.call =>
     let md ← tidyHead y.md
     let isSeg := md.isAppOf ``Option.some
     let ar := if isSeg then mkApp3 (mkConst ``Around.over) (mkApp3 (mkConst ``aroundOf) V (mkConst ``Bool.false) y.κ) y.c md.appArg!
      else mkApp2 (mkConst ``Around.under) (mkApp3 (mkConst ``aroundOf) V (mkConst ``Bool.true) y.κ) y.c
     doCall as[1]! (mkApp2 (mkConst ``Around.mark) ar as[2]!)
   | some ``Sem.pure =>
     let c := as[1]!
     let c ← tidyHead c
     unless c.isAppOf ``PySem.Fin.again do throwError "pure?"
     doCall c.appArg! (mkApp3 (mkConst ``aroundOf) V (mkConst ``Bool.true) y.κ)
   | some ``Sem.stack => if st.cfg.stops.contains "stack" then stop "stack" else
     if st.cfg.lies then do
      let sk := st0.lastN - nNow - 1
      if sk > 0 then rf.steps.modify (·.push (.skip sk))
      cont (fun A' => mkApp3 (mkConst ``AnT.stk) V g₀ A') none .stk
     else cont aGo none .go
   | some ``Sem.genState =>
     let some j ← genAt as[1]! | stop "genState: which generator"
     cont (aCell j) (obAd (gNat j)) (.cell j)
   | some n => stop s!"{n.getString!}"
   | none => stop "?"
def candOf (nm : Name) (L : Lean.Expr) : MetaM (Option Cand) := do
 let r ← withoutModifyingState do
  let (_, _, T) ← forallMetaTelescope (← inferType L)
  let T ← whnfR T
  let some (T, _) ← underEx T | return none
  unless T.isAppOfArity ``Ctr 13 do return none
  let c ← whnfR T.getAppArgs[7]!
  let c ← if ← ctor? c then pure c else whnf c
  if c.getAppFn.isMVar then return none
  let w ← codeWordM c
  return some w
 return r.map fun w => { word := w, L, name := nm }
where
 codeWordM (c : Lean.Expr) : MetaM String := do
  match c.getAppFn.constName? with
  | some ``PySem.Code.builtin => return "b:" ++ ((← textOf c.getAppArgs[0]!).getD "?")
  | some ``PySem.Code.call =>
    let f ← whnfR c.getAppArgs[0]!
    match f.getAppFn.constName? with
    | some ``PySem.Value.ref => return s!"call ref {(f.appArg!.rawNatLit?).getD ((f.appArg!.nat?).getD 0)}"
    | some ``PySem.Value.builtin => return "call " ++ ((← textOf f.appArg!).getD "?")
    | some ``PySem.Value.type => return "type " ++ ((← textOf f.appArg!).getD "?")
    | _ => return "call ?"
  | some n => return n.getString!
  | none => return "?"
def someVal : Nat → Lean.Expr → MetaM Lean.Expr
 | 0, ty => throwError "no value of {ty}"
 | n + 1, ty => do
   let ty ← whnf ty
   match ty with
   | .forallE nm d b _ => withLocalDeclD nm d fun x => do mkLambdaFVars #[x] (← someVal n (b.instantiate1 x))
   | _ =>
   if ty.isProp then return mkConst ``True
   if ty.isConstOf ``Nat then return mkRawNatLit 0
   if ty.isConstOf ``Int then return mkApp (mkConst ``Int.ofNat) (mkRawNatLit 0)
   if ty.isConstOf ``Bool then return mkConst ``Bool.false
   if ty.isConstOf ``PySem.Value then return mkConst ``PySem.Value.none
   if ty.isAppOf ``List then return mkApp (mkConst ``List.nil ty.getAppFn.constLevels!) ty.appArg!
   if ty.isAppOf ``Option then return mkApp (mkConst ``Option.none ty.getAppFn.constLevels!) ty.appArg!
   let .const nm ls := ty.getAppFn | throwError "no value of {ty}"
   let some (.inductInfo ii) := (← getEnv).find? nm | throwError "no value of {ty}"
   let cn :: _ := ii.ctors | throwError "no value of {ty}"
   let mut e := mkAppN (mkConst cn ls) (ty.getAppArgs.extract 0 ii.numParams)
   let mut t ← whnf (← inferType e)
   for _ in [0:60] do
    let .forallE _ a b _ := t | break
    let z ← someVal n a
    e := mkApp e z
    t ← whnf (b.instantiate1 z)
   return e
def sayOf (nm : Name) : MetaM (Name × Array Nat) := do
 let L := mkConst nm
 forallTelescope (← inferType L) fun xs T => do
  let T ← whnfR T
  let some (T, _) ← underEx T | throwError "{nm} is no contract"
  unless T.isAppOfArity ``Ctr 13 do throwError "{nm} is no contract"
  let a := T.getAppArgs
  let Q := a[12]!
  let D ← partsOf a Q
  let mut use : Array Bool := xs.map fun x => (D.find? fun q => q == x).isSome
  for _ in [0:xs.size] do
   let mut ch := false
   for k in [0:xs.size] do
    if use[k]! then
     let ty ← inferType xs[k]!
     for j in [0:xs.size] do
      if !use[j]! && (ty.find? fun q => q == xs[j]!).isSome then
       use := use.set! j true
       ch := true
   unless ch do break
  let idx := (Array.range xs.size).filter fun k => use[k]!
  let v ← mkLambdaFVars (idx.map fun k => xs[k]!) D
  let ln := (`Mine.say).append nm
  unless (← getEnv).contains ln do
   addDecl (.defnDecl { name := ln, levelParams := [], type := ← inferType v, value := v, hints := .abbrev, safety := .safe })
  return (ln, idx)
where
 partsOf (a : Array Lean.Expr) (Q : Lean.Expr) : MetaM Lean.Expr := do
  let q := Q.getAppArgs
  let hd := a.extract 6 12
  if Q.isAppOfArity ``exQ 7 then return mkAppN (mkConst ``ND.mk) (#[q[0]!] ++ hd ++ q.extract 1 7)
  if Q.isAppOfArity ``oneQ 5 then
   return mkAppN (mkConst ``CD.mk) (hd ++ #[mkApp3 (mkConst ``Except.ok [0, 0]) (mkConst ``Value) (mkConst ``Flow) (mkApp (mkConst ``Flow.ret) q[0]!)] ++ q.extract 1 5)
  if Q.isAppOfArity ``resQ 5 then return mkAppN (mkConst ``CD.mk) (hd ++ q)
  throwError "a post of another kind {Q.getAppFn}"
def buildAns (V g₀ parF parOf : Lean.Expr) (lets : Array (Lean.Expr × Lean.Expr)) (binds tysP : Array (Lean.Expr × Lean.Expr)) (steps : Array StepR) (leaf gApp S0 : Lean.Expr)
    (k : (L F ans : Lean.Expr) → (T g : Lean.Expr) → MetaM Lean.Expr) : MetaM Lean.Expr := do
 let tp ← tpls
 let short (e : Lean.Expr) : MetaM Lean.Expr := do closeOff (foldAll tp (normPar (← Core.betaReduce (← instantiateMVars e))))
 let tIT := mkConst ``IT
 let tys := tysP.map (·.1)
 let Lst := (← tys.mapM fun ty => do return mkApp2 (mkConst ``IT.mk) ty (← someVal 30 ty)).toList.foldr (fun x r => mkApp3 (mkConst ``List.cons [1]) tIT x r) (mkApp (mkConst ``List.nil [1]) tIT)
 let NL := mkApp (mkConst ``Names) Lst
 let unlet (e : Lean.Expr) : Lean.Expr := (e.replaceFVars (lets.map (·.1)) (lets.map (·.2)))
 let unlet (e : Lean.Expr) : Lean.Expr := unlet (unlet (unlet e))
 let nB := binds.size
 let xsB := binds.map (·.1)
 let hsB := binds.map (·.2)
 let nm (ρ : Lean.Expr) (j : Nat) := mkApp ρ (mkRawNatLit j)
 let tPr := mkSort .zero
 let facts ← tysP.mapM fun (_, P) => do
  let P ← short (← instantiateMVars P)
  withLocalDeclD `ρ NL fun ρ => do mkLambdaFVars #[ρ] ((unlet (normPar P)).replaceFVars xsB ((Array.range nB).map fun j => nm ρ j))
 let tF := Lean.mkForall `ρ .default NL tPr
 let Fst := listOfE tF facts.toList (nilOf tF)
 let FxE (b : Nat) (ρ : Lean.Expr) := mkAppN (mkConst ``Fx) #[Lst, Fst, mkRawNatLit b, ρ]
 let put (e ρ H : Lean.Expr) : Lean.Expr :=
  (unlet e).replaceFVars (xsB ++ hsB) ((Array.range nB).map (fun j => nm ρ j) ++ (Array.range nB).map fun j => mkApp2 H (mkRawNatLit j) (rflAt (mkConst ``Bool) (mkConst ``Bool.true)))
 let putD (e ρ : Lean.Expr) : Lean.Expr := (unlet e).replaceFVars xsB ((Array.range nB).map fun j => nm ρ j)
 let pre (c : Name) (b? : Option Nat) : Lean.Expr :=
  let e := mkAppN (mkConst c) #[V, g₀, Lst, Fst]
  match b? with | some b => mkApp e (mkRawNatLit b) | none => e
 let mut b := 0
 let mut todo : Array (Lean.Expr → MetaM Lean.Expr) := #[]
 let lN := mkApp (mkConst ``List [0]) tPair
 let tG := mkApp (mkConst ``List [0]) tGen
 for s in steps do
  let b0 := b
  match s with
  | .cell k => todo := todo.push fun r => return mkApp2 (pre ``An3.cell none) (mkRawNatLit k) r
  | .top => todo := todo.push fun r => return mkApp (pre ``An3.top none) r
  | .go => todo := todo.push fun r => return mkApp (pre ``An3.go none) r
  | .skip k => todo := todo.push fun r => return mkApp2 (pre ``An3.skip none) (mkRawNatLit k) r
  | .lax => todo := todo.push fun r => return mkApp (pre ``An3.lax none) r
  | .stk =>
    b := b + 1
    todo := todo.push fun r => do
     let idT := Lean.mkLambda `x .default tys[b0]! (.bvar 0)
     return mkAppN (pre ``An3.stk (some b0)) #[idT, idT, Lean.mkLambda `y .default tys[b0]! (mkApp2 (mkConst ``Eq.refl [1]) tys[b0]! (.bvar 0)), r]
  | .wd ix α a w F chc C h => todo := todo.push fun r => do
    let tI := mkApp2 (mkConst ``Prod [0, 0]) (mkConst ``Nat) (mkConst ``Addr)
    let Sx ← withLocalDeclD `ρ NL fun ρ => do
     let ixE := putD (listOfE tI (ix.map fun (k, a) => mkApp4 (mkConst ``Prod.mk [0, 0]) (mkConst ``Nat) (mkConst ``Addr) (mkRawNatLit k) a) (nilOf tI)) ρ
     let ok ← withLocalDeclD `H (FxE b0 ρ) fun H => withLocalDeclD `C (mkApp2 (mkConst ``CellsAt) V ixE) fun Cv => do mkLambdaFVars #[H, Cv] ((put h ρ H).replaceFVar C Cv)
     let α ← short α
     let a ← short a
     let w ← short w
     let F ← short F
     let chc ← match chc with
      | none => pure none
      | some (y, p, d, A, B) => do pure (some (y, ← short p, ← short d, ← short A, ← short B))
     let pd (e : Lean.Expr) : Lean.Expr := putD e ρ
     let w ← match chc with
      | none => pure (mkAppN (mkConst ``WD.mk) #[V, FxE b0 ρ, ixE, pd α, pd a, pd w, pd F, ok])
      | some (true, p, d, A, B) => pure (mkAppN (mkConst ``WD.yes) #[V, FxE b0 ρ, ixE, pd p, pd α, pd d, pd A, pd B, pd F, ok])
      | some (false, p, d, A, B) => pure (mkAppN (mkConst ``WD.no) #[V, FxE b0 ρ, ixE, pd p, pd α, pd d, pd A, pd B, pd F, ok])
     mkLambdaFVars #[ρ] w
    return mkAppN (pre ``An3.wd (some b0)) #[← finish Sx, r]
  | .got k T a o h => todo := todo.push fun r => do
    let Sx ← withLocalDeclD `ρ NL fun ρ => do
     let ok ← withLocalDeclD `H (FxE b0 ρ) fun H => do mkLambdaFVars #[H] (put h ρ H)
     mkLambdaFVars #[ρ] (mkAppN (mkConst ``GT.mk) #[FxE b0 ρ, putD T ρ, putD a ρ, putD o ρ, ok])
    return mkAppN (pre ``An3.got (some b0)) #[mkRawNatLit k, ← finish Sx, r]
  | .ctr Lp a is kk nn y q named =>
    if named then b := b + 1
    todo := todo.push fun r => do
     let isE := listOfE (mkConst ``Nat) (is.map mkRawNatLit) (nilOf (mkConst ``Nat))
     let cells := (is.map fun k => pairOf y.news[k]!.1 y.news[k]!.2).toArray
     let Sx ← withLocalDeclD `ρ NL fun ρ => withLocalDeclD `q lN fun qv => withLocalDeclD `m (mkConst ``Nat) fun mv => withLocalDeclD `i (mkConst ``Nat) fun iv => withLocalDeclD `gl tG fun gv => do
      let abs (e : Lean.Expr) : Lean.Expr :=
       let e := swapBig y.gl gv e
       let e := swapBig y.m mv e
       swapBig y.i iv e
      let arg (e : Lean.Expr) : MetaM Lean.Expr := do
       let e ← instantiateMVars e
       match ← midOf cells qv e with
       | some e' => return e'
       | none => return abs (normPar e)
      let (Lh, args) := (Lp.getAppFn, Lp.getAppArgs)
      let (D, pf) ← (do
       let (wrap, nmL, as) := if Lh.isConstOf ``And.right then (some args, args[2]!.getAppFn, args[2]!.getAppArgs) else (none, Lh, args)
       if nmL.isConst then
        let (ln, idx) ← sayOf nmL.constName!
        let as' ← as.mapM arg
        let D := mkAppN (mkConst ln) (idx.map fun k => as'[k]!)
        let p := mkAppN nmL as'
        let pf := match wrap with
         | some _ => .proj ``And 1 p
         | none => p
        return (D, pf)
       else
        let as' ← as.mapM arg
        let T ← whnfR (← instantiateForall (← inferType nmL) as')
        let some (T, _) ← underEx T | throwError "no contract"
        let ca := T.getAppArgs
        let D ← sayOf.partsOf ca ca[12]!
        let p := mkAppN nmL as'
        let pf := match wrap with
         | some _ => .proj ``And 1 p
         | none => p
        return (normPar D, pf))
      let ok ← withLocalDeclD `H (FxE b0 ρ) fun H => do mkLambdaFVars #[H] (put pf ρ H)
      let w := if named then mkAppN (mkConst ``WN.mk) #[V, g₀, FxE b0 ρ, tys[b0]!, putD D ρ, ok] else mkAppN (mkConst ``W1.mk) #[V, g₀, FxE b0 ρ, putD D ρ, ok]
      mkLambdaFVars #[ρ, qv, mv, iv, gv] w
     return mkAppN (pre (if named then ``An3.any else ``An3.one) (some b0)) #[isE, mkRawNatLit kk, mkRawNatLit nn, ← finish Sx, r]
 let mut ans := pre ``An3.nil none
 for f in todo.reverse do ans ← f ans
 let T ← withLocalDeclD `S (mkConst ``Stk) fun S => withLocalDeclD `ρ NL fun ρ => do
  mkLambdaFVars #[S, ρ] (← mkArrow (FxE nB ρ) ((putD leaf ρ).replaceFVar S0 S))
 let g ← withLocalDeclD `S (mkConst ``Stk) fun S => withLocalDeclD `ρ NL fun ρ => withLocalDeclD `H (FxE nB ρ) fun H => do
  mkLambdaFVars #[S, ρ, H] ((put gApp ρ H).replaceFVar S0 S)
 k Lst Fst ans T g
where
 swapBig (x y e : Lean.Expr) : Lean.Expr := if x.isLit then e else swapE x y e
 finish (e : Lean.Expr) : MetaM Lean.Expr := do
  let e ← instantiateMVars e
  return e
 midOf (cells : Array Lean.Expr) (q e : Lean.Expr) : MetaM (Option Lean.Expr) := do
  let (e, end?) := if e.isAppOfArity ``HAppend.hAppend 6 then (e.getAppArgs[4]!, some e.getAppArgs[5]!) else (e, none)
  unless e.isAppOfArity ``List.cons 3 && e.appFn!.appFn!.appArg! == tPair do return none
  let mut l : Array Lean.Expr := #[]
  let mut t := e
  for _ in [0:400] do
   if t.isAppOfArity ``List.cons 3 then
    l := l.push t.getAppArgs[1]!
    t := t.appArg!
  if let some e2 := end? then
   unless t.isAppOf ``List.nil do return none
   t := e2
  for j in [0:cells.size] do
   if j + l.size ≤ cells.size && (List.range l.size).all fun d => cells[j + d]! == l[d]! then
    return some (mkAppN (mkConst ``midL) #[mkRawNatLit j, mkRawNatLit l.size, q, t])
  return none
def walk (names : List Name) (hyps : List Name := []) (cfg : QCfg := {}) : TacticM Unit := do
 let big := cfg.fuel
 let g ← getMainGoal
 let (_, g) ← g.intros
 replaceMainGoal [g]
 g.withContext do
 withLCtx (← instantiateLCtxMVars (← getLCtx)) (← getLocalInstances) do
 let (b, n, x) ← readGoal g
 unless b.V.isAppOf ``XV.mk do throwError "V"
 let mut hpar? := none
 for d in ← getLCtx do
  if d.isImplementationDetail then continue
  if d.type.isAppOfArity ``Eq 3 && d.type.getAppArgs[0]!.isConstOf ``PySem.Params then hpar? := some (d.toExpr, d.type.appArg!)
 let wE := b.V.getAppArgs[1]!
 let (hpar, parb) := match hpar? with
  | some q => q
  | none =>
    let p := mkApp (mkConst ``PySem.World.params) wE
    (mkApp2 (mkConst ``Eq.refl [1]) (mkConst ``PySem.Params) p, p)
 let open3 := parb.getAppNumArgs == 3
 let parAt (bb : Lean.Expr) : Lean.Expr := if open3 then mkApp3 parb.getAppFn parb.getAppArgs[0]! bb parb.getAppArgs[2]! else parb
 let par := parAt (mkConst ``Bool.false)
 let x0 := x
 let toF := swapE parb par
 let x : Cur := { x with c := toF x.c, κ := toF x.κ, t := toF x.t, news := x.news.map fun (a, o) => (toF a, toF o), tail := toF x.tail, gl := toF x.gl }
 let mut cands : Array Cand := #[]
 for h in hyps do
  let some d := (← getLCtx).findFromUserName? h | throwError "no {h}"
  match ← candOf h d.toExpr with
  | some c => cands := cands.push { c with gc := true }
  | none => throwError "{h} is no contract"
 for nm in names do
  match ← candOf nm (mkConst nm) with
  | some c => cands := cands.push c
  | none => throwError "{nm} is no contract"
 if cfg.say then for c in cands do IO.println s!"cand {c.name} [{c.word}]"
 let rf : QRef := { ans := ← IO.mkRef #[], bind := ← IO.mkRef #[], left := ← IO.mkRef #[], lets := ← IO.mkRef #[], steps := ← IO.mkRef #[], leaf := ← IO.mkRef none, tys := ← IO.mkRef #[], leftN := ← IO.mkRef 0 }
 let pf ← withLocalDeclD `A (mkApp2 (mkConst ``AnT) b.V b.g₀) fun A => withLocalDeclD `S (mkConst ``Stk) fun S => do
  let st : QSt := { parB := parb, b, par, cfg, start := x, base := ((← getLCtx).erase A.fvarId!).erase S.fvarId!, baseInst := ← getLocalInstances, cands, own := #[S], lastN := big }
  let _ ← goQ rf cfg.most st A (simQE b par big S A x cfg.place)
  let some (leaf, gApp) ← rf.leaf.get | throwError "no leaf"
  let binds := (← rf.bind.get).map fun (_, x, hx) => (x, hx)
  buildAns b.V b.g₀ par parb (← rf.lets.get) binds (← rf.tys.get) (← rf.steps.get) leaf gApp S fun L F ans T gP => do
   let tB := mkConst ``Bool
   let at_ (bb e : Lean.Expr) : Lean.Expr := let e := swapE par (parAt bb) e; swapE parb (parAt bb) e
   let J ← withLocalDeclD `bb tB fun bb => do
    mkLambdaFVars #[bb] (mkAppN (mkConst ``Job.mk) (#[b.V, b.g₀, L, F] ++ (#[parb, ans, x0.c, x0.md, x0.κ, x0.t, x0.newsE, x0.m, x0.i, x0.gl].map (at_ bb))))
   let Tf ← withLocalDeclD `bb tB fun bb => do mkLambdaFVars #[bb] (at_ bb T)
   let bE := if open3 then parb.getAppArgs[1]! else mkConst ``Bool.true
   let stp ← rf.steps.get
   let extra := stp.foldl (fun k s => match s with | .skip _ => k + 1 | .wd .. => k + 1 | _ => k) 0
   let n0 ← rf.leftN.get
   let nE := mkRawNatLit (if cfg.place.isSome then big - n0 - 1 + extra else big)
   let NL := mkApp (mkConst ``Names) L
   let tSN := .forallE `S (mkConst ``Stk) (.forallE `ρ NL (mkApp2 (mkConst ``Prod [0, 0]) (mkApp (mkConst ``List [0]) (mkConst ``Cm)) (mkSort .zero)) .default) .default
   let hh (J : Lean.Expr) := mkApp2 (mkConst ``Eq.refl [1]) tSN (mkAppN (mkConst ``Job.two) #[b.V, b.g₀, L, F, nE, J])
   let gP := mkApp (Lean.mkLambda `bb .default tB (at_ bE gP)) bE
   if open3 then
    return mkAppN (mkConst ``runR) #[b.V, b.g₀, L, F, b.K, J, bE, hpar, nE, mkRawNatLit n, Tf, hh (mkApp J (mkConst ``Bool.true)), hh (mkApp J (mkConst ``Bool.false)), gP]
   let J1 := J.beta #[bE]
   return mkAppN (mkConst ``runR1) #[b.V, b.g₀, L, F, b.K, J1, hpar, nE, mkRawNatLit n, Tf.beta #[bE], hh J1, gP.headBeta]
 let pf ← instantiateMVars pf
 for f in (collectFVars {} pf).fvarIds do
  unless (← getLCtx).contains f do
   let mut who := "?"
   for (h, p) in (← rf.lets.get) do if h.fvarId! == f then who := s!"let {p}"
   for (A, x, hx) in (← rf.bind.get) do
    if x.fvarId! == f then who := "x"
    if hx.fvarId! == f then who := "hx"
    if A.fvarId! == f then who := "A"
   throwError "a name is left: {f.name} {who}"
 g.assign pf
 replaceMainGoal ((← rf.left.get).toList.map (·.1))
 if cfg.say then for (_, w) in (← rf.left.get) do logInfo m!"left: {w}"
def matchEnd : Nat → Cur → Lean.Expr → List Nat → MetaM (Option (List Nat))
 | 0, _, _, _ => return none
 | n + 1, y, p, acc => do
   let p ← instantiateMVars p
   if p.isAppOfArity ``List.cons 3 then
    let c ← whnfR p.getAppArgs[1]!
    let a ← instantiateMVars c.getAppArgs[2]!
    let o ← instantiateMVars c.getAppArgs[3]!
    let mut k := 0
    let mut found := none
    for (b, ob) in y.news do
     if found.isNone && !acc.contains k then
      if a.hasExprMVar then
       if ← commitWhen (do return ((← commitWhen (withReducible (isDefEq o ob))) || (← unifyDeep 40 o (← tidyObj ob))) && (← isDefEq a b)) then found := some k
      else if a == b || (← eqAt a b) then
       if (← commitWhen (withReducible (isDefEq o ob))) || (← unifyDeep 40 o (← tidyObj ob)) then found := some k else throwError "the object of {a}: {← tidyObj ob} is not {o}"
     k := k + 1
    let some kf := found | throwError "no cell of {a}"
    matchEnd n y p.getAppArgs[2]! (acc ++ [kf])
   else if p.isAppOf ``List.nil then return some acc
   else
    unless ← isDefEq p y.tail do
     unless !p.hasExprMVar && (← eqAt p y.tail) do throwError "the rest: {p} is not {y.tail}"
    return some acc
def openName : Nat → Lean.Expr → MetaM Lean.Expr
 | 0, ty => mkFreshExprMVar ty
 | n + 1, ty => do
   let ty ← whnfR ty
   if ty.isAppOfArity ``Prod 2 then
    let a ← openName n ty.getAppArgs[0]!
    let b ← openName n ty.getAppArgs[1]!
    return mkApp4 (mkConst ``Prod.mk ty.getAppFn.constLevels!) ty.getAppArgs[0]! ty.getAppArgs[1]! a b
   if let .const nm _ := ty then
    if (`Mine).isPrefixOf nm then
     if let some (.inductInfo ii) := (← getEnv).find? nm then
      if let [cn] := ii.ctors then
       let mut e := mkConst cn
       let mut t ← inferType e
       for _ in [0:40] do
        let .forallE _ a b _ := t | break
        let z ← openName n a
        e := mkApp e z
        t := b.instantiate1 z
       return e
   mkFreshExprMVar ty
def ands : TacticM Unit := do
 for _ in [0:60] do
  let g ← getMainGoal
  let r ← g.withContext do
   for d in ← getLCtx do
    if d.isImplementationDetail then continue
    let t ← instantiateMVars d.type
    if (← whnfR t).isAppOfArity ``And 2 then
     let cs ← g.cases d.fvarId
     if h : 0 < cs.size then return some cs[0].mvarId
   return none
  match r with
  | some g' => replaceMainGoal (g' :: (← getGoals).tail)
  | none => return
def done (nm : Name := `hR) : TacticM Unit := do
 let g ← getMainGoal
 let (_, g) ← g.intros
 g.withContext do withAssignableSyntheticOpaque do
 let some d := (← getLCtx).findFromUserName? nm | throwError "no {nm}"
 let T ← instantiateMVars (← g.getType)
 unless T.isAppOfArity ``RE 8 do throwError "no end"
 let a := T.getAppArgs
 let (news, tail) ← normNews 400 a[4]!
 let cur : Cur := { c := T, md := T, κ := T, t := T, news, tail, m := a[5]!, i := a[6]!, gl := a[7]! }
 let dT ← instantiateMVars d.type
 let (xs, _, _) ← forallMetaTelescope dT
 let Qb ← instantiateMVars (← inferType xs[6]!)
 let Qw ← whnfR Qb
 let ex? : Option (Lean.Expr × Lean.Expr × Lean.Expr) ← if Qw.isAppOfArity ``Exists 2 then (do
     let ty := Qw.getAppArgs[0]!
     let x ← openName 20 ty
     return some (ty, Qw.getAppArgs[1]!, x)) else pure none
 let Qb := match ex? with
  | some (_, p, x) => (mkApp p x).headBeta
  | none => Qb
 let parts : Nat → Lean.Expr → List Lean.Expr := fun n e => (go n e)
 let all := parts 6 (← projNorm (← whnfR Qb))
 let (p0?, all) := if ex?.isSome then (all.head?, all.drop 1) else (none, all)
 let [p1, p2, p3, p4, p5] := all | throwError "a post of another kind {Qb}"
 let rhs (e : Lean.Expr) : Lean.Expr := e.appArg!
 unless ← unifyDeep 40 (rhs p1) (← tidyRes a[3]!) do throwError "the result {← tidyRes a[3]!} is not {rhs p1}"
 let (pn, pt) ← normNews 400 (rhs p2)
 let _ ← isDefEq pt tail
 let some is ← matchEnd 400 cur (listOfE tPair (pn.map fun (x, y) => pairOf x y) pt) [] | throwError "cells"
 unless ← isDefEq (rhs p3) a[5]! do throwError "m"
 unless ← isDefEq (rhs p4) a[6]! do throwError "i"
 unless ← isDefEq (rhs p5) a[7]! do throwError "gl"
 let isE := listOfE (mkConst ``Nat) (is.map mkRawNatLit) (nilOf (mkConst ``Nat))
 let k := news.length
 let refl (e : Lean.Expr) : MetaM Lean.Expr := do
  let e ← instantiateMVars e
  return mkApp2 (mkConst ``Eq.refl [1]) e.getAppArgs[0]! (rhs e)
 for (x, e) in xs.toList.drop 1 |>.zip [p1, p2, p3, p4, p5] do
  let _ ← isDefEq x (rhs (← instantiateMVars e))
 let ps ← [p1, p2, p3, p4, p5].mapM instantiateMVars
 let mut pf ← refl ps[4]!
 let mut ty := ps[4]!
 for j in [3, 2, 1, 0] do
  pf := mkApp4 (mkConst ``And.intro) ps[j]! ty (← refl ps[j]!) pf
  ty := mkApp2 (mkConst ``And) ps[j]! ty
 let tyAll := ty
 let l ← ps.mapM fun e => do return rhs (← instantiateMVars e)
 let mut left : List MVarId := []
 if let some (tx, p, x) := ex? then
  let p0 ← instantiateMVars p0?.get!
  let h ← mkFreshExprSyntheticOpaqueMVar p0
  left := [h.mvarId!]
  pf := mkApp4 (mkConst ``And.intro) p0 tyAll h pf
  pf := mkApp4 (mkConst ``Exists.intro [1]) tx p (← instantiateMVars x) pf
 let R := mkAppN d.toExpr (#[mkRawNatLit 0] ++ l.toArray ++ #[pf])
 let nE := cur.newsE
 g.assign (← instantiateMVars (mkAppN (mkConst ``re_choose) #[a[0]!, a[1]!, isE, mkRawNatLit k, rflAt (mkConst ``Bool) (mkConst ``Bool.true), a[2]!, mkRawNatLit 0, a[3]!, nE, a[5]!, a[6]!, a[7]!, R]))
 replaceMainGoal left
where
 go : Nat → Lean.Expr → List Lean.Expr
  | 0, e => [e]
  | n + 1, e => if e.isAppOfArity ``And 2 then e.appFn!.appArg! :: go n e.appArg! else [e]
 tidyRes (e : Lean.Expr) : MetaM Lean.Expr := do
  let e ← tidyHead e
  if e.isAppOfArity ``Except.ok 3 then
   let f ← tidyHead e.appArg!
   if f.isAppOfArity ``Flow.ret 1 then return mkApp e.appFn! (mkApp f.appFn! (← tidyVal f.appArg!))
   return mkApp e.appFn! f
  return e
def nameGen (nm : Name) (j : Nat) (say : Bool := true) : TacticM Unit := do
 let g ← getMainGoal
 let (_, g) ← g.intros
 replaceMainGoal (g :: (← getGoals).tail)
 g.withContext do
  let T ← instantiateMVars (← g.getType)
  let gl := if T.isAppOfArity ``RE 8 then T.getAppArgs[7]! else T.getAppArgs[10]!
  let mut l := gl
  for _ in [0:j] do
   l ← kw l
   l := l.getAppArgs[2]!
  l ← kw l
  let e ← tidyHead l.getAppArgs[1]!
  let tp ← bindTpl
  let e ← if e.isAppOfArity ``GenState.fresh 1 then (do
      let c ← tidyHead e.appArg!
      if c.isAppOfArity ``PySem.Code.func 2 then
       let env ← tidyHead c.appArg!
       return mkApp e.appFn! (mkApp2 c.getAppFn c.appFn!.appArg! env)
      return mkApp e.appFn! c) else pure e
  let e ← closeOff (foldBind tp (normPar (← Core.betaReduce e)))
  let fv := (collectFVars {} e).fvarIds
  let lctx ← getLCtx
  let xs := (lctx.decls.toArray.filterMap id).filterMap fun d => if fv.contains d.fvarId then some d.toExpr else none
  let v ← mkLambdaFVars xs e
  let ty ← inferType v
  addDecl (k_addr% "cf")
  if say then logInfo m!"{nm} : {ty}"
def bringOver (env1 : Lean.Environment) (v : Lean.Expr) : MetaM Unit := do
 let rec go : Nat → Array Name → MetaM Unit
  | 0, _ => return ()
  | n + 1, todo => do
    let mut next : Array Name := #[]
    for c in todo do
     unless (← getEnv).contains c do
      if let some (.defnInfo d) := env1.find? c then
       let sub := d.value.getUsedConstants.filter fun x => (`Mine.cl).isPrefixOf x
       let mut late := false
       for x in sub do
        unless (← getEnv).contains x do
         next := next.push x
         late := true
       if late then next := next.push c
       else addDecl (.defnDecl d)
    if next.isEmpty then return ()
    go n next
 go 200 (v.getUsedConstants.filter fun x => (`Mine.cl).isPrefixOf x)
def nameCode (nm : Name) (s : Option Tactic.SavedState := none) : TacticM Unit := do
 let g ← getMainGoal
 let (_, g) ← g.intros
 replaceMainGoal (g :: (← getGoals).tail)
 g.withContext do
  let (_, _, y) ← readGoal g
  let t ← tidyHead y.t
  let c ← tidyHead t.getAppArgs[1]!
  let c ← tidyHead (if t.isAppOf ``Sem.call then c else c.appArg!)
  let tp ← bindTpl
  let clean (e : Lean.Expr) : MetaM Lean.Expr := do closeOff (foldBind tp (normPar (← Core.betaReduce e)))
  let as := c.getAppArgs
  let tV := mkConst ``Value
  let over (vals : List Name) (mk : Array Lean.Expr → MetaM Lean.Expr) : TacticM Unit := do
   let rec go : List Name → Array Lean.Expr → MetaM Lean.Expr
    | [], zs => do
      let e ← clean (← mk zs)
      let fv := (collectFVars {} e).fvarIds
      let xs := ((← getLCtx).decls.toArray.filterMap id).filterMap fun d => if fv.contains d.fvarId && !zs.contains d.toExpr then some d.toExpr else none
      mkLambdaFVars (zs ++ xs) e
    | n :: r, zs => withLocalDeclD n tV fun z => go r (zs.push z)
   let v ← instantiateMVars (← go vals #[])
   let ty ← inferType v
   if let some s := s then
    let env1 ← getEnv
    s.restore
    bringOver env1 v
   addDecl (k_addr% "cf")
   logInfo m!"{nm} : {ty}"
  match c.getAppFn.constName? with
  | some ``PySem.Code.forLoop =>
    let env ← tidyHead as[4]!
    over [`it] fun zs => pure (mkApp5 c.getAppFn as[0]! zs[0]! as[2]! as[3]! env)
  | some ``PySem.Code.compLoop | some ``PySem.Code.compStart =>
    let env ← tidyHead as[4]!
    over [`it, `acc] fun zs => pure (mkApp5 c.getAppFn as[0]! as[1]! zs[0]! zs[1]! env)
  | some ``PySem.Code.whileLoop =>
    let env ← tidyHead as[3]!
    over [] fun _ => pure (mkApp4 c.getAppFn as[0]! as[1]! as[2]! env)
  | _ => over [] fun _ => pure c
def probeCode (nm : Name) (names : List Name) (stop : String) : TacticM Unit := do
 let s ← saveState
 evalTactic (← `(tactic| left))
 evalTactic (← `(tactic| refine Ctr.ofQ ($(mkIdent `Mine.kt1) $(mkIdent `w)) ?_))
 walk names [] { stops := [stop] }
 nameCode nm (some s)
end Mine
namespace Mine
open PySem PySem.Spec PySem.Calls PyProof.Rows PySem.W PySem.W.X
abbrev listO (xs : List Value) (n : Nat) : Obj := ⟨.type "list", none, .seq ⟨xs⟩ n, #[]⟩
abbrev keyIt (a : Addr) (j s n : Nat) : Obj := ⟨.type "dict_keyiterator", none, .fields ⟨[.ref a, .int (Int.ofNat j) 0, .int (Int.ofNat s) 0, .int (Int.ofNat n) 0]⟩, #[]⟩
theorem DE.refs {prog : Program} {w : World} {kvs : List (Int × Value)} {es : List DictEntry} (D : DE prog w kvs es) (hv : ∀ p ∈ kvs, ∃ b, p.2 = .ref b) : ∀ e ∈ es, ∃ hs k t b, e = ⟨hs, .int k t, .ref b⟩ := by
 have P := D.pairs
 clear D
 induction P with
 | nil => intro e he; cases he
 | cons h1 h2 _ ih =>
   rename_i e0 kv es' kvs' _
   intro e he
   rcases List.mem_cons.mp he with rfl | he
   ·obtain ⟨b, hb⟩ := hv _ (.head _)
    obtain ⟨t, ht⟩ := Value.isInt_shape h1
    obtain ⟨hh, kk, vv⟩ := e
    simp only at h2 ht
    exact ⟨hh, kv.1, t, b, by rw [ht, h2, hb]⟩
   ·exact ih (fun p hp => hv p (.tail _ hp)) e he
theorem c_last (w : World) (h₀ : Heap) (K : KT.Holds h₀ 1 0 (kt1 w)) (d : Drawn) (os : OsState) (g₀ : List GenState) (R : News) (m i : Nat) (gl : List GenState) (L : Addr) (xs : List Value) (n : Nat) (t : Tok) (k : Int) (tk : Tok)
 (hv : xs.getLast? = some (.int k tk)) :
 Ctr prog1 w h₀ d os g₀ (aroundL 480) (.call (.builtin "list.__getitem__") ⟨[.ref L, .int (-1) t], []⟩) ((L, listO xs n) :: R) m i gl (oneQ (.int k tk) ((L, listO xs n) :: R) m i gl) := by
 have hp : 0 < xs.length := by
  cases xs with
  | nil => simp at hv
  | cons => simp
 have h1 : (0 : Int) ≤ -1 + (xs.length : Int) := by omega
 have h2 : -1 + (xs.length : Int) < xs.length := by omega
 have h3 : (⟨xs⟩ : Array Value)[(-1 + (xs.length : Int)).toNat]? = some (.int k tk) := by
  rw [List.getElem?_toArray, ← hv, List.getLast?_eq_getElem?]
  congr 1
  omega
 clear hp hv
 walk_at "d"
 walk_at "t"
 walk_at "l"
section
variable (w : World) (h₀ : Heap) (K : KT.Holds h₀ 1 0 (kt1 w)) (d : Drawn) (os : OsState) (g₀ : List GenState) (a : Addr) (es : List DictEntry) (n : Nat) (R : News) (m i : Nat) (gl : List GenState) (k : Int) (t : Tok) (kvs : List (Int × Value)) (D : DE prog1 w kvs es)
include K D
theorem p_len : Ctr prog1 w h₀ d os g₀ (aroundL 480) (.call (.builtin "dict.__len__") ⟨[.ref a], []⟩) ((a, dictO es n) :: R) m i gl (oneQ (.int kvs.length i) ((a, dictO es n) :: R) m (i + 1) gl) := k_len K rfl D
omit K
end
section
variable (w : World) (h₀ : Heap) (K : KT.Holds h₀ 1 0 (kt1 w)) (d : Drawn) (os : OsState) (g₀ : List GenState) (A : Around) (a : Addr) (es : List DictEntry) (n : Nat) (R T : News) (m i : Nat) (gl : List GenState) (k : Int) (t : Tok) (kvs : List (Int × Value))
 (e : getL T a = some (dictO es n)) (D : DE prog1 w kvs es)
include K D e
theorem q_get_some (v : Value) (hv : valueAt kvs k = some v) : Ctr prog1 w h₀ d os g₀ A (.call (.builtin "dict.get") ⟨[.ref a, .int k t], []⟩) (R ++ T) m i gl (oneQ v (R ++ T) m (i + 1) gl) :=
 Ctr.read e fun rest => by walk_at "dY"; rwa [hv] at this
theorem q_get_none (hv : valueAt kvs k = none) : Ctr prog1 w h₀ d os g₀ A (.call (.builtin "dict.get") ⟨[.ref a, .int k t], []⟩) (R ++ T) m i gl (oneQ .none (R ++ T) m (i + 1) gl) :=
 Ctr.read e fun rest => by walk_at "dY"; rwa [hv] at this
theorem q_get2_some (dflt v : Value) (hv : valueAt kvs k = some v) : Ctr prog1 w h₀ d os g₀ A (k_addr% "bJ") (R ++ T) m i gl (oneQ v (R ++ T) m (i + 1) gl) :=
 Ctr.read e fun rest => by walk_at "dM"; rwa [hv] at this
theorem q_get2_none (dflt : Value) (hv : valueAt kvs k = none) : Ctr prog1 w h₀ d os g₀ A (k_addr% "bJ") (R ++ T) m i gl (oneQ dflt (R ++ T) m (i + 1) gl) :=
 Ctr.read e fun rest => by walk_at "dM"; rwa [hv] at this
theorem q_has (v : Value) (hv : valueAt kvs k = some v) : Ctr prog1 w h₀ d os g₀ A (k_addr% "bD") (R ++ T) m i gl (oneQ (.bool true) (R ++ T) m (i + 1) gl) :=
 Ctr.read e fun rest => by walk_at "dN"; rwa [hv] at this
theorem q_hasnt (hv : valueAt kvs k = none) : Ctr prog1 w h₀ d os g₀ A (k_addr% "bD") (R ++ T) m i gl (k_addr% "ee") :=
 Ctr.read e fun rest => by walk_at "dN"; rwa [hv] at this
omit K
theorem q_getitem (v : Value) (hv : valueAt kvs k = some v) : Ctr prog1 w h₀ d os g₀ A (k_addr% "bF") (R ++ T) m i gl (oneQ v (R ++ T) m (i + 1) gl) :=
 Ctr.read e fun _ => k_getitem D hv
theorem q_setitem (v : Value) (hz : kvs.length ≤ sizeLine) : Ctr prog1 w h₀ d os g₀ A (k_addr% "eo") (R ++ T) m i gl (oneQ .none (R ++ putL T a (k_addr% "en")) m (i + 1) gl) :=
 Ctr.write e fun _ => x_setitem D hz
theorem q_delitem (v : Value) (hz : kvs.length ≤ sizeLine) (hv : valueAt kvs k = some v) : Ctr prog1 w h₀ d os g₀ A (.call (k_addr% "dD") ⟨[.ref a, .int k t], []⟩) (R ++ T) m i gl (oneQ .none (R ++ putL T a (dictO (dropE es k) (n + 1))) m (i + 1) gl) :=
 Ctr.write e fun _ => x_delitem D hz hv
theorem q_pop (v : Value) (hz : kvs.length ≤ sizeLine) (hv : valueAt kvs k = some v) : Ctr prog1 w h₀ d os g₀ A (.call (.builtin "dict.pop") ⟨[.ref a, .int k t], []⟩) (R ++ T) m i gl (oneQ v (R ++ putL T a (dictO (dropE es k) (n + 1))) m (i + 1) gl) :=
 Ctr.write e fun _ => x_pop D hz hv
end
section
variable (w : World) (h₀ : Heap) (K : KT.Holds h₀ 1 0 (kt1 w)) (d : Drawn) (os : OsState) (g₀ : List GenState) (A : Around) (a : Addr) (es : List DictEntry) (n : Nat) (R : News) (m i : Nat) (gl : List GenState) (k : Int) (t : Tok) (kvs : List (Int × Value))
 (D : DE prog1 w kvs es)
include K D
theorem r_get2_some (dflt v : Value) (hv : valueAt kvs k = some v) : Ctr prog1 w h₀ d os g₀ A (k_addr% "bJ") ((a, dictO es n) :: R) m i gl (oneQ v ((a, dictO es n) :: R) m (i + 1) gl) := by
 walk_at "dU"
 rwa [hv] at this
theorem r_get2_none (dflt : Value) (hv : valueAt kvs k = none) : Ctr prog1 w h₀ d os g₀ A (k_addr% "bJ") ((a, dictO es n) :: R) m i gl (oneQ dflt ((a, dictO es n) :: R) m (i + 1) gl) := by
 walk_at "dU"
 rwa [hv] at this
theorem r_has (v : Value) (hv : valueAt kvs k = some v) : Ctr prog1 w h₀ d os g₀ A (k_addr% "bD") ((a, dictO es n) :: R) m i gl (oneQ (.bool true) ((a, dictO es n) :: R) m (i + 1) gl) := by
 walk_at "dV"
 rwa [hv] at this
theorem r_hasnt (hv : valueAt kvs k = none) : Ctr prog1 w h₀ d os g₀ A (k_addr% "bD") ((a, dictO es n) :: R) m i gl (oneQ (.bool false) ((a, dictO es n) :: R) m (i + 1) gl) := by
 walk_at "dV"
 rwa [hv] at this
omit K
theorem r_setitem (v : Value) (hz : kvs.length ≤ sizeLine) : Ctr prog1 w h₀ d os g₀ A (k_addr% "eo") ((a, dictO es n) :: R) m i gl (oneQ .none ((a, dictO (storeE es k t v) (storeN es k n)) :: R) m (i + 1) gl) :=
 x_setitem D hz
theorem r_getitem (v : Value) (hv : valueAt kvs k = some v) : Ctr prog1 w h₀ d os g₀ A (k_addr% "bF") ((a, dictO es n) :: R) m i gl (oneQ v ((a, dictO es n) :: R) m (i + 1) gl) :=
 k_getitem D hv
end
def dictNames : List Lean.Name := [``q_get_some, ``q_get_none, ``q_get2_some, ``q_get2_none, ``q_has, ``q_hasnt, ``q_getitem, ``q_setitem, ``q_delitem, ``q_pop, ``r_get2_some, ``r_get2_none, ``r_has, ``r_hasnt, ``r_getitem, ``r_setitem]
structure Dat where
 h1 : Int
 k1 : Tok
 x : Int
 tx : Tok
 h2 : Int
 k2 : Tok
 y : Int
 ty : Tok
 flip : Bool
 n : Nat
abbrev Dat.cw (D : Dat) : DictEntry := ⟨D.h1, .str "cw" D.k1, .int D.x D.tx⟩
abbrev Dat.ccw (D : Dat) : DictEntry := ⟨D.h2, .str "ccw" D.k2, .int D.y D.ty⟩
abbrev Dat.es (D : Dat) : List DictEntry := match D.flip with
 | false => [D.cw, D.ccw]
 | true => [D.ccw, D.cw]
abbrev dataO (D : Dat) : Obj := dictO D.es D.n
section
variable (w : World) (h₀ : Heap) (K : KT.Holds h₀ 1 0 (kt1 w)) (d : Drawn) (os : OsState) (g₀ : List GenState) (R : News) (m i : Nat) (gl : List GenState) (x y : Addr) (h1 h2 : Int) (t1 t2 : Tok) (a1 a2 : Int) (u1 u2 : Tok) (n : Nat)
include K
theorem c_update_c : Ctr prog1 w h₀ d os g₀ (aroundL 480) (.call (.builtin "dict.update") ⟨[.ref x, .ref y], []⟩) ((x, dictO [] 0) :: (y, dictO [⟨h1, .str "cw" t1, .int a1 u1⟩, ⟨h2, .str "ccw" t2, .int a2 u2⟩] n) :: R) m i gl
 (oneQ .none ((x, dictO [⟨h1, .str "cw" t1, .int a1 u1⟩, ⟨h2, .str "ccw" t2, .int a2 u2⟩] 2) :: (y, dictO [⟨h1, .str "cw" t1, .int a1 u1⟩, ⟨h2, .str "ccw" t2, .int a2 u2⟩] n) :: R) m i gl) := by
 walk_at "d"
 walk_at "t"
 walk_at "l"
theorem c_update_w : Ctr prog1 w h₀ d os g₀ (aroundL 480) (.call (.builtin "dict.update") ⟨[.ref x, .ref y], []⟩) ((x, dictO [] 0) :: (y, dictO [⟨h1, .str "ccw" t1, .int a1 u1⟩, ⟨h2, .str "cw" t2, .int a2 u2⟩] n) :: R) m i gl
 (oneQ .none ((x, dictO [⟨h1, .str "ccw" t1, .int a1 u1⟩, ⟨h2, .str "cw" t2, .int a2 u2⟩] 2) :: (y, dictO [⟨h1, .str "ccw" t1, .int a1 u1⟩, ⟨h2, .str "cw" t2, .int a2 u2⟩] n) :: R) m i gl) := by
 walk_at "d"
 walk_at "t"
 walk_at "l"
end
section
variable (w : World) (h₀ : Heap) (K : KT.Holds h₀ 1 0 (kt1 w)) (d : Drawn) (os : OsState) (g₀ : List GenState) (R : News) (m i : Nat) (gl : List GenState) (a : Addr) (t : Tok) (D : Dat)
include K
theorem c_cw : Ctr prog1 w h₀ d os g₀ (aroundL 480) (k_addr% "ep") ((a, dataO D) :: R) m i gl (oneQ (.int D.x D.tx) ((a, dataO D) :: R) m (i + 1) gl) := by
 walk_at "ey"
 cases f
 all_goals
  walk_at "d"
  rcases Decidable.em (k1 = t) with rfl | e1
  ·walk_at "t"
   walk_at "l"
  ·walk_at "t"
   walk_at "l"
theorem c_ccw : Ctr prog1 w h₀ d os g₀ (aroundL 480) (k_addr% "ej") ((a, dataO D) :: R) m i gl (oneQ (.int D.y D.ty) ((a, dataO D) :: R) m (i + 1) gl) := by
 walk_at "ey"
 cases f
 all_goals
  walk_at "d"
  rcases Decidable.em (k2 = t) with rfl | e1
  ·walk_at "t"
   walk_at "l"
  ·walk_at "t"
   walk_at "l"
theorem c_cw_set (z : Int) (tz : Tok) : Ctr prog1 w h₀ d os g₀ (aroundL 480) (.call (k_addr% "aA") ⟨[.ref a, .str "cw" t, .int z tz], []⟩) ((a, dataO D) :: R) m i gl
 (oneQ .none ((a, dataO { D with x := z, tx := tz }) :: R) m (i + 1) gl) := by
 walk_at "ey"
 cases f
 all_goals
  walk_at "d"
  rcases Decidable.em (k1 = t) with rfl | e1
  ·walk_at "t"
   walk_at "l"
  ·walk_at "t"
   walk_at "l"
theorem c_ccw_set (z : Int) (tz : Tok) : Ctr prog1 w h₀ d os g₀ (aroundL 480) (.call (k_addr% "aA") ⟨[.ref a, .str "ccw" t, .int z tz], []⟩) ((a, dataO D) :: R) m i gl
 (oneQ .none ((a, dataO { D with y := z, ty := tz }) :: R) m (i + 1) gl) := by
 walk_at "ey"
 cases f
 all_goals
  walk_at "d"
  rcases Decidable.em (k2 = t) with rfl | e1
  ·walk_at "t"
   walk_at "l"
  ·walk_at "t"
   walk_at "l"
variable (T : News) (e : getL T a = some (dataO D))
include e
theorem q_cw : Ctr prog1 w h₀ d os g₀ (aroundL 480) (k_addr% "ep") (R ++ T) m i gl (oneQ (.int D.x D.tx) (R ++ T) m (i + 1) gl) :=
 Ctr.read e fun _ => c_cw w h₀ K d os g₀ _ m i gl a t D
theorem q_ccw : Ctr prog1 w h₀ d os g₀ (aroundL 480) (k_addr% "ej") (R ++ T) m i gl (oneQ (.int D.y D.ty) (R ++ T) m (i + 1) gl) :=
 Ctr.read e fun _ => c_ccw w h₀ K d os g₀ _ m i gl a t D
theorem q_cw_set (z : Int) (tz : Tok) : Ctr prog1 w h₀ d os g₀ (aroundL 480) (.call (k_addr% "aA") ⟨[.ref a, .str "cw" t, .int z tz], []⟩) (R ++ T) m i gl (oneQ .none (R ++ putL T a (dataO { D with x := z, tx := tz })) m (i + 1) gl) :=
 Ctr.write e fun _ => c_cw_set w h₀ K d os g₀ _ m i gl a t D z tz
theorem q_ccw_set (z : Int) (tz : Tok) : Ctr prog1 w h₀ d os g₀ (aroundL 480) (.call (k_addr% "aA") ⟨[.ref a, .str "ccw" t, .int z tz], []⟩) (R ++ T) m i gl (oneQ .none (R ++ putL T a (dataO { D with y := z, ty := tz })) m (i + 1) gl) :=
 Ctr.write e fun _ => c_ccw_set w h₀ K d os g₀ _ m i gl a t D z tz
end
def datNames : List Lean.Name := [``q_cw, ``q_ccw, ``q_cw_set, ``q_ccw_set, ``c_update_c, ``c_update_w]
abbrev selfO (dI : Addr) : Obj := ⟨.ref 892, some dI, .plain, #[]⟩
abbrev instO (t1 t2 t3 t4 t5 n1 : Nat) (h1 h2 h3 h4 h5 : Int) (gd nd sd pd : Addr) : Obj := dictO [ent h1 "graph" t1 gd, ent h2 "_node" t2 nd, ent h3 "_adj" t3 sd, ent h4 "_succ" t4 sd, ent h5 "_pred" t5 pd] n1
theorem up (m x : Nat) {k : Nat} (h : x = m + k) : m ≤ x := h ▸ Nat.le_add_right m k
def parB (p : Params) (b b2 : Bool) : Params := { p with followText := fun s => if s = "special-get-raises" then b else if s = "comprehension-iter-twice" then b2 else p.followText s }
end Mine
section
variable (w : PySem.World) (b1 b2 : Bool) (hpar : w.params = Mine.parB w.params b1 b2) (h₀ : PySem.Heap) (K : PySem.W.X.KT.Holds h₀ 1 0 (Mine.kt1 w)) (d : PySem.Drawn) (os : PySem.OsState) (g₀ : List PySem.GenState)
namespace Mine
open PySem PySem.Spec PySem.Calls PyProof.Rows PySem.W PySem.W.X
section
variable (R T : News) (m i : Nat) (gl : List GenState)
include K
theorem c_int_ne (a b : Int) (ta tb : Tok) (e : a ≠ b) : Ctr prog1 w h₀ d os g₀ (aroundL 480) (.call (.builtin "int.__ne__") ⟨[.int a ta, .int b tb], []⟩) R m i gl (oneQ (.bool true) R m i gl) := by
 walk_at "d"
 walk_at "t"
 walk_at "z"
theorem c_int_ne' (a b : Int) (ta tb : Tok) (e : a = b) : Ctr prog1 w h₀ d os g₀ (aroundL 480) (.call (.builtin "int.__ne__") ⟨[.int a ta, .int b tb], []⟩) R m i gl (oneQ (.bool false) R m i gl) := by
 walk_at "d"
 walk_at "t"
 walk_at "z"
variable (a : Addr) (es : List DictEntry) (n : Nat)
theorem c_len_pos (kvs : List (Int × Value)) (D : DE prog1 w kvs es) (q : Nat) (hl : kvs.length = q + 1) (hq : kvs.length ≤ 500) : Ctr prog1 w h₀ d os g₀ (aroundL 470) (k_addr% "ev") ((a, dictO es n) :: R) m i gl (oneQ (.int (Int.ofNat (q + 1)) (i + 1)) ((a, dictO es n) :: R) m (i + 2) gl) := by
 have h1 : ¬ (2:Int)^63 ≤ (kvs.length : Int) := by omega
 have h2 := p_len w h₀ K d os g₀ a es n R m i gl kvs D
 rw [← hl]
 walk_at "d"
 run_tac Mine.walk [] [`h2] { wd := true }
 walk_at "l"
theorem c_len_zero (D : DE prog1 w [] es) : Ctr prog1 w h₀ d os g₀ (aroundL 470) (k_addr% "ev") ((a, dictO es n) :: R) m i gl (oneQ (.int (Int.ofNat 0) (i + 1)) ((a, dictO es n) :: R) m (i + 2) gl) := by
 have h2 := p_len w h₀ K d os g₀ a es n R m i gl [] D
 walk_at "d"
 run_tac Mine.walk [] [`h2] { wd := true }
 walk_at "l"
end
section
variable (R T : News) (m i : Nat) (gl : List GenState) (a : Addr) (es : List DictEntry) (n : Nat) (kvs : List (Int × Value)) (e : getL T a = some (dictO es n))
include K e
theorem q_len_pos (D : DE prog1 w kvs es) (q : Nat) (hl : kvs.length = q + 1) (hq : kvs.length ≤ 500) : Ctr prog1 w h₀ d os g₀ (aroundL 470) (k_addr% "ev") (R ++ T) m i gl (oneQ (.int (Int.ofNat (q + 1)) (i + 1)) (R ++ T) m (i + 2) gl) :=
 Ctr.read e fun _ => c_len_pos w h₀ K d os g₀ _ m i gl a es n kvs D q hl hq
theorem q_len_zero (D : DE prog1 w [] es) : Ctr prog1 w h₀ d os g₀ (aroundL 470) (k_addr% "ev") (R ++ T) m i gl (oneQ (.int (Int.ofNat 0) (i + 1)) (R ++ T) m (i + 2) gl) :=
 Ctr.read e fun _ => c_len_zero w h₀ K d os g₀ _ m i gl a es n D
end
abbrev tupO (xs : List Value) : Obj := ⟨.type "tuple", none, .seq ⟨xs⟩ 0, #[]⟩
abbrev stopO (a : Addr) : Obj := ⟨.type "StopIteration", none, .fields ⟨[.ref a, .none, .none, .none, .bool false, .none]⟩, #[]⟩
abbrev keyItEnd (j s n : Nat) : Obj := ⟨.type "dict_keyiterator", none, .fields ⟨[.none, .int (Int.ofNat j) 0, .int (Int.ofNat s) 0, .int (Int.ofNat n) 0]⟩, #[]⟩
section
variable (R T : News) (m i : Nat) (gl : List GenState) (a I : Addr) (es : List DictEntry) (n : Nat)
include K
theorem c_keynext (j : Nat) (hs : Int) (k : Int) (t : Tok) (b : Addr) (he : (⟨es⟩ : Array DictEntry)[j]? = some ⟨hs, .int k t, .ref b⟩) : Ctr prog1 w h₀ d os g₀ (aroundL 480) (k_addr% "aZ") ((I, keyIt a j es.length n) :: (a, dictO es n) :: R) m i gl
 (oneQ (.int k t) ((I, keyIt a (j + 1) es.length n) :: (a, dictO es n) :: R) m i gl) := by
 walk_at "fa"
 walk_at "d"
 walk_at "t"
 walk_at "z"
theorem c_keynext_end (j : Nat) (he : (⟨es⟩ : Array DictEntry)[j]? = none) : Ctr prog1 w h₀ d os g₀ (aroundL 480) (k_addr% "aZ") ((I, keyIt a j es.length n) :: (a, dictO es n) :: R) m i gl
 (resQ (.error (.ref (m + 1))) ((m + 1, stopO m) :: (m, tupO []) :: (I, keyItEnd j es.length n) :: (a, dictO es n) :: R) (m + 2) i gl) := by
 walk_at "fa"
 walk_at "d"
 walk_at "t"
 walk_at "z"
variable (e : getL T a = some (dictO es n))
include e
theorem q_keynext (j : Nat) (hs : Int) (k : Int) (t : Tok) (b : Addr) (he : (⟨es⟩ : Array DictEntry)[j]? = some ⟨hs, .int k t, .ref b⟩) : Ctr prog1 w h₀ d os g₀ (aroundL 480) (k_addr% "aZ") ((I, keyIt a j es.length n) :: (R ++ T)) m i gl
 (oneQ (.int k t) ((I, keyIt a (j + 1) es.length n) :: (R ++ T)) m i gl) :=
 Ctr.rd (P := [_]) (P' := [_]) e fun rest => c_keynext w h₀ K d os g₀ rest m i gl a I es n j hs k t b he
theorem q_keynext_end (j : Nat) (he : (⟨es⟩ : Array DictEntry)[j]? = none) : Ctr prog1 w h₀ d os g₀ (aroundL 480) (k_addr% "aZ") ((I, keyIt a j es.length n) :: (R ++ T)) m i gl
 (k_addr% "eH") :=
 Ctr.rd (P := [_]) (P' := [_, _, _]) e fun rest => c_keynext_end w h₀ K d os g₀ rest m i gl a I es n j he
end
abbrev methO (f o : Addr) : Obj := ⟨.type "method", none, .fields ⟨[.ref f, .ref o]⟩, #[]⟩
abbrev superO (o : Addr) : Obj := ⟨.type "super", none, .fields ⟨[.ref 892, .ref o, .ref 892]⟩, #[]⟩
theorem c_supget (w : World) (h₀ : Heap) (K : KT.Holds h₀ 1 0 (kt1 w)) (d : Drawn) (os : OsState) (g₀ : List GenState) (R : News) (m i : Nat) (gl : List GenState) (s o dI : Addr) (t : Tok) :
 Ctr prog1 w h₀ d os g₀ (aroundL 470) (.call (.builtin "super.__getattribute__") ⟨[.ref s, .str "add_edge" t], []⟩) ((s, superO o) :: (o, selfO dI) :: R) m i gl
 (oneQ (.ref m) ((m, methO 621 o) :: (s, superO o) :: (o, selfO dI) :: R) (m + 1) i gl) := by
 walk_at "d"
 walk_at "t"
 walk_at "l"
theorem c_diter (w : World) (h₀ : Heap) (K : KT.Holds h₀ 1 0 (kt1 w)) (d : Drawn) (os : OsState) (g₀ : List GenState) (R : News) (m i : Nat) (gl : List GenState) (a : Addr) (es : List DictEntry) (n : Nat) :
 Ctr prog1 w h₀ d os g₀ (aroundL 470) (.call (.builtin "dict.__iter__") ⟨[.ref a], []⟩) ((a, dictO es n) :: R) m i gl (oneQ (.ref m) ((m, keyIt a 0 es.length n) :: (a, dictO es n) :: R) (m + 1) i gl) := by
 walk_at "d"
 walk_at "t"
 walk_at "l"
theorem q_diter (w : World) (h₀ : Heap) (K : KT.Holds h₀ 1 0 (kt1 w)) (d : Drawn) (os : OsState) (g₀ : List GenState) (R T : News) (m i : Nat) (gl : List GenState) (a : Addr) (es : List DictEntry) (n : Nat) (e : getL T a = some (dictO es n)) :
 Ctr prog1 w h₀ d os g₀ (aroundL 470) (.call (.builtin "dict.__iter__") ⟨[.ref a], []⟩) (R ++ T) m i gl (oneQ (.ref m) ((m, keyIt a 0 es.length n) :: (R ++ T)) (m + 1) i gl) :=
 Ctr.readN (N := [_]) e fun _ => c_diter w h₀ K d os g₀ _ m i gl a es n
section
variable (a : Addr) (es : List DictEntry) (n : Nat)
 (hall : ∀ e ∈ es, ∃ hs k t b, e = ⟨hs, .int k t, .ref b⟩)
include K
theorem x_ext_end (R : News) (m i : Nat) (gl : List GenState) (L I : Addr) (j : Nat) (xs : List Value) (nL : Nat) (hlt : ¬ Int.ofNat j < 0) (he : (⟨es⟩ : Array DictEntry)[j]? = none) :
 Ctr prog1 w h₀ d os g₀ (aroundL 480) (k_addr% "bN") (k_addr% "aI") m i gl
  (oneQ .none ((L, listO xs nL) :: (a, dictO es n) :: R) (m + 2) i gl) := by
 walk_at "d"
 walk_at "t"
 exact re_choose [3, 4] 5 rfl (hR 0 _ _ _ _ _ ⟨rfl, rfl, rfl, rfl, rfl⟩)
theorem x_ext_go (R : News) (m i : Nat) (gl : List GenState) (L I : Addr) (j : Nat) (xs : List Value) (nL : Nat) (hs k : Int) (t : Tok) (b : Addr) (zs : List Value) (hlt : ¬ Int.ofNat j < 0) (he : (⟨es⟩ : Array DictEntry)[j]? = some ⟨hs, .int k t, .ref b⟩)
 (hz : ¬ sizeLine + 1 < (PySem.W.R.concatR xs (.int k t)).length)
 (IH : ∀ nL', Ctr prog1 w h₀ d os g₀ (aroundL 480) (k_addr% "bN") ((I, keyIt a (j + 1) es.length n) :: (L, listO (PySem.W.R.concatR xs (.int k t)) nL') :: (a, dictO es n) :: R) m i gl
  (k_addr% "dt")) :
 Ctr prog1 w h₀ d os g₀ (aroundL 480) (k_addr% "bN") (k_addr% "aI") m i gl
  (k_addr% "dt") := by
 walk_at "d"
 run_tac Mine.walk [] [`IH] { wd := true }
 intro x
 walk_at "bn"
include hall
theorem x_ext (hlen : es.length < 1000) (R : News) (m i : Nat) (gl : List GenState) (L I : Addr) : ∀ (q j : Nat) (xs : List Value) (nL : Nat), j + q = es.length → xs.length < 1000 - q →
 Ctr prog1 w h₀ d os g₀ (aroundL 480) (k_addr% "bN") (k_addr% "aI") m i gl
  (exQ Nat (fun _ => True) (k_addr% "s") (fun x => (L, listO (xs ++ (es.drop j).map (·.key)) x) :: (a, dictO es n) :: R) (fun _ => m + 2) (fun _ => i) (fun _ => gl)) := by
 intro q
 induction q with
 | zero =>
   intro j xs nL hj hx
   rw [List.drop_eq_nil_of_le (show es.length ≤ j by omega), List.map_nil, List.append_nil]
   refine (x_ext_end w h₀ K d os g₀ a es n R m i gl L I j xs nL (by simp) (by simp; omega)).mono ?_
   walk_at "af"
   exact ⟨nL, trivial, rfl, rfl, rfl, rfl, rfl⟩
 | succ q ih =>
   intro j xs nL hj hx
   have hjl : j < es.length := by omega
   obtain ⟨hs, k, t, b, hee⟩ := hall es[j] (List.getElem_mem hjl)
   have cc : PySem.W.R.concatR xs (.int k t) = xs ++ [.int k t] := by walk_at "by"
   have ee : xs ++ (es.drop j).map (·.key) = PySem.W.R.concatR xs (.int k t) ++ (es.drop (j + 1)).map (·.key) := by rw [cc, List.drop_eq_getElem_cons hjl, hee]; simp
   rw [ee]
   refine x_ext_go w h₀ K d os g₀ a es n R m i gl L I j xs nL hs k t b _ (by simp) (by rw [← hee]; simp [hjl]) ?_ fun nL' => ih (j + 1) _ nL' (by omega) (by rw [cc]; simp; omega)
   rw [cc]; simp; have : sizeLine ≥ 1000 := by decide +kernel
   omega
theorem x_list_keys (hlen : es.length < 500) (R : News) (m i : Nat) (gl : List GenState) :
 Ctr prog1 w h₀ d os g₀ (aroundL 470) (.call (.type "list") ⟨[.ref a], []⟩) ((a, dictO es n) :: R) m i gl
  (exQ Nat (fun _ => True) (k_addr% "dr") (fun x => [(m, listO (es.map (·.key)) x)] ++ (a, dictO es n) :: R) (fun _ => m + 4) (fun _ => i) (fun _ => gl)) := by
 have E := fun R m i gl L I nL => x_ext w h₀ K d os g₀ a es n hall (by omega) R m i gl L I es.length 0 [] nL (by omega) (by simp; omega)
 walk_at "d"
 run_tac Mine.walk [] [`E] { wd := true }
 intro x
 walk_at "bn"
theorem q_list_keys (hlen : es.length < 500) (R T : News) (m i : Nat) (gl : List GenState) (e : getL T a = some (dictO es n)) :
 Ctr prog1 w h₀ d os g₀ (aroundL 470) (.call (.type "list") ⟨[.ref a], []⟩) (R ++ T) m i gl
  (exQ Nat (fun _ => True) (k_addr% "dr") (fun x => [(m, listO (es.map (·.key)) x)] ++ (R ++ T)) (fun _ => m + 4) (fun _ => i) (fun _ => gl)) :=
 Ctr.readE e fun rest => x_list_keys w h₀ K d os g₀ a es n hall hlen rest m i gl
end
abbrev frO (es : List DictEntry) (n : Nat) : Obj := ⟨.type "frame", none, .dict ⟨es⟩ n, #[]⟩
abbrev genO (g : Nat) (s1 s2 : Str) (k1 k2 : Tok) : Obj := ⟨.type "generator", none, .fields ⟨[.int (Int.ofNat g) 0, .str s1 k1, .str s2 k2]⟩, #[]⟩
section
variable (R T : News) (m i : Nat)
 (o dI gd nd sd pd : Addr) (t1 t2 t3 t4 t5 n1 : Nat) (h1 h2 h3 h4 h5 : Int) (es : List DictEntry) (ns : Nat) (ks : List (Int × Value)) (Ds : DE prog1 w ks es)
 (gs : getL T sd = some (dictO es ns)) (v : Int) (tv : Tok)
include hpar K Ds gs
theorem n_start : Ctr prog1 w h₀ d os g₀ (aroundL 400) (.call (.ref 802) ⟨[.ref o, .int v tv], []⟩) (k_addr% "i") m i [] (fun _ _ _ _ _ => True) := by
 walk_at "d"
 run_tac Mine.walk (Mine.dictNames ++ Mine.datNames)
 run_tac Mine.nameGen `Mine.nb0 0
 exact hR _ _ _ _ _ _ trivial
variable
 (su : Addr) (eu : List DictEntry) (nu : Nat) (ku : List (Int × Value)) (Du : DE prog1 w ku eu) (gu : getL T su = some (dictO eu nu)) (lu : ku.length ≤ 500) (hu : valueAt ks v = some (.ref su))
 (hall : ∀ e ∈ eu, ∃ hs k t b, e = ⟨hs, .int k t, .ref b⟩) (hlen : eu.length < 500) (q : Nat) (hl : ku.length = q + 1) (s : Int) (ts : Tok) (hlast : (eu.map (·.key)).getLast? = some (.int s ts))
 (G f : Addr) (s1 s2 : Str) (k1 k2 : Tok)
include Du gu lu hu hall hlen hl hlast
theorem n_first (a1 a2 : Int) (c1 c2 : Tok) (nf : Nat) : Ctr prog1 w h₀ d os g₀ (aroundL 400) (k_addr% "ay") (k_addr% "C") m i [nb0 f] (fun _ _ _ _ _ => True) := by
 walk_at "d"
 run_tac Mine.walk ([``q_len_pos, ``q_list_keys, ``c_last] ++ Mine.dictNames ++ Mine.datNames)
 run_tac Mine.nameGen `Mine.nb1 0
 exact hR _ _ _ _ _ _ trivial
end
section
variable (R T : News) (m i : Nat)
 (su : Addr) (eu : List DictEntry) (nu : Nat) (ku : List (Int × Value)) (Du : DE prog1 w ku eu) (gu : getL T su = some (dictO eu nu)) (lu : ku.length ≤ 500)
 (G f : Addr) (s1 s2 : Str) (k1 k2 : Tok) (o : Addr) (v s : Int) (tv ts : Tok)
 (dc : Addr) (Dc : Dat) (gdc : getL T dc = some (dataO Dc))
include hpar K Du gu lu gdc
theorem n_second (a1 a2 a3 a4 : Int) (c1 c2 c3 c4 : Tok) (nf : Nat) (S : Stk) (hc : valueAt ku s = some (.ref dc)) (hne : s ≠ Dc.x) :
 Ctr prog1 w h₀ d os g₀ (aroundL 400) (k_addr% "ay") ((k_addr% "V") :: (f, frO [⟨a1, .str "self" c1, .ref o⟩, ⟨a2, .str "v" c2, .int v tv⟩, ⟨a3, .str "succs" c3, .ref su⟩, ⟨a4, .str "start_node" c4, .int s ts⟩] nf) :: (R ++ T)) m i [nb1 f S] (fun _ _ _ _ _ => True) := by
 walk_at "d"
 walk_at "aY"
 run_tac Mine.nameGen `Mine.nb2 0
 exact hR _ _ _ _ _ _ trivial
end
noncomputable abbrev nbA (f : Addr) (p : Pos) : GenState := nb1 f (fun _ => (p, []))
def posS (p1 p2 : Pos) : Stk
 | 1 => (p1, [])
 | _ => (p2, [])
noncomputable abbrev nbB (f : Addr) (p1 p2 : Pos) : GenState := nb2 f (posS p1 p2)
structure Fr1 where
 a1 : Int
 a2 : Int
 a3 : Int
 a4 : Int
 a5 : Int
 c1 : Tok
 c2 : Tok
 c3 : Tok
 c4 : Tok
 c5 : Tok
 n : Nat
abbrev Fr1.es (F : Fr1) (o : Addr) (v : Int) (tv : Tok) (su : Addr) (s : Int) (ts : Tok) : List DictEntry := [⟨F.a1, .str "self" F.c1, .ref o⟩, ⟨F.a2, .str "v" F.c2, .int v tv⟩, ⟨F.a3, .str "succs" F.c3, .ref su⟩, ⟨F.a4, .str "start_node" F.c4, .int s ts⟩]
abbrev Fr1.es2 (F : Fr1) (o : Addr) (v : Int) (tv : Tok) (su : Addr) (s : Int) (ts : Tok) (c : Int) (tc : Tok) : List DictEntry := [⟨F.a1, .str "self" F.c1, .ref o⟩, ⟨F.a2, .str "v" F.c2, .int v tv⟩, ⟨F.a3, .str "succs" F.c3, .ref su⟩, ⟨F.a4, .str "start_node" F.c4, .int s ts⟩, ⟨F.a5, .str "current_node" F.c5, .int c tc⟩]
section
variable (R T : News) (m i : Nat)
 (su : Addr) (eu : List DictEntry) (nu : Nat) (ku : List (Int × Value)) (Du : DE prog1 w ku eu) (gu : getL T su = some (dictO eu nu))
 (G f : Addr) (s1 s2 : Str) (k1 k2 : Tok) (o : Addr) (v s : Int) (tv ts : Tok)
 (dc : Addr) (Dc : Dat) (gdc : getL T dc = some (dataO Dc)) (F : Fr1) (p1 p2 : Pos) (cur : Int) (tcur : Tok)
include hpar K Du gu gdc
theorem n_B (hc : valueAt ku cur = some (.ref dc)) (hne : s ≠ Dc.x) :
 CtrN (Nat × Nat × Pos) (fun _ => True) prog1 w h₀ d os g₀ (aroundL 400) (k_addr% "ay") ((k_addr% "V") :: (f, frO (F.es2 o v tv su s ts cur tcur) F.n) :: (R ++ T)) m i [nbB f p1 p2]
  (fun _ => .ok (.ret (.int Dc.x Dc.tx))) (fun _ => (k_addr% "V") :: (f, frO (F.es2 o v tv su s ts Dc.x Dc.tx) F.n) :: (R ++ T)) (fun x => x.1) (fun x => x.2.1) (fun x => [nbB f p1 x.2.2]) := by
 refine ⟨⟨(0, 0, default), trivial⟩, Ctr.ofQ (kt1 w) fun RR hR => ?_⟩
 walk_at "aY"
 run_tac Mine.done
 trivial
theorem n_B_end (hc : valueAt ku cur = some (.ref dc)) (hne : s = Dc.x) :
 CtrN (Nat × Nat × Addr × Addr) (fun _ => True) prog1 w h₀ d os g₀ (aroundL 400) (k_addr% "ay") ((k_addr% "V") :: (f, frO (F.es2 o v tv su s ts cur tcur) F.n) :: (R ++ T)) m i [nbB f p1 p2]
  (fun x => .error (.ref x.2.2.1)) (fun x => (x.2.2.1, stopO x.2.2.2) :: (x.2.2.2, tupO []) :: (k_addr% "V") :: (R ++ T)) (fun x => x.1) (fun x => x.2.1) (fun x => [.finished]) := by
 walk_at "es"
 walk_at "aY"
 run_tac Mine.done
 trivial
theorem n_A (hc : valueAt ku s = some (.ref dc)) (hne : s ≠ Dc.x) :
 CtrN (Nat × Nat × Pos × Pos × Int × Tok × Nat) (fun _ => True) prog1 w h₀ d os g₀ (aroundL 400) (k_addr% "ay") ((k_addr% "V") :: (f, frO (F.es o v tv su s ts) F.n) :: (R ++ T)) m i [nbA f p1]
  (fun x => .ok (.ret (.int Dc.x Dc.tx))) (fun x => (k_addr% "V") :: (f, frO (({ F with a5 := x.2.2.2.2.1, c5 := x.2.2.2.2.2.1, n := x.2.2.2.2.2.2 } : Fr1).es2 o v tv su s ts Dc.x Dc.tx) x.2.2.2.2.2.2) :: (R ++ T)) (fun x => x.1) (fun x => x.2.1) (fun x => [nbB f x.2.2.1 x.2.2.2.1]) := by
 refine ⟨⟨(0, 0, default, default, 0, 0, 0), trivial⟩, Ctr.ofQ (kt1 w) fun RR hR => ?_⟩
 walk_at "aY"
 run_tac Mine.done
 trivial
theorem n_A_end (hc : valueAt ku s = some (.ref dc)) (hne : s = Dc.x) :
 CtrN (Nat × Nat × Addr × Addr) (fun _ => True) prog1 w h₀ d os g₀ (aroundL 400) (k_addr% "ay") ((k_addr% "V") :: (f, frO (F.es o v tv su s ts) F.n) :: (R ++ T)) m i [nbA f p1]
  (fun x => .error (.ref x.2.2.1)) (fun x => (x.2.2.1, stopO x.2.2.2) :: (x.2.2.2, tupO []) :: (k_addr% "V") :: (R ++ T)) (fun x => x.1) (fun x => x.2.1) (fun x => [.finished]) := by
 walk_at "es"
 walk_at "aY"
 run_tac Mine.done
 trivial
end
section
variable (R T : News) (m i : Nat)
 (o dI gd nd sd pd : Addr) (t1 t2 t3 t4 t5 n1 : Nat) (h1 h2 h3 h4 h5 : Int) (es : List DictEntry) (ns : Nat) (ks : List (Int × Value)) (Ds : DE prog1 w ks es)
 (gs : getL T sd = some (dictO es ns)) (v : Int) (tv : Tok)
 (su : Addr) (eu : List DictEntry) (nu : Nat) (gu : getL T su = some (dictO eu nu)) (hu : valueAt ks v = some (.ref su))
 (G f : Addr) (s1 s2 : Str) (k1 k2 : Tok) (a1 a2 : Int) (c1 c2 : Tok) (nf : Nat)
include hpar K Ds gs gu hu
theorem n_0 (ku : List (Int × Value)) (Du : DE prog1 w ku eu) (lu : ku.length ≤ 500) (hall : ∀ e ∈ eu, ∃ hs k t b, e = ⟨hs, .int k t, .ref b⟩) (hlen : eu.length < 500) (q : Nat) (hl : ku.length = q + 1) (s : Int) (ts : Tok) (hlast : (eu.map (·.key)).getLast? = some (.int s ts)) :
 CtrN (Nat × Nat × Pos × Int × Tok × Int × Tok × Nat) (fun _ => True) prog1 w h₀ d os g₀ (aroundL 400) (k_addr% "ay") (k_addr% "C") m i [nb0 f]
  (fun _ => .ok (.ret (.int s ts))) (fun x => (k_addr% "V") :: (f, frO ((⟨a1, a2, x.2.2.2.1, x.2.2.2.2.2.1, 0, c1, c2, x.2.2.2.2.1, x.2.2.2.2.2.2.1, 0, x.2.2.2.2.2.2.2⟩ : Fr1).es o v tv su s ts) x.2.2.2.2.2.2.2) :: (o, selfO dI) :: (k_addr% "b") :: (R ++ T)) (fun x => x.1) (fun x => x.2.1) (fun x => [nbA f x.2.2.1]) := by
 refine ⟨⟨(0, 0, default, 0, 0, 0, 0, 0), trivial⟩, Ctr.ofQ (kt1 w) fun RR hR => ?_⟩
 run_tac Mine.walk ([``q_len_pos, ``q_list_keys, ``c_last] ++ Mine.dictNames ++ Mine.datNames)
 run_tac Mine.done
 trivial
theorem n_0_end (Du : DE prog1 w [] eu) :
 CtrN (Nat × Nat × Addr × Addr) (fun _ => True) prog1 w h₀ d os g₀ (aroundL 400) (k_addr% "ay") (k_addr% "C") m i [nb0 f]
  (fun x => .error (.ref x.2.2.1)) (fun x => (x.2.2.1, stopO x.2.2.2) :: (x.2.2.2, tupO []) :: (k_addr% "V") :: (o, selfO dI) :: (k_addr% "b") :: (R ++ T)) (fun x => x.1) (fun x => x.2.1) (fun x => [.finished]) := by
 walk_at "es"
 run_tac Mine.walk ([``q_len_zero] ++ Mine.dictNames ++ Mine.datNames)
 run_tac Mine.done
 trivial
end
theorem cc_len {xs : List Value} {v : Value} (h : xs.length < 1000) : ¬ sizeLine + 1 < (PySem.W.R.concatR xs v).length := by
 walk_at "by"
 have : sizeLine ≥ 1000 := by decide +kernel
 simp; omega
def Chain (T : News) (ku : List (Int × Value)) (s : Int) : Int → List (Int × Tok) → Prop
 | cur, [] => ∃ a D, valueAt ku cur = some (.ref a) ∧ getL T a = some (dataO D) ∧ s = D.x
 | cur, p :: ws => ∃ a D, valueAt ku cur = some (.ref a) ∧ getL T a = some (dataO D) ∧ D.x = p.1 ∧ D.tx = p.2 ∧ s ≠ D.x ∧ Chain T ku s p.1 ws
abbrev intV (p : Int × Tok) : Value := .int p.1 p.2
section
variable (R T : News)
 (su : Addr) (eu : List DictEntry) (nu : Nat) (ku : List (Int × Value)) (Du : DE prog1 w ku eu) (gu : getL T su = some (dictO eu nu))
 (L G f : Addr) (s1 s2 : Str) (k1 k2 : Tok) (o : Addr) (v s : Int) (tv ts : Tok) (F : Fr1)
include hpar K Du gu
theorem n_extB_end (m i : Nat) (p1 p2 : Pos) (cur : Int) (tcur : Tok) (xs : List Value) (nL : Nat) (a : Addr) (D : Dat) (h1 : valueAt ku cur = some (.ref a)) (h2 : getL T a = some (dataO D)) (h3 : s = D.x) :
 Ctr prog1 w h₀ d os g₀ (aroundL 390) (k_addr% "G") (k_addr% "bK") m i [nbB f p1 p2]
  (k_addr% "cO") := by
 walk_at "d"
 run_tac Mine.walk [``n_B_end] [] { wd := true }
 rintro ⟨m1, i1, e1, e2⟩
 exact re_choose [3] 4 rfl (hR 0 _ _ _ _ _ ⟨(_, _, _), trivial, rfl, rfl, rfl, rfl, rfl⟩)
theorem n_extB_go (m i : Nat) (p1 p2 : Pos) (cur : Int) (tcur : Tok) (xs zs : List Value) (nL : Nat) (a : Addr) (D : Dat) (h1 : valueAt ku cur = some (.ref a)) (h2 : getL T a = some (dataO D)) (h3 : s ≠ D.x)
 (hz : ¬ sizeLine + 1 < (PySem.W.R.concatR xs (.int D.x D.tx)).length)
 (IH : ∀ m i p2 nL, Ctr prog1 w h₀ d os g₀ (aroundL 390) (k_addr% "G") ((L, listO (PySem.W.R.concatR xs (.int D.x D.tx)) nL) :: (k_addr% "V") :: (f, frO (F.es2 o v tv su s ts D.x D.tx) F.n) :: (R ++ T)) m i [nbB f p1 p2]
  (k_addr% "T")) :
 Ctr prog1 w h₀ d os g₀ (aroundL 390) (k_addr% "G") (k_addr% "bK") m i [nbB f p1 p2]
  (k_addr% "T") := by
 walk_at "d"
 run_tac Mine.walk [``n_B] [`IH] { wd := true }
 intro x
 walk_at "bn"
theorem n_extA_end (m i : Nat) (p1 : Pos) (xs : List Value) (nL : Nat) (a : Addr) (D : Dat) (h1 : valueAt ku s = some (.ref a)) (h2 : getL T a = some (dataO D)) (h3 : s = D.x) :
 Ctr prog1 w h₀ d os g₀ (aroundL 390) (k_addr% "G") (k_addr% "ce") m i [nbA f p1]
  (k_addr% "cO") := by
 walk_at "d"
 run_tac Mine.walk [``n_A_end] [] { wd := true }
 rintro ⟨m1, i1, e1, e2⟩
 exact re_choose [3] 4 rfl (hR 0 _ _ _ _ _ ⟨(_, _, _), trivial, rfl, rfl, rfl, rfl, rfl⟩)
theorem n_extA_go (m i : Nat) (p1 : Pos) (xs zs : List Value) (nL : Nat) (a : Addr) (D : Dat) (h1 : valueAt ku s = some (.ref a)) (h2 : getL T a = some (dataO D)) (h3 : s ≠ D.x)
 (hz : ¬ sizeLine + 1 < (PySem.W.R.concatR xs (.int D.x D.tx)).length)
 (IH : ∀ a5 c5 nn m i p1 p2 nL, Ctr prog1 w h₀ d os g₀ (aroundL 390) (k_addr% "G") ((L, listO (PySem.W.R.concatR xs (.int D.x D.tx)) nL) :: (k_addr% "V") :: (f, frO (({ F with a5 := a5, c5 := c5, n := nn } : Fr1).es2 o v tv su s ts D.x D.tx) nn) :: (R ++ T)) m i [nbB f p1 p2]
  (k_addr% "T")) :
 Ctr prog1 w h₀ d os g₀ (aroundL 390) (k_addr% "G") (k_addr% "ce") m i [nbA f p1]
  (k_addr% "T") := by
 walk_at "d"
 run_tac Mine.walk [``n_A] [`IH] { wd := true }
 intro x
 walk_at "bn"
theorem n_extB (ws : List (Int × Tok)) : ∀ (m i : Nat) (p1 p2 : Pos) (cur : Int) (tcur : Tok) (xs : List Value) (nL : Nat), Chain T ku s cur ws → xs.length + ws.length < 1000 →
 Ctr prog1 w h₀ d os g₀ (aroundL 390) (k_addr% "G") (k_addr% "bK") m i [nbB f p1 p2]
  (k_addr% "cp") := by
 induction ws with
 | nil =>
   intro m i p1 p2 cur tcur xs nL hc hx
   obtain ⟨a, D, h1, h2, h3⟩ := hc
   rw [List.map_nil, List.append_nil]
   exact n_extB_end w b1 b2 hpar h₀ K d os g₀ R T su eu nu ku Du gu L G f s1 s2 k1 k2 o v s tv ts F m i p1 p2 cur tcur xs nL a D h1 h2 h3
 | cons p ws ih =>
   intro m i p1 p2 cur tcur xs nL hc hx
   obtain ⟨c, tc⟩ := p
   obtain ⟨a, D, h1, h2, rfl, rfl, h5, h6⟩ := hc
   walk_at "dk"
   rw [ee]
   exact n_extB_go w b1 b2 hpar h₀ K d os g₀ R T su eu nu ku Du gu L G f s1 s2 k1 k2 o v s tv ts F m i p1 p2 cur tcur xs _ nL a D h1 h2 h5 (cc_len (by simp at hx; omega)) fun m i p2 nL =>
    ih m i p1 p2 _ _ _ nL h6 (by walk_at "by"; simp; simp at hx; omega)
theorem n_extA (ws : List (Int × Tok)) (m i : Nat) (p1 : Pos) (xs : List Value) (nL : Nat) (hc : Chain T ku s s ws) (hx : xs.length + ws.length < 1000) :
 Ctr prog1 w h₀ d os g₀ (aroundL 390) (k_addr% "G") (k_addr% "ce") m i [nbA f p1]
  (k_addr% "cp") := by
 cases ws with
 | nil =>
   obtain ⟨a, D, h1, h2, h3⟩ := hc
   rw [List.map_nil, List.append_nil]
   exact n_extA_end w b1 b2 hpar h₀ K d os g₀ R T su eu nu ku Du gu L G f s1 s2 k1 k2 o v s tv ts F m i p1 xs nL a D h1 h2 h3
 | cons p ws =>
   obtain ⟨c, tc⟩ := p
   obtain ⟨a, D, h1, h2, rfl, rfl, h5, h6⟩ := hc
   walk_at "dk"
   rw [ee]
   exact n_extA_go w b1 b2 hpar h₀ K d os g₀ R T su eu nu ku Du gu L G f s1 s2 k1 k2 o v s tv ts F m i p1 xs _ nL a D h1 h2 h5 (cc_len (by simp at hx; omega)) fun a5 c5 nn m i p1 p2 nL =>
    n_extB w b1 b2 hpar h₀ K d os g₀ R T su eu nu ku Du gu L G f s1 s2 k1 k2 o v s tv ts { F with a5 := a5, c5 := c5, n := nn } ws m i p1 p2 _ _ _ nL h6 (by walk_at "by"; simp; simp at hx; omega)
end
section
variable (R T : News) (m i : Nat)
 (o dI gd nd sd pd : Addr) (t1 t2 t3 t4 t5 n1 : Nat) (h1 h2 h3 h4 h5 : Int) (es : List DictEntry) (ns : Nat) (ks : List (Int × Value)) (Ds : DE prog1 w ks es)
 (gs : getL T sd = some (dictO es ns)) (v : Int) (tv : Tok)
 (su : Addr) (eu : List DictEntry) (nu : Nat) (gu : getL T su = some (dictO eu nu)) (hu : valueAt ks v = some (.ref su))
 (G f : Addr) (s1 s2 : Str) (k1 k2 : Tok) (a1 a2 : Int) (c1 c2 : Tok) (nf : Nat)
include hpar K Ds gs gu hu
theorem n_ext0 (L : Addr) (nL : Nat) (ku : List (Int × Value)) (Du : DE prog1 w ku eu) (lu : ku.length ≤ 500) (hall : ∀ e ∈ eu, ∃ hs k t b, e = ⟨hs, .int k t, .ref b⟩) (hlen : eu.length < 500) (q : Nat) (hl : ku.length = q + 1) (s : Int) (ts : Tok) (hlast : (eu.map (·.key)).getLast? = some (.int s ts))
  (ws : List (Int × Tok)) (hc : Chain T ku s s ws) (hx : ws.length < 900) :
 Ctr prog1 w h₀ d os g₀ (aroundL 380) (k_addr% "G") (k_addr% "aa") m i [nb0 f]
  (k_addr% "bd") := by
 have hz : ¬ sizeLine + 1 < (PySem.W.R.concatR [] (Value.int s ts)).length := by
  show ¬ sizeLine + 1 < 1
  decide +kernel
 have IH : ∀ (F : Fr1) m i p1 nL, Ctr prog1 w h₀ d os g₀ (aroundL 390) (k_addr% "G") ((L, listO (PySem.W.R.concatR [] (.int s ts)) nL) :: (k_addr% "V") :: (f, frO (F.es o v tv su s ts) F.n) :: (o, selfO dI) :: (k_addr% "b") :: (R ++ T)) m i [nbA f p1]
  (k_addr% "bd") := fun F m i p1 nL =>
  n_extA w b1 b2 hpar h₀ K d os g₀ ((o, selfO dI) :: (k_addr% "b") :: R) T su eu nu ku Du gu L G f s1 s2 k1 k2 o v s tv ts F ws m i p1 [.int s ts] nL hc (by simp; omega)
 clear hx hc
 have IH2 := fun z1 z2 z3 z4 z5 d1 d2 d3 d4 d5 zn m i p1 nL => IH ⟨z1, z2, z3, z4, z5, d1, d2, d3, d4, d5, zn⟩ m i p1 nL
 clear IH
 walk_at "d"
 run_tac Mine.walk [``n_0] [`IH2] { wd := true }
 intro x
 walk_at "bn"
theorem n_ext0_end (L : Addr) (nL : Nat) (Du : DE prog1 w [] eu) :
 Ctr prog1 w h₀ d os g₀ (aroundL 380) (k_addr% "G") (k_addr% "aa") m i [nb0 f]
  (exQ (Nat × Nat × Nat) (fun _ => True) (k_addr% "s") (fun x => (L, listO [] x.2.2) :: (o, selfO dI) :: (k_addr% "b") :: (R ++ T)) (fun x => x.1) (fun x => x.2.1) (fun _ => [.finished])) := by
 walk_at "d"
 run_tac Mine.walk [``n_0_end] [] { wd := true }
 rintro ⟨m1, i1, e1, e2⟩
 run_tac Mine.done
 trivial
end
section
variable (R T : News) (m i : Nat)
 (o dI gd nd sd pd : Addr) (t1 t2 t3 t4 t5 n1 : Nat) (h1 h2 h3 h4 h5 : Int) (es : List DictEntry) (ns : Nat) (ks : List (Int × Value)) (Ds : DE prog1 w ks es)
 (gs : getL T sd = some (dictO es ns)) (v : Int) (tv : Tok)
 (su : Addr) (eu : List DictEntry) (nu : Nat) (gu : getL T su = some (dictO eu nu)) (hu : valueAt ks v = some (.ref su))
 (G f : Addr) (s1 s2 : Str) (k1 k2 : Tok) (a1 a2 : Int) (c1 c2 : Tok) (nf : Nat)
 (ku : List (Int × Value)) (Du : DE prog1 w ku eu)
def Row (T : News) (eu : List DictEntry) (ku : List (Int × Value)) : List (Int × Tok) → Prop
 | [] => ku = []
 | (s, ts) :: ws => (∀ e ∈ eu, ∃ hs k t b, e = ⟨hs, .int k t, .ref b⟩) ∧ eu.length < 500 ∧ ku.length ≤ 500 ∧ (∃ q, ku.length = q + 1) ∧ (eu.map (·.key)).getLast? = some (.int s ts) ∧ Chain T ku s s ws ∧ ws.length < 900
include hpar K Ds gs gu hu Du
theorem n_ext (L : Addr) (nL : Nat) (row : List (Int × Tok)) (hr : Row T eu ku row) :
 Ctr prog1 w h₀ d os g₀ (aroundL 380) (k_addr% "G") (k_addr% "aa") m i [nb0 f]
  (exQ (Nat × Nat × Nat) (fun _ => True) (k_addr% "s") (fun x => (L, listO (row.map intV) x.2.2) :: (o, selfO dI) :: (k_addr% "b") :: (R ++ T)) (fun x => x.1) (fun x => x.2.1) (fun _ => [.finished])) := by
 match row, hr with
 | [], hr =>
   have hr : ku = [] := hr
   subst hr
   exact n_ext0_end w b1 b2 hpar h₀ K d os g₀ R T m i o dI gd nd sd pd t1 t2 t3 t4 t5 n1 h1 h2 h3 h4 h5 es ns ks Ds gs v tv su eu nu gu hu G f s1 s2 k1 k2 a1 a2 c1 c2 nf L nL Du
 | (s, ts) :: ws, ⟨q1, q2, q3, ⟨q, q4⟩, q5, q6, q7⟩ =>
   exact n_ext0 w b1 b2 hpar h₀ K d os g₀ R T m i o dI gd nd sd pd t1 t2 t3 t4 t5 n1 h1 h2 h3 h4 h5 es ns ks Ds gs v tv su eu nu gu hu G f s1 s2 k1 k2 a1 a2 c1 c2 nf L nL ku Du q3 q1 q2 q q4 s ts q5 ws q6 q7
theorem n_list (row : List (Int × Tok)) (hr : Row T eu ku row) :
 Ctr prog1 w h₀ d os g₀ (aroundL 370) (.call (.type "list") ⟨[.ref G], []⟩) (k_addr% "C") m i [nb0 f]
  (exQ (Nat × Nat × Nat) (fun _ => True) (k_addr% "dr") (k_addr% "eb") (fun x => x.1) (fun x => x.2.1) (fun _ => [.finished])) := by
 walk_at "d"
 run_tac Mine.walk [``n_ext] [] { wd := true }
 rintro ⟨m1, i1, nL⟩
 run_tac Mine.done
 trivial
theorem q_list_nb (gl₁ : List GenState) (row : List (Int × Tok)) (hr : Row T eu ku row) :
 CtrN (Nat × Nat × Nat) (fun _ => True) prog1 w h₀ d os g₀ (aroundL 370) (.call (.type "list") ⟨[.ref G], []⟩) ((G, genO (g₀.length + gl₁.length) s1 s2 k1 k2) :: (k_addr% "dw") :: (o, selfO dI) :: (k_addr% "b") :: (R ++ T)) m i (PySem.W.R.appendR gl₁ [nb0 f])
  (k_addr% "dr") (k_addr% "eb") (fun x => x.1) (fun x => x.2.1) (fun _ => gl₁ ++ [.finished]) := by
 refine ⟨⟨(0, 0, 0), trivial⟩, ?_⟩
 rw [show PySem.W.R.appendR gl₁ [nb0 f] = gl₁ ++ [nb0 f] from by rw [← PySem.W.R.appendR_eq]; rfl]
 refine Ctr.gens' ?_
 rw [← List.length_append]
 exact n_list w b1 b2 hpar h₀ K d os (g₀ ++ gl₁) R T m i o dI gd nd sd pd t1 t2 t3 t4 t5 n1 h1 h2 h3 h4 h5 es ns ks Ds gs v tv su eu nu gu hu G f s1 s2 k1 k2 a1 a2 c1 c2 nf ku Du row hr
end
section
variable (R T : News) (m i : Nat) (gl : List GenState)
 (o dI gd nd sd pd : Addr) (t1 t2 t3 t4 t5 n1 : Nat) (h1 h2 h3 h4 h5 : Int) (en : List DictEntry) (nn : Nat)
 (gn : getL T nd = some (dictO en nn))
include hpar K gn
theorem g_start : Ctr prog1 w h₀ d os g₀ (aroundL 350) (k_addr% "dg") (k_addr% "i") m i gl (fun _ _ _ _ _ => True) ∨ True := by
 run_tac Mine.probeCode `Mine.gdLoop ([``q_diter] ++ Mine.dictNames ++ Mine.datNames) "forLoop"
 exact Or.inr trivial
end
def GB (gl : List GenState) : Prop := ∀ y ∈ gl, y.bare = true
theorem GB.snoc {gl : List GenState} (h : GB gl) : GB (gl ++ [.finished]) := fun y hy => by
 rcases List.mem_append.mp hy with q | q
 ·exact h y q
 ·rw [List.mem_singleton.mp q]; rfl
structure Vx where
 v : Int
 t : Tok
 l : Addr
 n : Nat
def vxCells (row : Int → List (Int × Tok)) (xs : List Vx) (R : News) : News := xs.foldl (fun R x => (x.l, listO ((row x.v).map intV) x.n) :: R) R
def vxEs (xs : List Vx) (es : List DictEntry) : List DictEntry := xs.foldl (fun es x => storeE es x.v x.t (.ref x.l)) es
def vxN (xs : List Vx) (es : List DictEntry) (n : Nat) : Nat := match xs with
 | [] => n
 | x :: xs => vxN xs (storeE es x.v x.t (.ref x.l)) (storeN es x.v n)
theorem keyIt_end (es : List DictEntry) (j : Nat) (h : j = es.length) : (⟨es⟩ : Array DictEntry)[j]? = none := by simp; omega
section
variable (T : News)
 (o dI gd nd sd pd : Addr) (t1 t2 t3 t4 t5 n1 : Nat) (h1 h2 h3 h4 h5 : Int) (en : List DictEntry) (nn : Nat) (gn : getL T nd = some (dictO en nn))
 (es : List DictEntry) (ns : Nat) (ks : List (Int × Value)) (Ds : DE prog1 w ks es) (gs : getL T sd = some (dictO es ns))
 (row : Int → List (Int × Tok)) (hlen : en.length ≤ 100)
 (hen : ∀ e ∈ en, ∃ hs k t b, e = ⟨hs, .int k t, .ref b⟩ ∧ ∃ su eu nu ku, valueAt ks k = some (.ref su) ∧ getL T su = some (dictO eu nu) ∧ DE prog1 w ku eu ∧ Row T eu ku (row k))
 (I f e : Addr) (a1 a2 a3 : Int) (c1 c2 c3 : Tok) (nf : Nat)
include hpar K gn Ds gs hlen hen
theorem g_loop : ∀ (q j : Nat) (R : News) (m i : Nat) (gl : List GenState) (v : Int) (tv : Tok) (eb : List DictEntry) (nb : Nat) (kb : List (Int × Value)), DE prog1 w kb eb → j + q = en.length → kb.length ≤ 200 - q →
 CtrN (Nat × Nat × Int × Tok × List Vx × List GenState) (fun x => x.2.2.2.2.1.map (fun y => (y.v, y.t)) = (en.drop j).map (k_addr% "cZ") ∧ (GB gl → GB x.2.2.2.2.2)) prog1 w h₀ d os g₀ (aroundL 346) (gdLoop (.ref I) f)
  ((I, keyIt nd j en.length nn) :: (f, frO [⟨a1, .str "self" c1, .ref o⟩, ⟨a2, .str "embedding" c2, .ref e⟩, ⟨a3, .str "v" c3, .int v tv⟩] nf) :: (e, dictO eb nb) :: (o, selfO dI) :: (k_addr% "b") :: (R ++ T)) m i gl
  (fun _ => .ok .next) (fun x => (f, frO [⟨a1, .str "self" c1, .ref o⟩, ⟨a2, .str "embedding" c2, .ref e⟩, ⟨a3, .str "v" c3, .int x.2.2.1 x.2.2.2.1⟩] nf) :: (e, dictO (vxEs x.2.2.2.2.1 eb) (vxN x.2.2.2.2.1 eb nb)) :: (o, selfO dI) :: (k_addr% "b") :: (vxCells row x.2.2.2.2.1 R ++ T)) (fun x => x.1) (fun x => x.2.1) (fun x => x.2.2.2.2.2)
 | 0, j, R, m, i, gl, v, tv, eb, nb, kb, Db, hj, hk => by
   have he := keyIt_end en j hj
   have hd : en.drop j = [] := List.drop_eq_nil_of_le (by omega)
   rw [hd]
   refine ⟨⟨(0, 0, 0, 0, [], gl), rfl, fun h => h⟩, Ctr.ofQ (kt1 w) fun RR hR => ?_⟩
   walk_at "aK"
   exact re_choose [3, 4, 5, 6] 7 rfl (hR 0 _ _ _ _ _ ⟨(_, _, v, tv, [], _), ⟨rfl, fun h => h⟩, rfl, rfl, rfl, rfl, rfl⟩)
 | q + 1, j, R, m, i, gl, v, tv, eb, nb, kb, Db, hj, hk => by
   have hjl : j < en.length := by omega
   obtain ⟨hs, k, t, b, hee, su, eu, nu, ku, hu, gu, Du, hr⟩ := hen en[j] (List.getElem_mem hjl)
   have he : (⟨en⟩ : Array DictEntry)[j]? = some ⟨hs, .int k t, .ref b⟩ := by rw [← hee]; simp [hjl]
   have hd : en.drop j = ⟨hs, .int k t, .ref b⟩ :: en.drop (j + 1) := by rw [List.drop_eq_getElem_cons hjl, hee]
   have hz : kb.length ≤ 500 := by omega
   have IH := fun l R m i gl v tv => g_loop q (j + 1) R m i gl v tv (storeE eb k t (.ref l)) (storeN eb k nb) (stored kb k (.ref l)) (Db.store k t (.ref l)) (by omega) (by have : (stored kb k (.ref l)).length ≤ kb.length + 1 := stored_len rfl; omega)
   refine ⟨⟨(0, 0, 0, 0, (en.drop j).map (fun e => match e.key with | .int k t => ⟨k, t, 0, 0⟩ | _ => ⟨0, 0, 0, 0⟩), gl), ?_, fun h => h⟩, Ctr.ofQ (kt1 w) fun RR hR => ?_⟩
   ·show List.map _ (List.map _ _) = _
    rw [List.map_map]
    congr 1
    funext e
    simp only [Function.comp]
    split <;> rfl
   rw [hd] at hR
   clear hd hjl hee hj hk hen
   run_tac Mine.walk ([``q_keynext, ``q_list_nb] ++ Mine.dictNames ++ Mine.datNames) [`IH]
   intro x1 x hx
   refine re_choose [0, 1, 2, 3] 4 rfl (hR 0 _ _ _ _ _ ⟨(_, _, x.2.2.1, x.2.2.2.1, ⟨k, t, _, x1.2.2⟩ :: x.2.2.2.2.1, _), ?_, rfl, rfl, rfl, rfl, rfl⟩)
   exact ⟨congrArg (List.cons (k, t)) hx.1, fun h => hx.2 h.snoc⟩
def vKeys (en : List DictEntry) : List (Int × Tok) := en.map (k_addr% "cZ")
theorem g_loop0 (en' : List DictEntry) (e0 : DictEntry) (hen0 : en = e0 :: en') (R : News) (m i : Nat) (gl : List GenState) :
 CtrN (Nat × Nat × Int × Tok × List Vx × List GenState × Int × Tok × Nat) (fun x => x.2.2.2.2.1.map (fun y => (y.v, y.t)) = vKeys en ∧ (GB gl → GB x.2.2.2.2.2.1)) prog1 w h₀ d os g₀ (aroundL 345) (gdLoop (.ref I) f)
  ((I, keyIt nd 0 en.length nn) :: (f, frO [⟨a1, .str "self" c1, .ref o⟩, ⟨a2, .str "embedding" c2, .ref e⟩] nf) :: (e, dictO [] 0) :: (o, selfO dI) :: (k_addr% "b") :: (R ++ T)) m i gl
  (fun _ => .ok .next) (fun x => (f, frO [⟨a1, .str "self" c1, .ref o⟩, ⟨a2, .str "embedding" c2, .ref e⟩, ⟨x.2.2.2.2.2.2.1, .str "v" x.2.2.2.2.2.2.2.1, .int x.2.2.1 x.2.2.2.1⟩] x.2.2.2.2.2.2.2.2) :: (e, dictO (vxEs x.2.2.2.2.1 []) (vxN x.2.2.2.2.1 [] 0)) :: (o, selfO dI) :: (k_addr% "b") :: (vxCells row x.2.2.2.2.1 R ++ T)) (fun x => x.1) (fun x => x.2.1) (fun x => x.2.2.2.2.2.1) := by
 have hjl : 0 < en.length := by rw [hen0]; simp
 obtain ⟨hs, k, t, b, hee, su, eu, nu, ku, hu, gu, Du, hr⟩ := hen en[0] (List.getElem_mem hjl)
 have he : (⟨en⟩ : Array DictEntry)[0]? = some ⟨hs, .int k t, .ref b⟩ := by rw [← hee]; simp [hjl]
 have D0 : DE prog1 w [] [] := DE.nil
 have hd : vKeys en = (k, t) :: (en.drop 1).map (k_addr% "cZ") := by
  have : en = ⟨hs, .int k t, .ref b⟩ :: en.drop 1 := by
   conv => lhs; rw [← List.drop_zero (l := en), List.drop_eq_getElem_cons hjl, hee]
  conv => lhs; rw [this]
  rfl
 have IH := fun l R m i gl v tv a3 c3 nf => g_loop w b1 b2 hpar h₀ K d os g₀ T o dI gd nd sd pd t1 t2 t3 t4 t5 n1 h1 h2 h3 h4 h5 en nn gn es ns ks Ds gs row hlen hen I f e a1 a2 a3 c1 c2 c3 nf (en.length - 1) 1 R m i gl v tv (storeE [] k t (.ref l)) (storeN [] k 0) (stored [] k (.ref l)) (D0.store k t (.ref l)) (by omega) (by have : (stored [] k (.ref l) : List (Int × Value)).length ≤ 0 + 1 := stored_len rfl; omega)
 refine ⟨⟨(0, 0, 0, 0, (vKeys en).map (fun p => ⟨p.1, p.2, 0, 0⟩), gl, 0, 0, 0), ?_, fun h => h⟩, Ctr.ofQ (kt1 w) fun RR hR => ?_⟩
 ·show List.map _ (List.map _ _) = _
  rw [List.map_map]
  conv => rhs; rw [← List.map_id (vKeys en)]
  rfl
 rw [hd] at hR
 clear hd hjl hee hen hen0
 run_tac Mine.walk ([``q_keynext, ``q_list_nb] ++ Mine.dictNames ++ Mine.datNames) [`IH]
 intro x1 x hx
 refine re_choose [0, 1, 2, 3] 4 rfl (hR 0 _ _ _ _ _ ⟨(_, _, x.2.2.1, x.2.2.2.1, ⟨k, t, _, x1.2.2⟩ :: x.2.2.2.2.1, _, _, _, _), ?_, rfl, rfl, rfl, rfl, rfl⟩)
 exact ⟨congrArg (List.cons (k, t)) hx.1, fun h => hx.2 h.snoc⟩
end
section
variable (R T : News) (m i : Nat) (gl : List GenState)
 (o dI gd nd sd pd : Addr) (t1 t2 t3 t4 t5 n1 : Nat) (h1 h2 h3 h4 h5 : Int) (en : List DictEntry) (nn : Nat) (gn : getL T nd = some (dictO en nn))
 (es : List DictEntry) (ns : Nat) (ks : List (Int × Value)) (Ds : DE prog1 w ks es) (gs : getL T sd = some (dictO es ns))
include hpar K gn Ds gs
theorem g_data (row : Int → List (Int × Tok)) (hlen : en.length ≤ 100)
 (hen : ∀ e ∈ en, ∃ hs k t b, e = ⟨hs, .int k t, .ref b⟩ ∧ ∃ su eu nu ku, valueAt ks k = some (.ref su) ∧ getL T su = some (dictO eu nu) ∧ DE prog1 w ku eu ∧ Row T eu ku (row k)) (en' : List DictEntry) (e0 : DictEntry) (hen0 : en = e0 :: en') :
 CtrN (Nat × Nat × Addr × List Vx × List GenState) (fun x => x.2.2.2.1.map (fun y => (y.v, y.t)) = vKeys en ∧ m ≤ x.2.2.1 ∧ (GB gl → GB x.2.2.2.2)) prog1 w h₀ d os g₀ (aroundL 330) (k_addr% "dg") (k_addr% "i") m i gl
  (k_addr% "bv") (fun x => (x.2.2.1, dictO (vxEs x.2.2.2.1 []) (vxN x.2.2.2.1 [] 0)) :: (o, selfO dI) :: (k_addr% "b") :: (vxCells row x.2.2.2.1 R ++ T)) (fun x => x.1) (fun x => x.2.1) (fun x => x.2.2.2.2) := by
 have H0 := fun I f e a1 a2 c1 c2 nf R m i gl => g_loop0 w b1 b2 hpar h₀ K d os g₀ T o dI gd nd sd pd t1 t2 t3 t4 t5 n1 h1 h2 h3 h4 h5 en nn gn es ns ks Ds gs row hlen hen I f e a1 a2 c1 c2 nf en' e0 hen0 R m i gl
 refine ⟨⟨(0, 0, m, (vKeys en).map (fun p => ⟨p.1, p.2, 0, 0⟩), gl), ?_, Nat.le_refl _, fun h => h⟩, Ctr.ofQ (kt1 w) fun RR hR => ?_⟩
 ·show List.map _ (List.map _ _) = _
  rw [List.map_map]
  conv => rhs; rw [← List.map_id (vKeys en)]
  rfl
 clear hen hen0
 run_tac Mine.walk ([``q_diter] ++ Mine.dictNames ++ Mine.datNames) [`H0]
 intro x hx
 refine re_choose [1, 2, 3] 4 rfl (hR 0 _ _ _ _ _ ⟨(_, _, _, x.2.2.2.2.1, _), ⟨hx.1, ?_, hx.2⟩, rfl, rfl, rfl, rfl, rfl⟩)
 exact Nat.le_succ _
end
end Mine
end
namespace Mine
open PySem PySem.Spec PySem.Calls PyProof.Rows PySem.W PySem.W.X
theorem line1000 : 1000 ≤ sizeLine := by decide +kernel
abbrev ivs (ps : List (Int × Tok)) : List Value := ps.map fun p => .int p.1 p.2
section
variable (w : World) (h₀ : Heap) (d : Drawn) (os : OsState) (g₀ : List GenState) (A : Around) (R T : News) (m i : Nat) (gl : List GenState)
theorem k_fdiv (a b k : Int) (ta tb : Tok) (hb : b ≠ 0) (hs : b.natAbs < 1073741824) (hk : a.fdiv b = k) : Ctr prog1 w h₀ d os g₀ A (.call (.builtin "int.__floordiv__") ⟨[.int a ta, .int b tb], []⟩) R m i gl (k_addr% "ds") :=
 Ctr.meets F.slot_int_floordiv F.entry_int_floordiv (F.args_int_floordiv_2 _ _) ((AutoIntG4.int___floordiv___int_int_1 a ta b tb (by simpa using hb) (by rw [PyProof.noPylong_small hs]; exact Bool.false_ne_true)).meets.inModel _ _)
  (fun h M => typeIs_int _ a ta) fun h RR M hsz H => by subst hk; walk_at "cC"
theorem k_fmod (a b k : Int) (ta tb : Tok) (hb : b ≠ 0) (hk : a.fmod b = k) : Ctr prog1 w h₀ d os g₀ A (.call (.builtin "int.__mod__") ⟨[.int a ta, .int b tb], []⟩) R m i gl (k_addr% "ds") :=
 Ctr.meets F.slot_int_mod F.entry_int_mod (F.args_int_mod_2 _ _) ((AutoIntG6.int___mod___int_int_1 a ta b tb (by simpa using hb)).meets.inModel _ _)
  (fun h M => typeIs_int _ a ta) fun h RR M hsz H => by subst hk; walk_at "cC"
theorem k_fdiv_2 (a k : Int) (ta tb : Tok) (hk : a.fdiv (Int.ofNat 2) = k) : Ctr prog1 w h₀ d os g₀ A (.call (.builtin "int.__floordiv__") ⟨[.int a ta, .int (Int.ofNat 2) tb], []⟩) R m i gl (k_addr% "ds") :=
 k_fdiv w h₀ d os g₀ A R m i gl a (Int.ofNat 2) k ta tb (by decide) (by decide) hk
theorem k_fdiv_6 (a k : Int) (ta tb : Tok) (hk : a.fdiv (Int.ofNat 6) = k) : Ctr prog1 w h₀ d os g₀ A (.call (.builtin "int.__floordiv__") ⟨[.int a ta, .int (Int.ofNat 6) tb], []⟩) R m i gl (k_addr% "ds") :=
 k_fdiv w h₀ d os g₀ A R m i gl a (Int.ofNat 6) k ta tb (by decide) (by decide) hk
theorem k_fdiv_36 (a k : Int) (ta tb : Tok) (hk : a.fdiv (Int.ofNat 36) = k) : Ctr prog1 w h₀ d os g₀ A (.call (.builtin "int.__floordiv__") ⟨[.int a ta, .int (Int.ofNat 36) tb], []⟩) R m i gl (k_addr% "ds") :=
 k_fdiv w h₀ d os g₀ A R m i gl a (Int.ofNat 36) k ta tb (by decide) (by decide) hk
theorem k_fdiv_216 (a k : Int) (ta tb : Tok) (hk : a.fdiv (Int.ofNat 216) = k) : Ctr prog1 w h₀ d os g₀ A (.call (.builtin "int.__floordiv__") ⟨[.int a ta, .int (Int.ofNat 216) tb], []⟩) R m i gl (k_addr% "ds") :=
 k_fdiv w h₀ d os g₀ A R m i gl a (Int.ofNat 216) k ta tb (by decide) (by decide) hk
theorem k_fdiv_7 (a k : Int) (ta tb : Tok) (hk : a.fdiv (Int.ofNat 7) = k) : Ctr prog1 w h₀ d os g₀ A (.call (.builtin "int.__floordiv__") ⟨[.int a ta, .int (Int.ofNat 7) tb], []⟩) R m i gl (k_addr% "ds") :=
 k_fdiv w h₀ d os g₀ A R m i gl a (Int.ofNat 7) k ta tb (by decide) (by decide) hk
theorem k_fmod_n (a k : Int) (q : Nat) (ta tb : Tok) (hk : a.fmod (Int.ofNat (q + 1)) = k) : Ctr prog1 w h₀ d os g₀ A (.call (.builtin "int.__mod__") ⟨[.int a ta, .int (Int.ofNat (q + 1)) tb], []⟩) R m i gl (k_addr% "ds") :=
 k_fmod w h₀ d os g₀ A R m i gl a (Int.ofNat (q + 1)) k ta tb (fun h => nomatch h) hk
theorem k_iadd (a b k : Int) (ta tb : Tok) (hk : a + b = k) : Ctr prog1 w h₀ d os g₀ A (.call (.builtin "int.__add__") ⟨[.int a ta, .int b tb], []⟩) R m i gl (k_addr% "ds") :=
 Ctr.meets F.slot_int_add F.entry_int_add (F.args_int_add_2 _ _) ((AutoIntG4.int___add___int_int_0 a ta b tb).meets.inModel _ _)
  (fun h M => typeIs_int _ a ta) fun h RR M hsz H => by subst hk; walk_at "cC"
variable (l : Addr) (xs : List Value) (n : Nat)
theorem k_llen (k : Int) (hk : (xs.length : Int) = k) : Ctr prog1 w h₀ d os g₀ A (.call (.builtin "list.__len__") ⟨[.ref l], []⟩) ((l, listO xs n) :: R) m i gl (oneQ (.int k i) ((l, listO xs n) :: R) m (i+1) gl) :=
 Ctr.meets F.slot_list_len F.entry_list_len (F.args_list_len_1 _) ((AutoListH.list___len___list_0 l ⟨xs⟩ n).inModel _ _)
  (k_addr% "av") fun h RR M hsz H => ⟨M.head, by subst hk; walk_at "cC"⟩
def eqI (x : Int) : Value → Bool | .int a _ => a == x | _ => false
theorem eqI_at (x : Int) (tx : Tok) (ps : List (Int × Tok)) (A : Around) (s : Shared) : ∀ y, y ∈ (⟨ivs ps⟩ : Array Value) → SeqAt.EqAt A s y (.int x tx) (eqI x y) := by
 intro y hy
 rw [List.mem_toArray] at hy
 obtain ⟨p, -, rfl⟩ := List.mem_map.mp hy
 exact SeqAt.EqAt.int_int _ _ _ _
theorem eqI_any (x : Int) (ps : List (Int × Tok)) : (⟨ivs ps⟩ : Array Value).any (eqI x) = (ps.map Prod.fst).contains x := by
 rw [List.any_toArray]
 induction ps with
 | nil => rfl
 | cons p ps ih =>
   rw [List.map_cons, List.contains_cons, ← ih]
   show (p.1 == x || (ivs ps).any (eqI x)) = (x == p.1 || _)
   rw [Bool.beq_comm]
theorem eqI_hit (x : Int) (ps : List (Int × Tok)) (j : Nat) (hj : (ps.map Prod.fst).idxOf x = j) (hlt : j < ps.length) :
 eqI x ((⟨ivs ps⟩ : Array Value)[j]'(by simpa using hlt)) = true ∧ ∀ m (hm : m < (⟨ivs ps⟩ : Array Value).size), m < j → eqI x (⟨ivs ps⟩ : Array Value)[m] = false := by
 have key : ∀ m (hm : m < (⟨ivs ps⟩ : Array Value).size), eqI x (⟨ivs ps⟩ : Array Value)[m] = ((ps.map Prod.fst)[m]'(by simpa using hm) == x) := by
  intro m hm
  simp [eqI]
 refine ⟨?_, fun m hm hmj => ?_⟩
 ·rw [key]
  subst hj
  simp
 ·rw [key]
  subst hj
  have := List.not_of_lt_findIdx (p := (· == x)) hmj
  simpa using this
theorem k_lindex (ps : List (Int × Tok)) (x : Int) (tx : Tok) (j : Nat) (hj : (ps.map Prod.fst).idxOf x = j) (hlt : j < ps.length) (hq : ps.length ≤ 1000) :
 Ctr prog1 w h₀ d os g₀ A (.call (.builtin "list.index") ⟨[.ref l, .int x tx], []⟩) (k_addr% "bm") m i gl (oneQ (.int (Int.ofNat j) i) (k_addr% "bm") m (i+1) gl) :=
 Ctr.meets F.slot_list_index F.entry_list_index (F.args_list_index_2 _ _) ((SeqAt.list_indexAt l ⟨ivs ps⟩ n none #[] (.int x tx) (eqI x) j (by simpa using hlt) (by omega) (eqI_hit x ps j hj hlt).1 (eqI_hit x ps j hj hlt).2).inModel _ _)
  (k_addr% "av") fun h RR M hsz H => ⟨M.head, eqI_at x tx ps _ _, H _ _ _ _ _ _ ⟨rfl, rfl, rfl, rfl, rfl⟩ M hsz⟩
theorem k_lcontains (ps : List (Int × Tok)) (x : Int) (tx : Tok) (b : Bool) (hb : (ps.map Prod.fst).contains x = b) :
 Ctr prog1 w h₀ d os g₀ A (k_addr% "bC") (k_addr% "bm") m i gl (oneQ (.bool b) (k_addr% "bm") m i gl) :=
 Ctr.meets F.slot_list_contains F.entry_list_contains (F.args_list_contains_2 _ _) ((SeqAt.list_containsAt l ⟨ivs ps⟩ n none #[] (.int x tx) (eqI x)).inModel _ _)
  (k_addr% "av") fun h RR M hsz H => ⟨M.head, eqI_at x tx ps _ _, by rw [eqI_any, hb]; walk_at "cC"⟩
theorem k_ladd (l2 : Addr) (ys : List Value) (n2 : Nat) (zs : List Value) (hz : xs.length + ys.length ≤ 1000) (hy : xs ++ ys = zs) :
 Ctr prog1 w h₀ d os g₀ A (.call (.builtin "list.__add__") ⟨[.ref l, .ref l2], []⟩) ((l, listO xs n) :: (l2, listO ys n2) :: R) m i gl
  (oneQ (.ref m) ((m, listO zs 0) :: (l, listO xs n) :: (l2, listO ys n2) :: R) (m + 1) i gl) :=
 Ctr.meets F.slot_list_add F.entry_list_add (F.args_list_add_2 _ _) ((AutoSeq1.list___add___list_list_0 l ⟨xs⟩ n l2 ⟨ys⟩ n2 (Nat.le_trans (by simpa using hz) line1000)).inModel _ _)
  (k_addr% "av") fun h RR M hsz H => ⟨M.head, M.at 1 _ _ rfl, by
   subst hsz
   subst hy
   refine H _ _ _ _ _ _ ⟨rfl, rfl, rfl, rfl, rfl⟩ (by simpa using M.alloc (o := listO (xs ++ ys) 0) rfl) (by simp [Heap.push])⟩
end
theorem lget_fits {k : Int} {j : Nat} (e : k = (j : Int)) (h : j < 1000) : Builtin.List.listFitsIndex k = true := fitsIndex_of (by omega) (by omega)
theorem lget_meets (l : Addr) (xs : List Value) (n j : Nat) (k : Int) (e : k = (j : Int)) (tj : Tok) (v : Value) (hv : xs[j]? = some v) (hf : Builtin.List.listFitsIndex k = true) :
 Meets (Builtin.«list.__getitem__» ⟨[.ref l, .int k tj], []⟩) (fun A R s => s.heap.get? l = some (listO xs n) ∧ R (.ok (.ret v)) s) := by
 refine .of_wp fun prog w A R s h => ?_
 obtain ⟨hl, h⟩ := h
 have hv' : (⟨xs⟩ : Array Value)[j]? = some v := by simpa using hv
 clear hv
 show wpAny _ _ (Builtin.List.listSubscript? (.int k tj) >>= _) _ _ s
 refine wpAny_bind (wpAny_listSubscript_int hf ?_)
 clear hf
 subst e
 show wpAny _ _ ((seqItemAt l j >>= fun r => pure (r.map (j, ·))) >>= _) _ _ s
 refine wpAny_bind (wpAny_bind (wpAny_seqItemAt hl rfl (wpAny_pure ?_)))
 rw [hv']
 first
  | exact wpAny_bind (wpAny_pure (wpAny_pure ⟨v, rfl, h⟩))
  | exact wpAny_pure ⟨v, rfl, h⟩
abbrev sliceO (lo hi : Value) : Obj := ⟨.type "slice", none, .fields ⟨[lo, hi, .none]⟩, #[]⟩
theorem lslice_meets (l S : Addr) (xs : List Value) (n : Nat) (vl vu : Value) (lo hi : Option Int) (pl : IsPart vl lo) (pu : IsPart vu hi) (hq : xs.length ≤ 1000) :
 Meets (Builtin.«list.__getitem__» ⟨[.ref l, .ref S], []⟩) (fun A R s => s.heap.get? l = some (listO xs n) ∧ s.heap.get? S = some (sliceO vl vu) ∧
  R (.ok (.ret (.ref s.heap.objs.size))) { s with heap := s.heap.push { cls := .type "list", data := .seq (slicePick ⟨xs⟩ lo hi none) } }) :=
 .of_wp fun prog w A R s h => by
  obtain ⟨hl, hs, h⟩ := h
  have hTs : s.TypeIs (.ref S) "slice" := ⟨_, hs, rfl⟩
  show wpAny _ _ (Builtin.List.listSubscript? (.ref S) >>= _) _ _ s
  refine wpAny_bind ?_
  unfold Builtin.List.listSubscript?
  refine wpAny_bind (wpAny_specialOf hTs slice_no_index ?_)
  simp only [Option.isNone_none, if_true]
  refine wpAny_pure ?_
  show wpAny _ _ (typeOf (.ref S) >>= _) _ _ s
  refine wpAny_bind (wpAny_typeOf hTs ?_)
  rw [if_neg (by decide)]
  rw [listSliceParts_eq]
  refine wpAny_bind (wpAny_bind (wpAny_field hs rfl (x := .none) rfl (wpAny_bind (wpAny_listPart .none ?_))))
  rw [if_neg (by decide)]
  refine wpAny_bind (wpAny_field hs rfl (x := vl) rfl (wpAny_bind (wpAny_listPart pl ?_)))
  refine wpAny_bind (wpAny_field hs rfl (x := vu) rfl (wpAny_bind (wpAny_listPart pu (wpAny_pure ?_))))
  refine wpAny_bind (m := Builtin.List.listItems (.ref l)) ?_
  unfold Builtin.List.listItems
  refine wpAny_bind (wpAny_seqItems hl rfl (wpAny_pure ?_))
  refine wpAny_bind (wpAny_of_eq (sliceIndices_raw lo hi none xs.length (by simp)) ?_)
  refine wpAny_bind (wpAny_newObj_type (wpAny_pure ⟨_, rfl, h⟩) (Nat.le_trans (slicePick_size_le ⟨xs⟩ lo hi none) (Nat.le_trans (by simpa using hq) line1000)))
section
variable (w : World) (h₀ : Heap) (d : Drawn) (os : OsState) (g₀ : List GenState) (A : Around) (R T : News) (m i : Nat) (gl : List GenState) (l : Addr) (xs : List Value) (n : Nat)
theorem k_lget' (j : Nat) (k : Int) (e : k = (j : Int)) (tj : Tok) (v : Value) (hv : xs[j]? = some v) (hq : xs.length < 1000) :
 Ctr prog1 w h₀ d os g₀ A (.call (.builtin "list.__getitem__") ⟨[.ref l, .int k tj], []⟩) ((l, listO xs n) :: R) m i gl (oneQ v ((l, listO xs n) :: R) m i gl) :=
 Ctr.meets F.slot_list_getitem F.entry_list_getitem (F.args_list_getitem_2 _ _) ((lget_meets l xs n j k e tj v hv (lget_fits e (Nat.lt_trans (List.getElem?_eq_some_iff.mp hv).1 hq))).inModel _ _)
  (k_addr% "av") fun h RR M hsz H => ⟨M.head, H _ _ _ _ _ _ ⟨rfl, rfl, rfl, rfl, rfl⟩ M hsz⟩
theorem k_lget (j : Nat) (tj : Tok) (v : Value) (hv : xs[j]? = some v) (hq : xs.length < 1000) :
 Ctr prog1 w h₀ d os g₀ A (.call (.builtin "list.__getitem__") ⟨[.ref l, .int (Int.ofNat j) tj], []⟩) ((l, listO xs n) :: R) m i gl (oneQ v ((l, listO xs n) :: R) m i gl) :=
 k_lget' w h₀ d os g₀ A R m i gl l xs n j (Int.ofNat j) rfl tj v hv hq
theorem k_slice (S : Addr) (vl vu : Value) (lo hi : Option Int) (pl : IsPart vl lo) (pu : IsPart vu hi) (hq : xs.length ≤ 1000) (ys : List Value) (hy : slicePick ⟨xs⟩ lo hi none = ⟨ys⟩) :
 Ctr prog1 w h₀ d os g₀ A (k_addr% "be") ((S, sliceO vl vu) :: (l, listO xs n) :: R) m i gl
  (oneQ (.ref m) ((m, listO ys 0) :: (S, sliceO vl vu) :: (l, listO xs n) :: R) (m + 1) i gl) :=
 Ctr.meets F.slot_list_getitem F.entry_list_getitem (F.args_list_getitem_2 _ _) ((lslice_meets l S xs n vl vu lo hi pl pu hq).inModel _ _)
  (fun h M => ⟨_, M.at 1 _ _ rfl, rfl⟩) fun h RR M hsz H => ⟨M.at 1 _ _ rfl, M.head, by
   subst hsz
   rw [hy]
   refine H _ _ _ _ _ _ ⟨rfl, rfl, rfl, rfl, rfl⟩ (by simpa using M.alloc (o := listO ys 0) rfl) (by simp [Heap.push])⟩
theorem k_upto (S : Addr) (j : Nat) (tj : Tok) (ys : List Value) (hj : xs.length ≥ j) (hq : xs.length ≤ 1000) (hy : xs.take j = ys) :
 Ctr prog1 w h₀ d os g₀ A (k_addr% "be") ((S, sliceO .none (.int (Int.ofNat j) tj)) :: (l, listO xs n) :: R) m i gl
  (oneQ (.ref m) ((m, listO ys 0) :: (S, sliceO .none (.int (Int.ofNat j) tj)) :: (l, listO xs n) :: R) (m + 1) i gl) :=
 k_slice w h₀ d os g₀ A R m i gl l xs n S .none (.int (Int.ofNat j) tj) none (some (Int.ofNat j)) .none (.int _ _) hq ys ((slicePick_upto ⟨xs⟩ j hj).trans (congrArg _ hy))
theorem k_from (S : Addr) (j : Nat) (tj : Tok) (ys : List Value) (hj : xs.length ≥ j) (hq : xs.length ≤ 1000) (hy : xs.drop j = ys) :
 Ctr prog1 w h₀ d os g₀ A (k_addr% "be") ((S, sliceO (.int (Int.ofNat j) tj) .none) :: (l, listO xs n) :: R) m i gl
  (oneQ (.ref m) ((m, listO ys 0) :: (S, sliceO (.int (Int.ofNat j) tj) .none) :: (l, listO xs n) :: R) (m + 1) i gl) :=
 k_slice w h₀ d os g₀ A R m i gl l xs n S (.int (Int.ofNat j) tj) .none (some (Int.ofNat j)) none (.int _ _) .none hq ys ((slicePick_from ⟨xs⟩ j hj).trans (congrArg _ hy))
theorem k_add1 (j : Nat) (ta tb : Tok) : Ctr prog1 w h₀ d os g₀ A (.call (.builtin "int.__add__") ⟨[.int (Int.ofNat j) ta, .int 1 tb], []⟩) R m i gl (oneQ (.int (Int.ofNat (j + 1)) i) R m (i+1) gl) :=
 k_iadd w h₀ d os g₀ A R m i gl _ _ _ ta tb rfl
variable (K : KT.Holds h₀ 1 0 (kt1 w))
include K
theorem c_blen (q : Nat) (hl : xs.length = q) (hq : xs.length ≤ 500) : Ctr prog1 w h₀ d os g₀ (aroundL 470) (.builtin "len" ⟨[.ref l], []⟩) ((l, listO xs n) :: R) m i gl (oneQ (.int (Int.ofNat q) (i + 1)) ((l, listO xs n) :: R) m (i + 2) gl) := by
 have h1 : ¬ (2:Int)^63 ≤ (xs.length : Int) := by omega
 have h2 := k_llen w h₀ d os g₀ (aroundL 480) R m i gl l xs n (xs.length : Int) rfl
 rw [← hl]
 walk_at "d"
 run_tac Mine.walk [] [`h2] { wd := true }
 walk_at "l"
end
section
variable (w : World) (h₀ : Heap) (d : Drawn) (os : OsState) (g₀ : List GenState) (A : Around) (R T : News) (m i : Nat) (gl : List GenState) (l : Addr) (xs : List Value) (n : Nat)
theorem q_lget (j : Nat) (tj : Tok) (v : Value) (e : getL T l = some (listO xs n)) (hv : xs[j]? = some v) (hq : xs.length < 1000) :
 Ctr prog1 w h₀ d os g₀ A (.call (.builtin "list.__getitem__") ⟨[.ref l, .int (Int.ofNat j) tj], []⟩) (R ++ T) m i gl (oneQ v (R ++ T) m i gl) :=
 Ctr.read e fun _ => k_lget w h₀ d os g₀ A _ m i gl l xs n j tj v hv hq
theorem q_upto (S : Addr) (j : Nat) (tj : Tok) (ys : List Value) (e : getL T l = some (listO xs n)) (hj : xs.length ≥ j) (hq : xs.length ≤ 1000) (hy : xs.take j = ys) :
 Ctr prog1 w h₀ d os g₀ A (k_addr% "be") ((S, sliceO .none (.int (Int.ofNat j) tj)) :: (R ++ T)) m i gl
  (oneQ (.ref m) ((m, listO ys 0) :: (S, sliceO .none (.int (Int.ofNat j) tj)) :: (R ++ T)) (m + 1) i gl) :=
 Ctr.rd (P := [_]) (P' := [_, _]) e fun _ => k_upto w h₀ d os g₀ A _ m i gl l xs n S j tj ys hj hq hy
theorem q_from (S : Addr) (j : Nat) (tj : Tok) (ys : List Value) (e : getL T l = some (listO xs n)) (hj : xs.length ≥ j) (hq : xs.length ≤ 1000) (hy : xs.drop j = ys) :
 Ctr prog1 w h₀ d os g₀ A (k_addr% "be") ((S, sliceO (.int (Int.ofNat j) tj) .none) :: (R ++ T)) m i gl
  (oneQ (.ref m) ((m, listO ys 0) :: (S, sliceO (.int (Int.ofNat j) tj) .none) :: (R ++ T)) (m + 1) i gl) :=
 Ctr.rd (P := [_]) (P' := [_, _]) e fun _ => k_from w h₀ d os g₀ A _ m i gl l xs n S j tj ys hj hq hy
theorem q_lindex (ps : List (Int × Tok)) (x : Int) (tx : Tok) (j : Nat) (e : getL T l = some (listO (ivs ps) n)) (hj : (ps.map Prod.fst).idxOf x = j) (hlt : j < ps.length) (hq : ps.length ≤ 1000) :
 Ctr prog1 w h₀ d os g₀ A (.call (.builtin "list.index") ⟨[.ref l, .int x tx], []⟩) (R ++ T) m i gl (oneQ (.int (Int.ofNat j) i) (R ++ T) m (i+1) gl) :=
 Ctr.read e fun _ => k_lindex w h₀ d os g₀ A _ m i gl l n ps x tx j hj hlt hq
theorem q_lcontains (ps : List (Int × Tok)) (x : Int) (tx : Tok) (b : Bool) (e : getL T l = some (listO (ivs ps) n)) (hb : (ps.map Prod.fst).contains x = b) :
 Ctr prog1 w h₀ d os g₀ A (k_addr% "bC") (R ++ T) m i gl (oneQ (.bool b) (R ++ T) m i gl) :=
 Ctr.read e fun _ => k_lcontains w h₀ d os g₀ A _ m i gl l n ps x tx b hb
variable (K : KT.Holds h₀ 1 0 (kt1 w))
include K
theorem q_blen (q : Nat) (e : getL T l = some (listO xs n)) (hl : xs.length = q) (hq : xs.length ≤ 500) : Ctr prog1 w h₀ d os g₀ (aroundL 470) (.builtin "len" ⟨[.ref l], []⟩) (R ++ T) m i gl (oneQ (.int (Int.ofNat q) (i + 1)) (R ++ T) m (i + 2) gl) :=
 Ctr.read e fun _ => c_blen w h₀ d os g₀ _ m i gl l xs n K q hl hq
end
def listNames : List Lean.Name := [``k_fdiv_2, ``k_fdiv_6, ``k_fdiv_36, ``k_fdiv_216, ``k_fdiv_7, ``k_fmod_n, ``k_add1, ``k_ladd, ``q_lget, ``q_upto, ``q_from, ``q_lindex, ``q_lcontains, ``q_blen, ``c_blen, ``k_lget, ``k_upto, ``k_from, ``k_lindex, ``k_lcontains]
end Mine
section
variable (w : PySem.World) (b1 b2 : Bool) (hpar : w.params = Mine.parB w.params b1 b2) (h₀ : PySem.Heap) (K : PySem.W.X.KT.Holds h₀ 1 0 (Mine.kt1 w)) (d : PySem.Drawn) (os : PySem.OsState) (g₀ : List PySem.GenState)
namespace Mine
open PySem PySem.Spec PySem.Calls PyProof.Rows PySem.W PySem.W.X
abbrev tup2 (a b : Value) : Obj := ⟨.type "tuple", none, .seq ⟨[a, b]⟩ 0, #[]⟩
section
variable (R T : News) (m i : Nat) (gl : List GenState)
 (rd : Addr) (er : List DictEntry) (nr : Nat) (kr : List (Int × Value)) (Dr : DE prog1 w kr er) (gr : getL T rd = some (dictO er nr)) (la : Addr) (v w' number : Int) (tv tw tn : Tok) (hr : valueAt kr v = some (.ref la))
 (ps : List (Int × Tok)) (nl : Nat) (gla : getL T la = some (listO (ivs ps) nl)) (hne : rd ≠ la) (hq : ps.length ≤ 400)
include hpar K Dr gr hr gla hne hq
theorem put_even (q : Nat) (hl : (ivs ps).length = q + 1) (hf : Int) (hd : number.fdiv (Int.ofNat 2) = hf) (j : Nat) (hm : hf.fmod (Int.ofNat (q + 1)) = Int.ofNat j) (rf : Int) (tr : Tok) (hx : (ivs ps)[j]? = some (.int rf tr))
 (jj : Nat) (hjj : (ps.map Prod.fst).idxOf rf = jj) (hjl : jj < ps.length) (hpy : number.fmod (Int.ofNat 2) = Int.ofNat 0) :
 CtrN (Addr × Addr × Addr × Nat × Nat) (fun c => m ≤ c.1 ∧ m ≤ c.2.1 ∧ m ≤ c.2.2.1) prog1 w h₀ d os g₀ (aroundL 350) (k_addr% "ak") (R ++ T) m i gl
  (k_addr% "cq") (fun c => (k_addr% "cM") :: (c.2.1, listO ((ivs ps).take (jj + 1) ++ [.int w' tw] ++ (ivs ps).drop (jj + 1)) 0) :: (c.2.2.1, tup2 .none (.int rf tr)) :: (R ++ T)) (fun c => c.2.2.2.1) (fun c => c.2.2.2.2) (fun _ => gl) := by
 walk_at "dd"
 have q2 : (ivs ps).length ≤ 1000 := by omega
 have q3 : (ivs ps).length < 1000 := by omega
 have q5 : (ivs ps).length ≥ jj + 1 := by simp; omega
 obtain ⟨y1, h1⟩ : ∃ y, (ivs ps).take (jj + 1) = y := ⟨_, rfl⟩
 obtain ⟨y2, h2⟩ : ∃ y, (ivs ps).drop (jj + 1) = y := ⟨_, rfl⟩
 obtain ⟨y3, h3⟩ : ∃ y, y1 ++ [Value.int w' tw] = y := ⟨_, rfl⟩
 obtain ⟨y4, h4⟩ : ∃ y, y3 ++ y2 = y := ⟨_, rfl⟩
 have q6 : y1.length + [Value.int w' tw].length ≤ 1000 := by subst h1; simp; omega
 have q7 : y3.length + y2.length ≤ 1000 := by subst h3 h1 h2; simp; omega
 have q8 : ps.length ≤ 1000 := by omega
 rw [h1, h2, h3, h4]
 walk_at "bP"
 walk_at "ez"
 run_tac Mine.done
 repeat' apply And.intro
 walk_at "aM"
theorem put_odd (q : Nat) (hl : (ivs ps).length = q + 1) (hf : Int) (hd : number.fdiv (Int.ofNat 2) = hf) (j : Nat) (hm : hf.fmod (Int.ofNat (q + 1)) = Int.ofNat j) (rf : Int) (tr : Tok) (hx : (ivs ps)[j]? = some (.int rf tr))
 (jj : Nat) (hjj : (ps.map Prod.fst).idxOf rf = jj) (hjl : jj < ps.length) (hpy : number.fmod (Int.ofNat 2) = Int.ofNat 1) :
 CtrN (Addr × Addr × Addr × Nat × Nat) (fun c => m ≤ c.1 ∧ m ≤ c.2.1 ∧ m ≤ c.2.2.1) prog1 w h₀ d os g₀ (aroundL 350) (k_addr% "ak") (R ++ T) m i gl
  (k_addr% "cq") (fun c => (k_addr% "cM") :: (c.2.1, listO ((ivs ps).take jj ++ [.int w' tw] ++ (ivs ps).drop jj) 0) :: (c.2.2.1, tup2 (.int rf tr) .none) :: (R ++ T)) (fun c => c.2.2.2.1) (fun c => c.2.2.2.2) (fun _ => gl) := by
 walk_at "dd"
 have q2 : (ivs ps).length ≤ 1000 := by omega
 have q3 : (ivs ps).length < 1000 := by omega
 have q5 : (ivs ps).length ≥ jj := by simp; omega
 obtain ⟨y1, h1⟩ : ∃ y, (ivs ps).take jj = y := ⟨_, rfl⟩
 obtain ⟨y2, h2⟩ : ∃ y, (ivs ps).drop jj = y := ⟨_, rfl⟩
 obtain ⟨y3, h3⟩ : ∃ y, y1 ++ [Value.int w' tw] = y := ⟨_, rfl⟩
 obtain ⟨y4, h4⟩ : ∃ y, y3 ++ y2 = y := ⟨_, rfl⟩
 have q6 : y1.length + [Value.int w' tw].length ≤ 1000 := by subst h1; simp; omega
 have q7 : y3.length + y2.length ≤ 1000 := by subst h3 h1 h2; simp; omega
 have q8 : ps.length ≤ 1000 := by omega
 rw [h1, h2, h3, h4]
 walk_at "bP"
 walk_at "ez"
 run_tac Mine.done
 repeat' apply And.intro
 walk_at "aM"
theorem put_empty (hl : (ivs ps).length = 0) :
 CtrN (Addr × Addr × Addr × Nat × Nat) (fun c => m ≤ c.1 ∧ m ≤ c.2.1 ∧ m ≤ c.2.2.1) prog1 w h₀ d os g₀ (aroundL 350) (k_addr% "ak") (R ++ T) m i gl
  (k_addr% "cq") (fun c => (k_addr% "cM") :: (c.2.1, listO [.int w' tw] 0) :: (c.2.2.1, tup2 .none .none) :: (R ++ T)) (fun c => c.2.2.2.1) (fun c => c.2.2.2.2) (fun _ => gl) := by
 walk_at "dd"
 walk_at "bP"
 walk_at "ez"
 run_tac Mine.done
 repeat' apply And.intro
 walk_at "aM"
end
theorem c_supinit (w : World) (h₀ : Heap) (K : KT.Holds h₀ 1 0 (kt1 w)) (d : Drawn) (os : OsState) (g₀ : List GenState) (R : News) (m i : Nat) (gl : List GenState) (s o dI : Addr) (t : Tok) :
 Ctr prog1 w h₀ d os g₀ (aroundL 470) (.call (.builtin "super.__getattribute__") ⟨[.ref s, .str "__init__" t], []⟩) ((s, superO o) :: (o, selfO dI) :: R) m i gl
 (oneQ (.ref m) ((m, methO 556 o) :: (s, superO o) :: (o, selfO dI) :: R) (m + 1) i gl) := by
 walk_at "d"
 walk_at "t"
 walk_at "l"
theorem c_update_0 (w : World) (h₀ : Heap) (K : KT.Holds h₀ 1 0 (kt1 w)) (d : Drawn) (os : OsState) (g₀ : List GenState) (R : News) (m i : Nat) (gl : List GenState) (a b : Addr) (n n' : Nat) :
 Ctr prog1 w h₀ d os g₀ (aroundL 470) (.call (.builtin "dict.update") ⟨[.ref a, .ref b], []⟩) ((a, dictO [] n) :: (b, dictO [] n') :: R) m i gl
 (oneQ .none ((a, dictO [] n) :: (b, dictO [] n') :: R) m i gl) := by
 walk_at "d"
 walk_at "t"
 walk_at "l"
structure It where
 o : Addr
 dI : Addr
 gd : Addr
 nd : Addr
 sd : Addr
 pd : Addr
 t1 : Nat
 t2 : Nat
 t3 : Nat
 t4 : Nat
 t5 : Nat
 n1 : Nat
 h1 : Int
 h2 : Int
 h3 : Int
 h4 : Int
 h5 : Int
abbrev It.inst (x : It) : Obj := instO x.t1 x.t2 x.t3 x.t4 x.t5 x.n1 x.h1 x.h2 x.h3 x.h4 x.h5 x.gd x.nd x.sd x.pd
section
variable (R : News) (m i : Nat) (gl : List GenState)
include hpar K
theorem p_new : CtrN (Nat × Nat × It) (fun x => m ≤ x.2.2.dI ∧ x.2.2.dI < x.2.2.o ∧ x.2.2.o < x.2.2.gd ∧ x.2.2.gd < x.2.2.nd ∧ x.2.2.nd < x.2.2.sd ∧ x.2.2.sd < x.2.2.pd)
 prog1 w h₀ d os g₀ (aroundL 350) (.call (.ref 892) ⟨[], []⟩) R m i gl
 (fun x => .ok (.ret (.ref x.2.2.o))) (fun x => (x.2.2.o, selfO x.2.2.dI) :: (x.2.2.dI, x.2.2.inst) :: (x.2.2.gd, dictO [] 0) :: (x.2.2.nd, dictO [] 0) :: (x.2.2.sd, dictO [] 0) :: (x.2.2.pd, dictO [] 0) :: R) (fun x => x.1) (fun x => x.2.1) (fun _ => gl) := by
 refine ⟨⟨(0, 0, ⟨m+1, m, m+2, m+3, m+4, m+5, 0, 0, 0, 0, 0, 0, 0, 0, 0, 0, 0⟩), by simp⟩, Ctr.ofQ (kt1 w) fun RR hR => ?_⟩
 run_tac Mine.walk (Mine.dictNames ++ Mine.datNames ++ Mine.listNames ++ [``c_supinit, ``c_update_0]) [] { wd := true, lies := true }
 run_tac Mine.done
 repeat' apply And.intro
 all_goals first | (change @LT.lt Nat _ _ _; omega) | (change @LE.le Nat _ _ _; omega)
end
abbrev litO (l : Addr) (j : Nat) : Obj := ⟨.type "list_iterator", none, .fields ⟨[.ref l, .int (Int.ofNat j) 0]⟩, #[]⟩
abbrev litEnd (j : Nat) : Obj := ⟨.type "list_iterator", none, .fields ⟨[.none, .int (Int.ofNat j) 0]⟩, #[]⟩
section
variable (R T : News) (m i : Nat) (gl : List GenState) (l I : Addr) (xs : List Value) (n : Nat)
include K
theorem c_liter : Ctr prog1 w h₀ d os g₀ (aroundL 480) (.call (.builtin "list.__iter__") ⟨[.ref l], []⟩) ((l, listO xs n) :: R) m i gl
 (oneQ (.ref m) ((m, litO l 0) :: (l, listO xs n) :: R) (m + 1) i gl) := by
 walk_at "d"
 walk_at "t"
 walk_at "z"
theorem c_lnext (j : Nat) (v : Int) (t : Tok) (he : (⟨xs⟩ : Array Value)[j]? = some (.int v t)) : Ctr prog1 w h₀ d os g₀ (aroundL 480) (k_addr% "da") ((I, litO l j) :: (l, listO xs n) :: R) m i gl
 (oneQ (.int v t) ((I, litO l (j + 1)) :: (l, listO xs n) :: R) m i gl) := by
 walk_at "fa"
 walk_at "d"
 walk_at "t"
 walk_at "z"
theorem c_lnext_end (j : Nat) (he : (⟨xs⟩ : Array Value)[j]? = none) : Ctr prog1 w h₀ d os g₀ (aroundL 480) (k_addr% "da") ((I, litO l j) :: (l, listO xs n) :: R) m i gl
 (resQ (.error (.ref (m + 1))) ((m + 1, stopO m) :: (m, tupO []) :: (I, litEnd j) :: (l, listO xs n) :: R) (m + 2) i gl) := by
 walk_at "fa"
 walk_at "d"
 walk_at "t"
 walk_at "z"
variable (e : getL T l = some (listO xs n))
include e
theorem q_liter : Ctr prog1 w h₀ d os g₀ (aroundL 480) (.call (.builtin "list.__iter__") ⟨[.ref l], []⟩) (R ++ T) m i gl
 (oneQ (.ref m) ((m, litO l 0) :: (R ++ T)) (m + 1) i gl) :=
 Ctr.readN (N := [_]) e fun rest => c_liter w h₀ K d os g₀ rest m i gl l xs n
theorem q_lnext (j : Nat) (v : Int) (t : Tok) (he : (⟨xs⟩ : Array Value)[j]? = some (.int v t)) : Ctr prog1 w h₀ d os g₀ (aroundL 480) (k_addr% "da") ((I, litO l j) :: (R ++ T)) m i gl
 (oneQ (.int v t) ((I, litO l (j + 1)) :: (R ++ T)) m i gl) :=
 Ctr.rd (P := [_]) (P' := [_]) e fun rest => c_lnext w h₀ K d os g₀ rest m i gl l I xs n j v t he
theorem q_lnext_end (j : Nat) (he : (⟨xs⟩ : Array Value)[j]? = none) : Ctr prog1 w h₀ d os g₀ (aroundL 480) (k_addr% "da") ((I, litO l j) :: (R ++ T)) m i gl
 (resQ (.error (.ref (m + 1))) ((m + 1, stopO m) :: (m, tupO []) :: (I, litEnd j) :: (R ++ T)) (m + 2) i gl) :=
 Ctr.rd (P := [_]) (P' := [_, _, _]) e fun rest => c_lnext_end w h₀ K d os g₀ rest m i gl l I xs n j he
end
def iterNames : List Lean.Name := [``q_liter, ``q_lnext, ``q_lnext_end]
section
variable (R T : News) (m i : Nat) (gl : List GenState)
 (o dI gd nd sd pd : Addr) (t1 t2 t3 t4 t5 n1 : Nat) (h1 h2 h3 h4 h5 : Int) (l : Addr) (xs : List Value) (n : Nat) (gla : getL T l = some (listO xs n))
include hpar K gla
theorem an_start : Ctr prog1 w h₀ d os g₀ (aroundL 350) (k_addr% "cF") (k_addr% "i") m i gl (fun _ _ _ _ _ => True) ∨ True := by
 run_tac Mine.probeCode `Mine.anLoop (Mine.iterNames ++ Mine.dictNames ++ Mine.datNames) "forLoop"
 exact Or.inr trivial
end
section
variable (o dI gd nd sd pd : Addr) (t1 t2 t3 t4 t5 n1 : Nat) (h1 h2 h3 h4 h5 : Int) (l : Addr) (ps : List (Int × Tok)) (n : Nat) (hps : ps.length ≤ 100)
 (sp : sd ≠ pd) (sn : sd ≠ nd) (pn : pd ≠ nd) (e1 : sd ≠ l) (e2 : pd ≠ l) (e3 : nd ≠ l) (p I : Addr) (a1 a2 a3 : Int) (c1 c2 c3 : Tok) (nf na : Nat) (a4 a5 a6 : Int) (c4 c5 c6 : Tok)
include hpar K sp sn pn e1 e2 e3 hps
end
section
variable (o dI gd nd sd pd : Addr) (t1 t2 t3 t4 t5 n1 : Nat) (h1 h2 h3 h4 h5 : Int) (l : Addr) (ps : List (Int × Tok)) (n : Nat) (hps : ps.length ≤ 100)
 (sp : sd ≠ pd) (sn : sd ≠ nd) (pn : pd ≠ nd) (e1 : sd ≠ l) (e2 : pd ≠ l) (e3 : nd ≠ l)
 (R T : News) (m i : Nat) (gl : List GenState) (es ep en : List DictEntry) (ns np nn : Nat) (ks kp kn : List (Int × Value)) (Ds : DE prog1 w ks es) (Dp : DE prog1 w kp ep) (Dn : DE prog1 w kn en)
 (gla : getL T l = some (listO (ivs ps) n)) (gs : getL T sd = some (dictO es ns)) (gp : getL T pd = some (dictO ep np)) (gn : getL T nd = some (dictO en nn)) (ls : ks.length ≤ 100) (lp : kp.length ≤ 100) (ln : kn.length ≤ 100)
 (hnd : (ps.map Prod.fst).Nodup) (hne : ∀ x ∈ ps, valueAt kn x.1 = none)
include hpar K sp sn pn e1 e2 e3 hps Ds Dp Dn gla gs gp gn ls lp ln hnd hne
end
def minP (a : Int × Tok) (ps : List (Int × Tok)) : Int × Tok := ps.foldl (fun a b => if b.1 < a.1 then b else a) a
section
variable (R : News) (m i : Nat) (gl : List GenState) (l I B : Addr) (ps : List (Int × Tok)) (n : Nat) (j : Nat) (v : Int) (u : Tok) (nB : Nat) (hlt : ¬ Int.ofNat j < 0)
include K hlt
theorem x_min_end (he : (⟨ivs ps⟩ : Array Value)[j]? = none) :
 Ctr prog1 w h₀ d os g₀ (aroundL 480) (k_addr% "bh") (k_addr% "bH") m i gl
  (oneQ (.int v u) (k_addr% "bm") (m + 2) i gl) := by
 walk_at "d"
 walk_at "t"
 exact re_choose [4] 5 rfl (hR 0 _ _ _ _ _ ⟨rfl, rfl, rfl, rfl, rfl⟩)
theorem x_min_lt (v2 : Int) (u2 : Tok) (he : (⟨ivs ps⟩ : Array Value)[j]? = some (.int v2 u2)) (hb : v2 < v) (rv : Value)
 (IH : ∀ nB, Ctr prog1 w h₀ d os g₀ (aroundL 480) (k_addr% "bh") ((I, litO l (j + 1)) :: (B, listO [.int v2 u2, .int v2 u2] nB) :: (l, listO (ivs ps) n) :: R) m i gl
  (k_addr% "ek")) :
 Ctr prog1 w h₀ d os g₀ (aroundL 480) (k_addr% "bh") (k_addr% "bH") m i gl
  (k_addr% "ek") := by
 walk_at "d"
 run_tac Mine.walk [] [`IH] { wd := true }
 exact hR 0 _ _ _ _ _ ⟨rfl, rfl, rfl, rfl, rfl⟩
theorem x_min_ge (v2 : Int) (u2 : Tok) (he : (⟨ivs ps⟩ : Array Value)[j]? = some (.int v2 u2)) (hb : ¬ v2 < v) (rv : Value)
 (IH : ∀ nB, Ctr prog1 w h₀ d os g₀ (aroundL 480) (k_addr% "bh") ((I, litO l (j + 1)) :: (B, listO [.int v u, .int v u] nB) :: (l, listO (ivs ps) n) :: R) m i gl
  (k_addr% "ek")) :
 Ctr prog1 w h₀ d os g₀ (aroundL 480) (k_addr% "bh") (k_addr% "bH") m i gl
  (k_addr% "ek") := by
 walk_at "d"
 run_tac Mine.walk [] [`IH] { wd := true }
 exact hR 0 _ _ _ _ _ ⟨rfl, rfl, rfl, rfl, rfl⟩
end
theorem x_min (w : World) (h₀ : Heap) (K : KT.Holds h₀ 1 0 (kt1 w)) (d : Drawn) (os : OsState) (g₀ : List GenState) (R : News) (m i : Nat) (gl : List GenState) (l I B : Addr) (ps : List (Int × Tok)) (n : Nat) (hlen : ps.length ≤ 500) (q : Nat) : ∀ (j : Nat) (v : Int) (u : Tok) (nB : Nat), j + q = ps.length →
 Ctr prog1 w h₀ d os g₀ (aroundL 480) (k_addr% "bh") (k_addr% "bH") m i gl
  (oneQ (.int (minP (v, u) (ps.drop j)).1 (minP (v, u) (ps.drop j)).2) (k_addr% "bm") (m + 2) i gl) := by
 induction q with
 | zero =>
   intro j v u nB hj
   rw [List.drop_eq_nil_of_le (show ps.length ≤ j by omega)]
   exact x_min_end w h₀ K d os g₀ R m i gl l I B ps n j v u nB (by simp) (by simp; omega)
 | succ q ih =>
   intro j v u nB hj
   walk_at "eA"
   obtain ⟨v2, u2, hpe⟩ : ∃ v tv, ps[j] = (v, tv) := ⟨_, _, rfl⟩
   have he : (⟨ivs ps⟩ : Array Value)[j]? = some (.int v2 u2) := by simp [hjl, hpe]
   have hd : ps.drop j = (v2, u2) :: ps.drop (j + 1) := by rw [List.drop_eq_getElem_cons hjl, hpe]
   by_cases hb : v2 < v
   ·rw [show minP (v, u) (ps.drop j) = minP (v2, u2) (ps.drop (j + 1)) by rw [hd]; simp [minP, hb]]
    exact x_min_lt w h₀ K d os g₀ R m i gl l I B ps n j v u nB (by simp) v2 u2 he hb _ fun nB => ih (j + 1) v2 u2 nB (by omega)
   ·rw [show minP (v, u) (ps.drop j) = minP (v, u) (ps.drop (j + 1)) by rw [hd]; simp [minP, hb]]
    exact x_min_ge w h₀ K d os g₀ R m i gl l I B ps n j v u nB (by simp) v2 u2 he hb _ fun nB => ih (j + 1) v u nB (by omega)
theorem x_min0 (w : World) (h₀ : Heap) (K : KT.Holds h₀ 1 0 (kt1 w)) (d : Drawn) (os : OsState) (g₀ : List GenState) (R : News) (m i : Nat) (gl : List GenState) (l I B : Addr) (ps : List (Int × Tok)) (n : Nat) (hlen : ps.length ≤ 500) (v : Int) (u : Tok) (hp : ps[0]? = some (v, u)) (mv : Int) (mu : Tok) (hm : minP (v, u) (ps.drop 1) = (mv, mu)) (nB : Nat) :
 Ctr prog1 w h₀ d os g₀ (aroundL 480) (k_addr% "bh") ((I, litO l 0) :: (B, listO [] nB) :: (l, listO (ivs ps) n) :: R) m i gl
  (oneQ (.int mv mu) (k_addr% "bm") (m + 2) i gl) := by
 have h0 : 0 < ps.length := by
  rcases ps with _ | ⟨p, ps⟩
  ·cases hp
  ·simp
 have he : (⟨ivs ps⟩ : Array Value)[0]? = some (.int v u) := by
  rw [List.getElem?_toArray, List.getElem?_map, hp]
  rfl
 have E := fun nB => x_min w h₀ K d os g₀ R m i gl l I B ps n hlen (ps.length - 1) 1 v u nB (by omega)
 rw [hm] at E
 clear hp hm h0 hlen
 walk_at "d"
 run_tac Mine.walk [] [`E] { wd := true }
 run_tac Mine.done
theorem x_min_all (w : World) (h₀ : Heap) (K : KT.Holds h₀ 1 0 (kt1 w)) (d : Drawn) (os : OsState) (g₀ : List GenState) (R : News) (m i : Nat) (gl : List GenState) (l : Addr) (ps : List (Int × Tok)) (n : Nat) (hlen : ps.length ≤ 500) (v : Int) (u : Tok) (hp : ps[0]? = some (v, u)) (mv : Int) (mu : Tok) (hm : minP (v, u) (ps.drop 1) = (mv, mu)) :
 Ctr prog1 w h₀ d os g₀ (aroundL 470) (.call (.builtin "min") ⟨[.ref l], []⟩) (k_addr% "bm") m i gl
  (oneQ (.int mv mu) (k_addr% "bm") (m + 4) i gl) := by
 have E := fun nB => x_min0 w h₀ K d os g₀ R (m + 2) i gl l m (m + 1) ps n hlen v u hp mv mu hm nB
 clear hp hm hlen
 walk_at "d"
 run_tac Mine.walk [] [`E] { wd := true }
 run_tac Mine.done
theorem q_min (w : World) (h₀ : Heap) (K : KT.Holds h₀ 1 0 (kt1 w)) (d : Drawn) (os : OsState) (g₀ : List GenState) (R T : News) (m i : Nat) (gl : List GenState) (l : Addr) (ps : List (Int × Tok)) (n : Nat) (gla : getL T l = some (listO (ivs ps) n)) (hlen : ps.length ≤ 500) (v : Int) (u : Tok) (hp : ps[0]? = some (v, u)) (mv : Int) (mu : Tok) (hm : minP (v, u) (ps.drop 1) = (mv, mu)) :
 Ctr prog1 w h₀ d os g₀ (aroundL 470) (.call (.builtin "min") ⟨[.ref l], []⟩) (R ++ T) m i gl
  (oneQ (.int mv mu) (R ++ T) (m + 4) i gl) :=
 Ctr.read gla fun rest => x_min_all w h₀ K d os g₀ rest m i gl l ps n hlen v u hp mv mu hm
section
variable (R T : News) (m i : Nat) (gl : List GenState) (l : Addr) (ps : List (Int × Tok)) (n : Nat) (gla : getL T l = some (listO (ivs ps) n))
 (hq : ps.length ≤ 400)
include hpar K gla hq
theorem t_row (v : Int) (u : Tok) (hp : ps[0]? = some (v, u)) (mv : Int) (mu : Tok) (hm : minP (v, u) (ps.drop 1) = (mv, mu)) (j : Nat) (hj : (ps.map Prod.fst).idxOf mv = j) (hjl : j < ps.length) :
 CtrN (Addr × Nat × Nat) (fun c => m ≤ c.1) prog1 w h₀ d os g₀ (aroundL 350) (.call (.ref 901) ⟨[.ref l], []⟩) (R ++ T) m i gl (k_addr% "cq") (fun c => (c.1, listO ((ivs ps).drop j ++ (ivs ps).take j) 0) :: (R ++ T)) (fun c => c.2.1) (fun c => c.2.2) (fun _ => gl) := by
 walk_at "dd"
 have q2 : (ivs ps).length ≤ 1000 := by omega
 have q3 : ps.length ≤ 500 := by omega
 have q4 : ps.length ≤ 1000 := by omega
 have q5 : (ivs ps).length ≥ j := by simp; omega
 obtain ⟨q, hl⟩ : ∃ q, (ivs ps).length = q + 1 := ⟨ps.length - 1, by simp; omega⟩
 obtain ⟨y1, h1⟩ : ∃ y, (ivs ps).take j = y := ⟨_, rfl⟩
 obtain ⟨y2, h2⟩ : ∃ y, (ivs ps).drop j = y := ⟨_, rfl⟩
 obtain ⟨y3, h3⟩ : ∃ y, y2 ++ y1 = y := ⟨_, rfl⟩
 have q6 : y2.length + y1.length ≤ 1000 := by subst h1 h2; simp; omega
 rw [h1, h2, h3]
 refine ⟨⟨(m, 0, 0), Nat.le_refl _⟩, Ctr.ofQ (kt1 w) fun RR hR => ?_⟩
 run_tac Mine.walk ([``q_min] ++ Mine.listNames ++ Mine.iterNames ++ Mine.dictNames ++ Mine.datNames)
 run_tac Mine.done
 walk_at "aM"
theorem t_empty (hl : (ivs ps).length = 0) :
 CtrN (Addr × Nat × Nat) (fun c => m ≤ c.1) prog1 w h₀ d os g₀ (aroundL 350) (.call (.ref 901) ⟨[.ref l], []⟩) (R ++ T) m i gl (k_addr% "cq") (fun c => (c.1, listO ((ivs ps).drop 0 ++ (ivs ps).take 0) 0) :: (R ++ T)) (fun c => c.2.1) (fun c => c.2.2) (fun _ => gl) := by
 walk_at "dd"
 have q2 : (ivs ps).length ≤ 1000 := by omega
 have q5 : (ivs ps).length ≥ 0 := Nat.zero_le _
 obtain ⟨y1, h1⟩ : ∃ y, (ivs ps).take 0 = y := ⟨_, rfl⟩
 obtain ⟨y2, h2⟩ : ∃ y, (ivs ps).drop 0 = y := ⟨_, rfl⟩
 obtain ⟨y3, h3⟩ : ∃ y, y2 ++ y1 = y := ⟨_, rfl⟩
 have q6 : y2.length + y1.length ≤ 1000 := by subst h1 h2; simp; omega
 rw [h1, h2, h3]
 refine ⟨⟨(m, 0, 0), Nat.le_refl _⟩, Ctr.ofQ (kt1 w) fun RR hR => ?_⟩
 run_tac Mine.walk ([``q_min] ++ Mine.listNames ++ Mine.iterNames ++ Mine.dictNames ++ Mine.datNames)
 run_tac Mine.done
 walk_at "aM"
end
end Mine
end
namespace Mine
open PySem PySem.Spec PySem.Calls PyProof.Rows PySem.W PySem.W.X
section
variable (w : World) (b1 : Bool) (hpar : w.params = parB w.params b1 false) (h₀ : Heap) (K : KT.Holds h₀ 1 0 (kt1 w)) (d : Drawn) (os : OsState) (g₀ : List GenState) (R T : News) (m i : Nat) (gl : List GenState) (rd : Addr) (er : List DictEntry) (nr : Nat) (gr : getL T rd = some (dictO er nr))
include hpar K gr
theorem pl_start : Ctr prog1 w h₀ d os g₀ (aroundL 340) (.call (.ref 911) ⟨[.ref rd], []⟩) (R ++ T) m i gl (fun _ _ _ _ _ => True) ∨ True := by
 run_tac Mine.probeCode `Mine.plLoop ([``q_diter] ++ Mine.dictNames) "compLoop"
 exact Or.inr trivial
end
section
variable (w : World) (b1 : Bool) (hpar : w.params = parB w.params b1 true) (h₀ : Heap) (K : KT.Holds h₀ 1 0 (kt1 w)) (d : Drawn) (os : OsState) (g₀ : List GenState) (R T : News) (m i : Nat) (gl : List GenState) (rd : Addr) (er : List DictEntry) (nr : Nat) (gr : getL T rd = some (dictO er nr))
include hpar K gr
theorem pl_start' : Ctr prog1 w h₀ d os g₀ (aroundL 340) (.call (.ref 911) ⟨[.ref rd], []⟩) (R ++ T) m i gl (fun _ _ _ _ _ => True) ∨ True := by
 run_tac Mine.probeCode `Mine.plLoop' ([``q_diter] ++ Mine.dictNames) "compLoop"
 exact Or.inr trivial
end
def turnP (ps : List (Int × Tok)) : List (Int × Tok) := match ps with
 | [] => []
 | p :: qs => (p :: qs).drop (((p :: qs).map Prod.fst).idxOf (minP p qs).1) ++ (p :: qs).take (((p :: qs).map Prod.fst).idxOf (minP p qs).1)
theorem minP_mem (p : Int × Tok) (qs : List (Int × Tok)) : minP p qs ∈ p :: qs := by
 unfold minP
 induction qs generalizing p with
 | nil => simp
 | cons q qs ih =>
   rw [List.foldl_cons]
   split
   ·exact List.mem_cons_of_mem _ (ih q)
   ·rcases List.mem_cons.mp (ih p) with h | h
    ·rw [h]; exact List.mem_cons_self ..
    ·exact List.mem_cons_of_mem _ (List.mem_cons_of_mem _ h)
section
variable (w : World) (b1 b2 : Bool) (hpar : w.params = parB w.params b1 b2) (h₀ : Heap) (K : KT.Holds h₀ 1 0 (kt1 w)) (d : Drawn) (os : OsState) (g₀ : List GenState) (R T : News) (m i : Nat) (gl : List GenState) (l : Addr) (ps : List (Int × Tok)) (n : Nat) (gla : getL T l = some (listO (ivs ps) n))
 (hq : ps.length ≤ 400)
include hpar K gla hq
theorem t_any : CtrN (Addr × Nat × Nat) (fun c => m ≤ c.1) prog1 w h₀ d os g₀ (aroundL 350) (.call (.ref 901) ⟨[.ref l], []⟩) (R ++ T) m i gl (k_addr% "cq") (fun c => (c.1, listO (ivs (turnP ps)) 0) :: (R ++ T)) (fun c => c.2.1) (fun c => c.2.2) (fun _ => gl) := by
 rcases ps with _ | ⟨p, qs⟩
 ·exact t_empty w b1 b2 hpar h₀ K d os g₀ R T m i gl l [] n gla hq rfl
 ·have e : ivs (turnP (p :: qs)) = (ivs (p :: qs)).drop (((p :: qs).map Prod.fst).idxOf (minP p qs).1) ++ (ivs (p :: qs)).take (((p :: qs).map Prod.fst).idxOf (minP p qs).1) := by
   simp only [turnP, ivs, List.map_append, List.map_drop, List.map_take]
  rw [e]
  exact t_row w b1 b2 hpar h₀ K d os g₀ R T m i gl l (p :: qs) n gla hq p.1 p.2 rfl (minP p qs).1 (minP p qs).2 rfl _ rfl (by
   have := List.idxOf_lt_length_of_mem (List.mem_map_of_mem (f := Prod.fst) (minP_mem p qs))
   simpa using this)
end
theorem MG.of0 {V : XV} {c : Code} {md : Option (List Frame)} {κ : Kont} {t : Sem PySem.Fin} {s : Shared} (h : V.t₀ = 0) (x : Means V c md κ t s) : MG V c md κ t s := ⟨fun _ => x, fun q => absurd h q⟩
theorem cut_set {prog : Program} {w : World} {h₀ : Heap} {A : Around} {R₀ : Result → Shared → Prop} {d : Drawn} {os : OsState} {kt : KT} {g₀ : List GenState} {n : Nat} {c c' : Code} {vs : List Value} {hh : Value → Sem Unit} {a : Addr} {es : List DictEntry} {nn : Nat} {kb : List (Int × Value)} {k : Int} {tk : Tok} {v : Value} {R : News} {m i : Nat} {gl : List GenState} {Q : Post}
 (D : DE prog w kb es) (hz : kb.length ≤ 500) (hq : c'.quiet = true)
 (x : Ctr prog w h₀ d os g₀ A c' ((a, dictO (storeE es k tk v) (storeN es k nn)) :: R) m (i + 1) gl Q)
 (hQ : ∀ r news' m' i' gl', Q r news' m' i' gl' → RE ⟨prog, w, h₀, 0, kt, [], A, R₀, d, 0, os⟩ g₀ 0 r news' m' i' gl') :
 RM ⟨prog, w, h₀, 0, kt, [], A, R₀, d, 0, os⟩ g₀ n c none .base (Sem.onRaise (holding vs (dictSet a (.int k tk) v) >>= fun _ => pure (Fin.again c')) hh) ((a, dictO es nn) :: R) m i gl := by
 have hz' : es.length ≤ sizeLine := by
  have := D.pairs.length
  have := line1000
  omega
 intro h D'
 refine MG.of0 rfl (show Means _ _ none _ _ _ from wpOwn_of_wpAny ?_)
 refine wpAny_onRaise ?_
 refine wpAny_bind (wpAny_holding (set_exact D'.mm.head D.keys hz' fun h' e hb => wpAny_pure ?_))
 refine ⟨hq, ?_⟩
 exact x h' _ (D'.mm.change hb e) (hb.1.trans D'.size) fun r news' m' i' gl' h'' q M' hs' => hQ r news' m' i' gl' q h'' ⟨M', hs'⟩
theorem cut_setZ {prog : Program} {w : World} {h₀ : Heap} {A : Around} {R₀ : Result → Shared → Prop} {d : Drawn} {os : OsState} {kt : KT} {g₀ : List GenState} {n : Nat} {c c' : Code} {vs : List Value} {hh : Value → Sem Unit} {a : Addr} {es : List DictEntry} {nn : Nat} {kb : List (Int × Value)} {k : Int} {tk : Tok} {v : Value} {R : News} {m i : Nat} {gl : List GenState} {Q : Post}
 (D : DE prog w kb es) (hz : kb.length ≤ 500) (hq : c'.quiet = true)
 (x : Ctr prog w h₀ d os g₀ A c' ((a, dictO (storeE es k tk v) (storeN es k nn)) :: R) m (i + 1) gl Q)
 (hQ : ∀ r news' m' i' gl', Q r news' m' i' gl' → RE ⟨prog, w, h₀, 0, kt, [], A, R₀, d, 0, os⟩ g₀ 0 r news' m' i' gl') :
 RM ⟨prog, w, h₀, 0, kt, [], A, R₀, d, 0, os⟩ g₀ n c none .base (PySem.W.R.onRaiseR (PySem.W.R.bindR (PySem.W.ZFast.zw17359229931016689406 vs (PySem.W.ZFast.zw11925912800584824493 a (.int k tk) v)) (fun _ => PySem.W.ZFast.zw12377390311714414960 c')) hh) ((a, dictO es nn) :: R) m i gl := by
 rw [← PySem.W.ZFast.ze11925912800584824493, ← PySem.W.ZFast.ze17359229931016689406, ← PySem.W.ZFast.ze12377390311714414960, ← PySem.W.R.bindR_eq, ← PySem.W.R.onRaiseR_eq]
 exact cut_set D hz hq x hQ
end Mine
section
variable (w : PySem.World) (b1 b2 : Bool) (hpar : w.params = Mine.parB w.params b1 b2) (h₀ : PySem.Heap) (K : PySem.W.X.KT.Holds h₀ 1 0 (Mine.kt1 w)) (d : PySem.Drawn) (os : PySem.OsState) (g₀ : List PySem.GenState)
namespace Mine
open PySem PySem.Spec PySem.Calls PyProof.Rows PySem.W PySem.W.X
theorem g_none (w : World) (b1 b2 : Bool) (hpar : w.params = parB w.params b1 b2) (h₀ : Heap) (K : KT.Holds h₀ 1 0 (kt1 w)) (d : Drawn) (os : OsState) (g₀ : List GenState) (R T : News) (m i : Nat) (gl : List GenState)
 (o dI gd nd sd pd : Addr) (t1 t2 t3 t4 t5 n1 : Nat) (h1 h2 h3 h4 h5 : Int) (nn : Nat) (gn : getL T nd = some (dictO [] nn)) :
 CtrN (Nat × Nat × Addr) (fun x => m ≤ x.2.2) prog1 w h₀ d os g₀ (aroundL 330) (k_addr% "dg") (k_addr% "i") m i gl
  (fun x => .ok (.ret (.ref x.2.2))) (fun x => (x.2.2, dictO [] 0) :: (o, selfO dI) :: (k_addr% "b") :: (R ++ T)) (fun x => x.1) (fun x => x.2.1) (fun _ => gl) := by
 have he : (⟨[]⟩ : Array DictEntry)[0]? = none := rfl
 refine ⟨⟨(0, 0, m), Nat.le_refl _⟩, Ctr.ofQ (kt1 w) fun RR hR => ?_⟩
 run_tac Mine.walk ([``q_diter, ``q_keynext_end] ++ Mine.dictNames ++ Mine.datNames)
 run_tac Mine.done
 walk_at "aM"
end Mine
end
namespace Mine
open PySem PySem.Spec PySem.Calls PyProof.Rows PySem.W PySem.W.X
structure Ad where
 s : Int → Addr
 p : Int → Addr
 n : Int → Addr
 d : Int → Int → Addr
structure Gr where
 sv : List Int
 pv : List Int
 nv : List Int
 ks : Int → List Int
 ps : Int → List Int
 x : Int → Int → Int
 y : Int → Int → Int
 hd : Int → Int → Prop
def upd {α : Type} (f : Int → α) (u : Int) (a : α) : Int → α := fun z => if z = u then a else f z
theorem upd_self {α : Type} (f : Int → α) (u : Int) (a : α) : upd f u a u = a := if_pos rfl
theorem upd_ne {α : Type} (f : Int → α) {u z : Int} (a : α) (h : z ≠ u) : upd f u a z = f z := if_neg h
def upd2 {α : Type} (f : Int → Int → α) (u v : Int) (a : α) : Int → Int → α := fun z y => if z = u ∧ y = v then a else f z y
theorem upd2_self {α : Type} (f : Int → Int → α) (u v : Int) (a : α) : upd2 f u v a u v = a := if_pos ⟨rfl, rfl⟩
theorem upd2_ne {α : Type} (f : Int → Int → α) {u v z y : Int} (a : α) (h : ¬ (z = u ∧ y = v)) : upd2 f u v a z y = f z y := if_neg h
def offI (l : List Int) (u : Int) : List Int := l.filter fun z => decide (z ≠ u)
theorem mem_offI {l : List Int} {u z : Int} : z ∈ offI l u ↔ z ∈ l ∧ z ≠ u := by simp [offI]
inductive Sl where
 | sd | pd | nd
 | s (u : Int)
 | p (u : Int)
 | n (u : Int)
 | d (u v : Int)
def Ad.at (nd sd pd : Addr) (A : Ad) : Sl → Addr
 | .sd => sd
 | .pd => pd
 | .nd => nd
 | .s u => A.s u
 | .p u => A.p u
 | .n u => A.n u
 | .d u v => A.d u v
def Gr.live (G : Gr) : Sl → Prop
 | .sd => True
 | .pd => True
 | .nd => True
 | .s u => u ∈ G.sv
 | .p u => u ∈ G.pv
 | .n u => u ∈ G.nv
 | .d u v => G.hd u v
def DF (w : World) (o : Obj) (kvs : List (Int × Value)) : Prop := ∃ es n, o = dictO es n ∧ DE prog1 w kvs es
def tab (l : List Int) (f : Int → Addr) : List (Int × Value) := l.map fun u => (u, .ref (f u))
def fits (w : World) (A : Ad) (G : Gr) : Sl → Obj → Prop
 | .sd, o => DF w o (tab G.sv A.s)
 | .pd, o => DF w o (tab G.pv A.p)
 | .nd, o => DF w o (tab G.nv A.n)
 | .s u, o => DF w o (tab (G.ks u) (A.d u))
 | .p u, o => DF w o (tab (G.ps u) fun z => A.d z u)
 | .n u, o => ∃ k, o = dictO [] k
 | .d u v, o => ∃ D : Dat, o = dataO D ∧ D.x = G.x u v ∧ D.y = G.y u v
def Uo (u : Int) : Prop := 0 ≤ u ∧ u < 100
structure Gr.Ok (G : Gr) : Prop where
 us : ∀ u ∈ G.sv, Uo u
 up : ∀ u ∈ G.pv, Uo u
 un : ∀ u ∈ G.nv, Uo u
 uk : ∀ u v, v ∈ G.ks u → Uo v
 uq : ∀ u v, v ∈ G.ps u → Uo v
 kh : ∀ u v, u ∈ G.sv → v ∈ G.ks u → G.hd u v
structure Emb (w : World) (T : News) (nd sd pd : Addr) (A : Ad) (G : Gr) : Prop where
 inj : ∀ a b, G.live a → G.live b → A.at nd sd pd a = A.at nd sd pd b → a = b
 cel : ∀ a, G.live a → ∃ o, getL T (A.at nd sd pd a) = some o ∧ fits w A G a o
 ok : G.Ok
theorem valueAt_tab (l : List Int) (f : Int → Addr) (k : Int) : valueAt (tab l f) k = if k ∈ l then some (.ref (f k)) else none := by
 induction l with
 | nil => rfl
 | cons u l ih =>
   show valueAt ((u, .ref (f u)) :: tab l f) k = _
   rw [valueAt_cons, ih]
   by_cases h : u = k
   ·subst h; simp
   ·have : ¬ k = u := fun e => h e.symm
    simp [h, this]
theorem tab_in {l : List Int} {f : Int → Addr} {k : Int} (h : k ∈ l) : valueAt (tab l f) k = some (.ref (f k)) := by rw [valueAt_tab, if_pos h]
theorem tab_out {l : List Int} {f : Int → Addr} {k : Int} (h : k ∉ l) : valueAt (tab l f) k = none := by rw [valueAt_tab, if_neg h]
theorem tab_store {l : List Int} {f : Int → Addr} {k : Int} {a : Addr} (h : k ∉ l) (g : Int → Addr) (hg : ∀ z ∈ l, g z = f z) (ha : g k = a) : stored (tab l f) k (.ref a) = tab (l ++ [k]) g := by
 rw [stored_new (tab_out h)]
 unfold tab
 rw [List.map_append, List.map_cons, List.map_nil, ha]
 congr 1
 exact List.map_congr_left fun z hz => by rw [hg z hz]
theorem tab_drop (l : List Int) (f : Int → Addr) (k : Int) : without (tab l f) k = tab (offI l k) f := by
 unfold without tab offI
 rw [List.filter_map]
 rfl
theorem tab_congr {l : List Int} {f g : Int → Addr} (h : ∀ z ∈ l, g z = f z) : tab l f = tab l g := List.map_congr_left fun z hz => by rw [h z hz]
theorem tab_keys (l : List Int) (f : Int → Addr) : (tab l f).map (·.1) = l := by
 unfold tab; rw [List.map_map]; exact List.map_id _
theorem nodup_lt : ∀ (n : Nat) (l : List Int), l.Nodup → (∀ u ∈ l, 0 ≤ u ∧ u < n) → l.length ≤ n
 | 0, l, _, h => by
   cases l with
   | nil => exact Nat.le_refl _
   | cons u l => have := h u (.head _); omega
 | n + 1, l, nd, h => by
   have := nodup_lt n (l.erase (n : Int)) (nd.sublist List.erase_sublist) (fun u hu => by
    have h1 := h u (List.mem_of_mem_erase hu)
    have h2 : u ≠ (n : Int) := (List.Nodup.mem_erase_iff nd).mp hu |>.1
    omega)
   have := List.length_erase (a := (n : Int)) (l := l)
   split at this <;> omega
theorem nodup_le {l : List Int} (nd : l.Nodup) (h : ∀ u ∈ l, Uo u) : l.length ≤ 100 := nodup_lt 100 l nd h
section
variable {w : World} {T : News} {nd sd pd : Addr} {A : Ad} {G : Gr}
theorem DF.nodup {o : Obj} {l : List Int} {f : Int → Addr} (h : DF w o (tab l f)) : l.Nodup := by
 obtain ⟨es, n, _, D⟩ := h
 have := D.nd
 rwa [tab_keys] at this
theorem DF.store {es : List DictEntry} {n : Nat} {l : List Int} {f g : Int → Addr} {k : Int} {t : Tok} {a : Addr} (D : DE prog1 w (tab l f) es) (h : k ∉ l) (hg : ∀ z ∈ l, g z = f z) (ha : g k = a) :
  DF w (dictO (storeE es k t (.ref a)) (storeN es k n)) (tab (l ++ [k]) g) := ⟨_, _, rfl, by rw [← tab_store h g hg ha]; exact D.store k t (.ref a)⟩
theorem DF.drop {es : List DictEntry} {n : Nat} {l : List Int} {f : Int → Addr} {k : Int} (D : DE prog1 w (tab l f) es) : DF w (dictO (dropE es k) n) (tab (offI l k) f) := ⟨_, _, rfl, by rw [← tab_drop]; exact D.drop k⟩
theorem Emb.ne (E : Emb w T nd sd pd A G) {a b : Sl} (la : G.live a) (lb : G.live b) (h : a ≠ b) : A.at nd sd pd a ≠ A.at nd sd pd b := fun e => h (E.inj a b la lb e)
theorem Emb.wr (E : Emb w T nd sd pd A G) (a : Sl) (la : G.live a) (o' : Obj) (G' : Gr) (hl : ∀ b, G'.live b → G.live b) (ok : G'.Ok) (hf : fits w A G' a o') (ho : ∀ b, b ≠ a → G'.live b → ∀ o, fits w A G b o → fits w A G' b o) :
  Emb w (putL T (A.at nd sd pd a) o') nd sd pd A G' := by
 refine ⟨fun b c hb hc => E.inj b c (hl b hb) (hl c hc), fun b hb => ?_, ok⟩
 obtain ⟨oa, ga, _⟩ := E.cel a la
 rcases Classical.em (b = a) with rfl | h
 ·exact ⟨o', getL_put_self ga, hf⟩
 ·obtain ⟨o, g, f⟩ := E.cel b (hl b hb)
  exact ⟨o, getL_put_ne (E.ne la (hl b hb) (fun e => h e.symm)) g, ho b h hb o f⟩
theorem getL_head (x : Addr) (o : Obj) (T : News) : getL ((x, o) :: T) x = some o := by unfold getL; exact if_pos rfl
theorem getL_skip {x a : Addr} {o : Obj} {T : News} {r : Option Obj} (h : x ≠ a) (e : getL T a = r) : getL ((x, o) :: T) a = r := by unfold getL; rw [if_neg h]; exact e
theorem Emb.nw (E : Emb w T nd sd pd A G) (x : Addr) (ox : Obj) (hx : ∀ a o, getL T a = some o → x ≠ a) (c : Sl) (a : Sl) (la : G.live a) (o' : Obj) (A' : Ad) (G' : Gr) (hca : c ≠ a)
  (hl : ∀ b, G'.live b → b = c ∨ G.live b) (hA : ∀ b, b ≠ c → A'.at nd sd pd b = A.at nd sd pd b) (hc : A'.at nd sd pd c = x) (ok : G'.Ok) (hfx : fits w A' G' c ox) (hf : fits w A' G' a o')
  (ho : ∀ b, b ≠ a → b ≠ c → G'.live b → ∀ o, fits w A G b o → fits w A' G' b o) :
  Emb w ((x, ox) :: putL T (A.at nd sd pd a) o') nd sd pd A' G' := by
 have fr : ∀ b, G.live b → x ≠ A.at nd sd pd b := fun b hb => by
  obtain ⟨o, g, _⟩ := E.cel b hb
  exact hx _ _ g
 have lv : ∀ b, G'.live b → b ≠ c → G.live b := fun b hb h => (hl b hb).resolve_left h
 obtain ⟨oa, ga, _⟩ := E.cel a la
 refine ⟨fun b b' hb hb' e => ?_, fun b hb => ?_, ok⟩
 ·rcases Classical.em (b = c) with rfl | h1
  ·rcases Classical.em (b' = b) with rfl | h2
   ·rfl
   ·rw [hc, hA b' h2] at e
    exact absurd e (fr b' (lv b' hb' h2))
  ·rcases Classical.em (b' = c) with rfl | h2
   ·rw [hc, hA b h1] at e
    exact absurd e.symm (fr b (lv b hb h1))
   ·rw [hA b h1, hA b' h2] at e
    exact E.inj b b' (lv b hb h1) (lv b' hb' h2) e
 ·rcases Classical.em (b = c) with rfl | h1
  ·rw [hc]
   exact ⟨ox, getL_head _ _ _, hfx⟩
  ·have gb := lv b hb h1
   rw [hA b h1]
   rcases Classical.em (b = a) with rfl | h2
   ·exact ⟨o', getL_skip (fr b gb) (getL_put_self ga), hf⟩
   ·obtain ⟨o, g, f⟩ := E.cel b gb
    exact ⟨o, getL_skip (fr b gb) (getL_put_ne (E.ne la gb (fun e => h2 e.symm)) g), ho b h2 h1 hb o f⟩
end
abbrev Gr.addS (G : Gr) (u : Int) : Gr := { G with sv := G.sv ++ [u], ks := upd G.ks u [] }
abbrev Gr.addP (G : Gr) (u : Int) : Gr := { G with pv := G.pv ++ [u], ps := upd G.ps u [] }
abbrev Gr.addN (G : Gr) (u : Int) : Gr := { G with nv := G.nv ++ [u] }
abbrev Gr.addK (G : Gr) (u v cx cy : Int) : Gr := { G with ks := upd G.ks u (G.ks u ++ [v]), x := upd2 G.x u v cx, y := upd2 G.y u v cy, hd := fun a b => (a = u ∧ b = v) ∨ G.hd a b }
abbrev Gr.addQ (G : Gr) (u v : Int) : Gr := { G with ps := upd G.ps v (G.ps v ++ [u]) }
abbrev Gr.reK (G : Gr) (u v : Int) : Gr := { G with ks := upd G.ks u (G.ks u ++ [v]) }
abbrev Gr.offK (G : Gr) (u v : Int) : Gr := { G with ks := upd G.ks u (offI (G.ks u) v) }
abbrev Gr.offQ (G : Gr) (v u : Int) : Gr := { G with ps := upd G.ps v (offI (G.ps v) u) }
abbrev Gr.offS (G : Gr) (u : Int) : Gr := { G with sv := offI G.sv u }
abbrev Gr.offP (G : Gr) (u : Int) : Gr := { G with pv := offI G.pv u }
abbrev Gr.offN (G : Gr) (u : Int) : Gr := { G with nv := offI G.nv u }
abbrev Gr.setX (G : Gr) (u v c : Int) : Gr := { G with x := upd2 G.x u v c }
abbrev Gr.setY (G : Gr) (u v c : Int) : Gr := { G with y := upd2 G.y u v c }
abbrev Ad.setS (A : Ad) (u : Int) (a : Addr) : Ad := { A with s := upd A.s u a }
abbrev Ad.setP (A : Ad) (u : Int) (a : Addr) : Ad := { A with p := upd A.p u a }
abbrev Ad.setN (A : Ad) (u : Int) (a : Addr) : Ad := { A with n := upd A.n u a }
abbrev Ad.setD (A : Ad) (u v : Int) (a : Addr) : Ad := { A with d := upd2 A.d u v a }
section
variable {G : Gr} (O : G.Ok)
include O
theorem Gr.Ok.addS {u : Int} (hu : Uo u) : (G.addS u).Ok := by
 refine ⟨fun z hz => ?_, O.up, O.un, fun z v hv => ?_, O.uq, fun z v hz hv => ?_⟩
 ·walk_at "az"
  ·exact O.us z h
  ·walk_at "cX"; exact hu
 ·walk_at "al"
  ·walk_at "am"; rw [upd_self] at hv; cases hv
  ·walk_at "am"; rw [upd_ne _ _ h] at hv; exact O.uk z v hv
 ·walk_at "al"
  ·walk_at "am"; rw [upd_self] at hv; cases hv
  ·walk_at "am"; rw [upd_ne _ _ h] at hv
   rcases List.mem_append.mp hz with h' | h'
   ·exact O.kh z v h' hv
   ·exact absurd (List.mem_singleton.mp h') h
theorem Gr.Ok.addP {u : Int} (hu : Uo u) : (G.addP u).Ok := by
 refine ⟨O.us, fun z hz => ?_, O.un, O.uk, fun z v hv => ?_, O.kh⟩
 ·walk_at "az"
  ·exact O.up z h
  ·walk_at "cX"; exact hu
 ·walk_at "al"
  ·walk_at "am"; rw [upd_self] at hv; cases hv
  ·walk_at "am"; rw [upd_ne _ _ h] at hv; exact O.uq z v hv
theorem Gr.Ok.addN {u : Int} (hu : Uo u) : (G.addN u).Ok := by
 refine ⟨O.us, O.up, fun z hz => ?_, O.uk, O.uq, O.kh⟩
 walk_at "az"
 ·exact O.un z h
 ·walk_at "cX"; exact hu
theorem Gr.Ok.addK {u v cx cy : Int} (hv : Uo v) : (G.addK u v cx cy).Ok := by
 walk_at "dW"
 ·walk_at "al"
  ·walk_at "p"; rw [upd_self] at hv'
   walk_at "fb"
   ·exact O.uk _ _ h
   ·walk_at "cX"; exact hv
  ·walk_at "p"; rw [upd_ne _ _ h] at hv'; exact O.uk z v' hv'
 ·walk_at "al"
  ·walk_at "p"; rw [upd_self] at hv'
   walk_at "fb"
   ·exact .inr (O.kh _ _ hz h)
   ·exact .inl ⟨rfl, List.mem_singleton.mp h⟩
  ·walk_at "p"; rw [upd_ne _ _ h] at hv'; exact .inr (O.kh z v' hz hv')
theorem Gr.Ok.addQ {u v : Int} (hu : Uo u) : (G.addQ u v).Ok := by
 refine ⟨O.us, O.up, O.un, O.uk, fun z v' hv' => ?_, O.kh⟩
 walk_at "fc"
 ·walk_at "p"; rw [upd_self] at hv'
  walk_at "fb"
  ·exact O.uq _ _ h
  ·walk_at "cX"; exact hu
 ·walk_at "p"; rw [upd_ne _ _ h] at hv'; exact O.uq z v' hv'
theorem Gr.Ok.reK {u v : Int} (hv : Uo v) (hh : G.hd u v) : (G.reK u v).Ok := by
 walk_at "dW"
 ·walk_at "al"
  ·walk_at "p"; rw [upd_self] at hv'
   walk_at "fb"
   ·exact O.uk _ _ h
   ·walk_at "cX"; exact hv
  ·walk_at "p"; rw [upd_ne _ _ h] at hv'; exact O.uk z v' hv'
 ·walk_at "al"
  ·walk_at "p"; rw [upd_self] at hv'
   walk_at "fb"
   ·exact O.kh _ _ hz h
   ·walk_at "cX"; exact hh
  ·walk_at "p"; rw [upd_ne _ _ h] at hv'; exact O.kh z v' hz hv'
theorem Gr.Ok.offK {u v : Int} : (G.offK u v).Ok := by
 walk_at "dW"
 ·walk_at "al"
  ·walk_at "p"; rw [upd_self] at hv'; exact O.uk _ _ (mem_offI.mp hv').1
  ·walk_at "p"; rw [upd_ne _ _ h] at hv'; exact O.uk z v' hv'
 ·walk_at "al"
  ·walk_at "p"; rw [upd_self] at hv'; exact O.kh _ _ hz (mem_offI.mp hv').1
  ·walk_at "p"; rw [upd_ne _ _ h] at hv'; exact O.kh z v' hz hv'
theorem Gr.Ok.offQ {u v : Int} : (G.offQ v u).Ok := by
 refine ⟨O.us, O.up, O.un, O.uk, fun z v' hv' => ?_, O.kh⟩
 walk_at "fc"
 ·walk_at "p"; rw [upd_self] at hv'; exact O.uq _ _ (mem_offI.mp hv').1
 ·walk_at "p"; rw [upd_ne _ _ h] at hv'; exact O.uq z v' hv'
theorem Gr.Ok.offS {u : Int} : (G.offS u).Ok := ⟨fun z hz => O.us z (mem_offI.mp hz).1, O.up, O.un, O.uk, O.uq, fun z v hz hv => O.kh z v (mem_offI.mp hz).1 hv⟩
theorem Gr.Ok.offP {u : Int} : (G.offP u).Ok := ⟨O.us, fun z hz => O.up z (mem_offI.mp hz).1, O.un, O.uk, O.uq, O.kh⟩
theorem Gr.Ok.offN {u : Int} : (G.offN u).Ok := ⟨O.us, O.up, fun z hz => O.un z (mem_offI.mp hz).1, O.uk, O.uq, O.kh⟩
theorem Gr.Ok.setX {u v c : Int} : (G.setX u v c).Ok := ⟨O.us, O.up, O.un, O.uk, O.uq, O.kh⟩
theorem Gr.Ok.setY {u v c : Int} : (G.setY u v c).Ok := ⟨O.us, O.up, O.un, O.uk, O.uq, O.kh⟩
end
section
variable {prog : Program} {w : World} {h₀ : Heap} {d : Drawn} {os : OsState} {g₀ : List GenState} {A : Around} {c : Code} {m i m' i' : Nat} {gl gl' : List GenState} {R T T1 : News} {v : Value} {P : News → Prop}
theorem Ctr.eW0 (C : Ctr prog w h₀ d os g₀ A c (R ++ T) m i gl (oneQ v (R ++ T1) m' i' gl')) (hE : P T1) :
  Ctr prog w h₀ d os g₀ A c (R ++ T) m i gl (exQ News P (fun _ => .ok (.ret v)) (fun T' => R ++ T') (fun _ => m') (fun _ => i') (fun _ => gl')) :=
 C.mono (by walk_at "af"; exact ⟨T1, hE, rfl, rfl, rfl, rfl, rfl⟩)
theorem getL_fresh {h : Heap} {x : Addr} {ox : Obj} (M : Mm h₀ h ((x, ox) :: (R ++ T))) : ∀ a o, getL T a = some o → x ≠ a := by
 intro a o g e
 have nd := M.nd
 walk_at "du"
 refine nd.1 ?_
 rw [e, List.map_append]
 exact List.mem_append.mpr (.inr (by have := List.mem_map_of_mem (f := Prod.fst) (getL_mem g); exact this))
theorem Mm.into {h : Heap} {x : Addr} {ox : Obj} (M : Mm h₀ h ((x, ox) :: (R ++ T))) : Mm h₀ h (R ++ (x, ox) :: T) := M.perm List.perm_middle.symm
theorem Ctr.eW {x : Addr} {ox : Obj} (C : Ctr prog w h₀ d os g₀ A c ((x, ox) :: (R ++ T)) m i gl (oneQ v ((x, ox) :: (R ++ T1)) m' i' gl')) (hE : (∀ a o, getL T a = some o → x ≠ a) → P ((x, ox) :: T1)) :
  Ctr prog w h₀ d os g₀ A c ((x, ox) :: (R ++ T)) m i gl (exQ News P (fun _ => .ok (.ret v)) (fun T' => R ++ T') (fun _ => m') (fun _ => i') (fun _ => gl')) := by
 intro h RR M hs H
 refine C h RR M hs ?_
 walk_at "aj"
 exact H _ _ _ _ _ h' ⟨(x, ox) :: T1, hE (getL_fresh M), rfl, rfl, rfl, rfl, rfl⟩ M'.into hs'
end
section
variable {w : World} {T : News} {nd sd pd : Addr} {A : Ad} {G : Gr} (E : Emb w T nd sd pd A G) {u : Int}
include E
theorem Emb.len_s : (tab G.sv A.s).length ≤ 100 := by
 obtain ⟨o, g, D⟩ := E.cel .sd trivial
 have := nodup_le (DF.nodup D) E.ok.us
 simpa [tab] using this
theorem Emb.len_p : (tab G.pv A.p).length ≤ 100 := by
 obtain ⟨o, g, D⟩ := E.cel .pd trivial
 have := nodup_le (DF.nodup D) E.ok.up
 simpa [tab] using this
theorem Emb.len_n : (tab G.nv A.n).length ≤ 100 := by
 obtain ⟨o, g, D⟩ := E.cel .nd trivial
 have := nodup_le (DF.nodup D) E.ok.un
 simpa [tab] using this
theorem Emb.len_k (hu : u ∈ G.sv) : (tab (G.ks u) (A.d u)).length ≤ 100 := by
 obtain ⟨o, g, D⟩ := E.cel (.s u) hu
 have := nodup_le (DF.nodup D) (E.ok.uk u)
 simpa [tab] using this
theorem Emb.len_q (hu : u ∈ G.pv) : (tab (G.ps u) fun z => A.d z u).length ≤ 100 := by
 obtain ⟨o, g, D⟩ := E.cel (.p u) hu
 have := nodup_le (DF.nodup D) (E.ok.uq u)
 simpa [tab] using this
omit E in
theorem l100 {n : Nat} (h : n ≤ 100) : n ≤ sizeLine := Nat.le_trans (Nat.le_trans h (by decide)) line1000
end
def esOf (T : News) (a : Addr) : List DictEntry := match getL T a with
 | some ⟨_, _, .dict es _, _⟩ => es.toList
 | _ => []
def nOf (T : News) (a : Addr) : Nat := match getL T a with
 | some ⟨_, _, .dict _ n, _⟩ => n
 | _ => 0
theorem ld_of {T : News} {a : Addr} {es : List DictEntry} {n : Nat} (h : getL T a = some (dictO es n)) : getL T a = some (dictO (esOf T a) (nOf T a)) := by
 unfold esOf nOf
 rw [h]
section
variable (w : World) (T : News) (nd sd pd : Addr) (A : Ad) (G : Gr) (E : Emb w T nd sd pd A G) (a : Addr) (u v : Int)
include E
theorem ld_sd : getL T sd = some (dictO (esOf T sd) (nOf T sd)) := by
 walk_at "aw"
 exact ld_of g
theorem ld_pd : getL T pd = some (dictO (esOf T pd) (nOf T pd)) := by
 walk_at "cQ"
 exact ld_of g
theorem ld_nd : getL T nd = some (dictO (esOf T nd) (nOf T nd)) := by
 walk_at "bT"
 exact ld_of g
theorem ld_s (ha : a = A.s u) (hu : u ∈ G.sv) : getL T a = some (dictO (esOf T a) (nOf T a)) := by
 walk_at "W"
 rw [ha]; exact ld_of g
theorem ld_p (ha : a = A.p u) (hu : u ∈ G.pv) : getL T a = some (dictO (esOf T a) (nOf T a)) := by
 obtain ⟨o, g, es, n, rfl, D⟩ := E.cel (.p u) hu
 rw [ha]; exact ld_of g
theorem ld_n (ha : a = A.n u) (hu : u ∈ G.nv) : getL T a = some (dictO (esOf T a) (nOf T a)) := by
 obtain ⟨o, g, k, rfl⟩ := E.cel (.n u) hu
 rw [ha]; exact ld_of g
theorem ld_d (ha : a = A.d u v) (hu : u ∈ G.sv) (hv : v ∈ G.ks u) : getL T a = some (dictO (esOf T a) (nOf T a)) := by
 obtain ⟨o, g, D, rfl, _⟩ := E.cel (.d u v) (E.ok.kh u v hu hv)
 rw [ha]; exact ld_of g
end
section
variable (w : World) (h₀ : Heap) (K : KT.Holds h₀ 1 0 (kt1 w)) (d : Drawn) (os : OsState) (g₀ : List GenState) (R T : News) (m i : Nat) (gl : List GenState) (nd sd pd : Addr) (A : Ad) (G : Gr) (E : Emb w T nd sd pd A G) (a b x : Addr) (u v : Int) (t : Tok)
include E
include K
theorem e_get_s (hu : u ∈ G.sv) : Ctr prog1 w h₀ d os g₀ (aroundL 480) (.call (.builtin "dict.get") ⟨[.ref sd, .int u t], []⟩) (R ++ T) m i gl (oneQ (.ref (A.s u)) (R ++ T) m (i + 1) gl) := by
 walk_at "aw"
 exact q_get_some w h₀ K d os g₀ _ sd es n R T m i gl u t _ g D _ (tab_in hu)
theorem e_get_s0 (hu : u ∉ G.sv) : Ctr prog1 w h₀ d os g₀ (aroundL 480) (.call (.builtin "dict.get") ⟨[.ref sd, .int u t], []⟩) (R ++ T) m i gl (oneQ .none (R ++ T) m (i + 1) gl) := by
 walk_at "aw"
 exact q_get_none w h₀ K d os g₀ _ sd es n R T m i gl u t _ g D (tab_out hu)
theorem e_has_s (hu : u ∈ G.sv) : Ctr prog1 w h₀ d os g₀ (aroundL 480) (.call (k_addr% "bq") ⟨[.ref sd, .int u t], []⟩) (R ++ T) m i gl (oneQ (.bool true) (R ++ T) m (i + 1) gl) := by
 walk_at "aw"
 exact q_has w h₀ K d os g₀ _ sd es n R T m i gl u t _ g D _ (tab_in hu)
theorem e_has_s0 (hu : u ∉ G.sv) : Ctr prog1 w h₀ d os g₀ (aroundL 480) (.call (k_addr% "bq") ⟨[.ref sd, .int u t], []⟩) (R ++ T) m i gl (k_addr% "ee") := by
 walk_at "aw"
 exact q_hasnt w h₀ K d os g₀ _ sd es n R T m i gl u t _ g D (tab_out hu)
theorem e_has_n (hu : u ∈ G.nv) : Ctr prog1 w h₀ d os g₀ (aroundL 480) (.call (k_addr% "bq") ⟨[.ref nd, .int u t], []⟩) (R ++ T) m i gl (oneQ (.bool true) (R ++ T) m (i + 1) gl) := by
 walk_at "bT"
 exact q_has w h₀ K d os g₀ _ nd es n R T m i gl u t _ g D _ (tab_in hu)
theorem e_has_n0 (hu : u ∉ G.nv) : Ctr prog1 w h₀ d os g₀ (aroundL 480) (.call (k_addr% "bq") ⟨[.ref nd, .int u t], []⟩) (R ++ T) m i gl (k_addr% "ee") := by
 walk_at "bT"
 exact q_hasnt w h₀ K d os g₀ _ nd es n R T m i gl u t _ g D (tab_out hu)
theorem e_item_s (hu : u ∈ G.sv) : Ctr prog1 w h₀ d os g₀ (aroundL 480) (.call (k_addr% "aL") ⟨[.ref sd, .int u t], []⟩) (R ++ T) m i gl (oneQ (.ref (A.s u)) (R ++ T) m (i + 1) gl) := by
 walk_at "aw"
 exact q_getitem w h₀ d os g₀ _ sd es n R T m i gl u t _ g D _ (tab_in hu)
theorem e_item_p (hu : u ∈ G.pv) : Ctr prog1 w h₀ d os g₀ (aroundL 480) (.call (k_addr% "aL") ⟨[.ref pd, .int u t], []⟩) (R ++ T) m i gl (oneQ (.ref (A.p u)) (R ++ T) m (i + 1) gl) := by
 walk_at "cQ"
 exact q_getitem w h₀ d os g₀ _ pd es n R T m i gl u t _ g D _ (tab_in hu)
theorem e_item_n (hu : u ∈ G.nv) : Ctr prog1 w h₀ d os g₀ (aroundL 480) (.call (k_addr% "aL") ⟨[.ref nd, .int u t], []⟩) (R ++ T) m i gl (oneQ (.ref (A.n u)) (R ++ T) m (i + 1) gl) := by
 walk_at "bT"
 exact q_getitem w h₀ d os g₀ _ nd es n R T m i gl u t _ g D _ (tab_in hu)
theorem e_item_k (ha : a = A.s u) (hu : u ∈ G.sv) (hv : v ∈ G.ks u) : Ctr prog1 w h₀ d os g₀ (aroundL 480) (.call (k_addr% "aL") ⟨[.ref a, .int v t], []⟩) (R ++ T) m i gl (oneQ (.ref (A.d u v)) (R ++ T) m (i + 1) gl) := by
 walk_at "W"
 subst ha
 exact q_getitem w h₀ d os g₀ _ _ es n R T m i gl v t _ g D _ (tab_in hv)
theorem e_has_k (ha : a = A.s u) (hu : u ∈ G.sv) (hv : v ∈ G.ks u) : Ctr prog1 w h₀ d os g₀ (aroundL 480) (k_addr% "eI") (R ++ T) m i gl (oneQ (.bool true) (R ++ T) m (i + 1) gl) := by
 walk_at "W"
 subst ha
 exact q_has w h₀ K d os g₀ _ _ es n R T m i gl v t _ g D _ (tab_in hv)
theorem e_has_k0 (ha : a = A.s u) (hu : u ∈ G.sv) (hv : v ∉ G.ks u) : Ctr prog1 w h₀ d os g₀ (aroundL 480) (k_addr% "eI") (R ++ T) m i gl (k_addr% "ee") := by
 walk_at "W"
 subst ha
 exact q_hasnt w h₀ K d os g₀ _ _ es n R T m i gl v t _ g D (tab_out hv)
theorem e_get_k0 (dflt : Value) (ha : a = A.s u) (hu : u ∈ G.sv) (hv : v ∉ G.ks u) : Ctr prog1 w h₀ d os g₀ (aroundL 480) (.call (.builtin "dict.get") ⟨[.ref a, .int v t, dflt], []⟩) (R ++ T) m i gl (oneQ dflt (R ++ T) m (i + 1) gl) := by
 walk_at "W"
 subst ha
 exact q_get2_none w h₀ K d os g₀ _ _ es n R T m i gl v t _ g D dflt (tab_out hv)
theorem e_len_pos (ha : a = A.s u) (hu : u ∈ G.sv) (q : Nat) (hl : (G.ks u).length = q + 1) : Ctr prog1 w h₀ d os g₀ (aroundL 470) (k_addr% "ev") (R ++ T) m i gl (oneQ (.int (Int.ofNat (q + 1)) (i + 1)) (R ++ T) m (i + 2) gl) := by
 have hz := E.len_k hu
 walk_at "W"
 subst ha
 exact q_len_pos w h₀ K d os g₀ R T m i gl _ es n _ g D q (by simpa [tab] using hl) (by omega)
theorem e_len_zero (ha : a = A.s u) (hu : u ∈ G.sv) (hl : G.ks u = []) : Ctr prog1 w h₀ d os g₀ (aroundL 470) (k_addr% "ev") (R ++ T) m i gl (oneQ (.int (Int.ofNat 0) (i + 1)) (R ++ T) m (i + 2) gl) := by
 walk_at "W"
 subst ha
 rw [hl] at D
 exact q_len_zero w h₀ K d os g₀ R T m i gl _ es n g D
omit K E in
theorem keys_of {w : World} {l : List Int} {f : Int → Addr} {es : List DictEntry} (D : DE prog1 w (tab l f) es) : ∃ ps : List (Int × Tok), es.map (·.key) = ivs ps ∧ ps.map Prod.fst = l := by
 walk_at "ad"
 have hp := D.pairs
 clear D
 induction l generalizing es with
 | nil => cases hp; exact ⟨[], rfl, rfl⟩
 | cons u l ih =>
   cases hp with
   | cons h1 h2 h3 =>
     rename_i e es'
     obtain ⟨hs, k, t, b, rfl⟩ := hr e (.head _)
     obtain ⟨ps, q1, q2⟩ := ih (fun e he => hr e (.tail _ he)) h3
     refine ⟨(k, t) :: ps, by rw [List.map_cons, q1]; rfl, ?_⟩
     have : k = u := by simpa [intKind, Value.isInt] using h1
     rw [List.map_cons, q2, this]
theorem e_keys (ha : a = A.s u) (hu : u ∈ G.sv) (lm : Int) (hlast : (G.ks u).getLast? = some lm) :
 Ctr prog1 w h₀ d os g₀ (aroundL 470) (.call (.type "list") ⟨[.ref a], []⟩) (R ++ T) m i gl
  (exQ (Nat × Tok × List (Int × Tok)) (fun x => x.2.2.map Prod.fst = G.ks u ∧ (ivs x.2.2).getLast? = some (.int lm x.2.1)) (k_addr% "dr") (fun x => (m, listO (ivs x.2.2) x.1) :: (R ++ T)) (fun _ => m + 4) (fun _ => i) (fun _ => gl)) := by
 have hz := E.len_k hu
 walk_at "W"
 subst ha
 walk_at "ad"
 have hl := D.pairs.length
 obtain ⟨ps, q1, q2⟩ := keys_of D
 refine (q_list_keys w h₀ K d os g₀ _ es n hr (by omega) R T m i gl g).mono ?_
 rintro _ _ _ _ _ ⟨nL, -, rfl, rfl, rfl, rfl, rfl⟩
 have hlast' : ∃ tk, ps.getLast? = some (lm, tk) := by
  rw [← q2, List.getLast?_map] at hlast
  cases q : ps.getLast? with
  | none => rw [q] at hlast; cases hlast
  | some p => rw [q] at hlast; obtain ⟨y, tk⟩ := p; simp at hlast; exact ⟨tk, by rw [hlast]⟩
 obtain ⟨tk, h3⟩ := hlast'
 refine ⟨(nL, tk, ps), ⟨q2, ?_⟩, rfl, by show (m, listO (es.map (·.key)) nL) :: (R ++ T) = _; rw [q1], rfl, rfl, rfl⟩
 show (ps.map _).getLast? = _
 rw [List.getLast?_map, h3]; rfl
theorem e_cw (ha : a = A.d u v) (hu : u ∈ G.sv) (hv : v ∈ G.ks u) : Ctr prog1 w h₀ d os g₀ (aroundL 480) (k_addr% "ep") (R ++ T) m i gl
  (exQ Tok (fun _ => True) (fun z => .ok (.ret (.int (G.x u v) z))) (fun _ => R ++ T) (fun _ => m) (fun _ => i + 1) (fun _ => gl)) := by
 walk_at "aN"
 subst ha
 refine (q_cw w h₀ K d os g₀ R m i gl _ t D T g).mono ?_
 walk_at "af"
 exact ⟨D.tx, trivial, by rw [hx], rfl, rfl, rfl, rfl⟩
theorem e_ccw (ha : a = A.d u v) (hu : u ∈ G.sv) (hv : v ∈ G.ks u) : Ctr prog1 w h₀ d os g₀ (aroundL 480) (k_addr% "ej") (R ++ T) m i gl
  (exQ Tok (fun _ => True) (fun z => .ok (.ret (.int (G.y u v) z))) (fun _ => R ++ T) (fun _ => m) (fun _ => i + 1) (fun _ => gl)) := by
 walk_at "aN"
 subst ha
 refine (q_ccw w h₀ K d os g₀ R m i gl _ t D T g).mono ?_
 walk_at "af"
 exact ⟨D.ty, trivial, by rw [hy], rfl, rfl, rfl, rfl⟩
end
section
variable (w : World) (h₀ : Heap) (K : KT.Holds h₀ 1 0 (kt1 w)) (d : Drawn) (os : OsState) (g₀ : List GenState) (R T : News) (m i : Nat) (gl : List GenState) (nd sd pd : Addr) (A : Ad) (G : Gr) (E : Emb w T nd sd pd A G) (a b x : Addr) (u v : Int) (t : Tok)
include E
theorem e_set_s (hu : u ∉ G.sv) (ho : Uo u) : Ctr prog1 w h₀ d os g₀ (aroundL 480) (.call (k_addr% "aA") ⟨[.ref sd, .int u t, .ref x], []⟩) ((x, dictO [] 0) :: (R ++ T)) m i gl
  (exQ News (fun T' => Emb w T' nd sd pd (A.setS u x) (G.addS u)) (k_addr% "s") (fun T' => R ++ T') (fun _ => m) (fun _ => i + 1) (fun _ => gl)) := by
 walk_at "aw"
 refine Ctr.eW (q_setitem w h₀ d os g₀ _ sd es n ((x, dictO [] 0) :: R) T m i gl u t _ g D (.ref x) (l100 E.len_s)) fun fr => ?_
 refine E.nw x _ fr (.s u) .sd trivial _ _ _ (by nofun) (fun b hb => ?_) (fun b hb => ?_) (upd_self _ _ _) (E.ok.addS ho) ?_ ?_ (fun b h1 h2 hb o f => ?_)
 ·cases b with
  | s z => rcases List.mem_append.mp hb with h | h
           ·exact .inr h
           ·walk_at "cX"; exact .inl rfl
  | _ => exact .inr hb
 ·cases b with
  | s z => exact upd_ne _ _ (fun e => hb (by rw [e]))
  | _ => rfl
 ·refine ⟨_, _, rfl, ?_⟩
  show DE prog1 w (tab (upd G.ks u [] u) _) []
  rw [upd_self]; exact DE.nil
 ·walk_at "dn"
 ·cases b with
  | s z =>
    show DF w o (tab (upd G.ks u [] z) (A.d z))
    rw [upd_ne _ _ (fun e => h2 (by rw [e]))]; exact f
  | sd => exact absurd rfl h1
  | _ => exact f
theorem e_set_p (hu : u ∉ G.pv) (ho : Uo u) : Ctr prog1 w h₀ d os g₀ (aroundL 480) (.call (k_addr% "aA") ⟨[.ref pd, .int u t, .ref x], []⟩) ((x, dictO [] 0) :: (R ++ T)) m i gl
  (exQ News (fun T' => Emb w T' nd sd pd (A.setP u x) (G.addP u)) (k_addr% "s") (fun T' => R ++ T') (fun _ => m) (fun _ => i + 1) (fun _ => gl)) := by
 walk_at "cQ"
 refine Ctr.eW (q_setitem w h₀ d os g₀ _ pd es n ((x, dictO [] 0) :: R) T m i gl u t _ g D (.ref x) (l100 E.len_p)) fun fr => ?_
 refine E.nw x _ fr (.p u) .pd trivial _ _ _ (by nofun) (fun b hb => ?_) (fun b hb => ?_) (upd_self _ _ _) (E.ok.addP ho) ?_ ?_ (fun b h1 h2 hb o f => ?_)
 ·cases b with
  | p z => rcases List.mem_append.mp hb with h | h
           ·exact .inr h
           ·walk_at "cX"; exact .inl rfl
  | _ => exact .inr hb
 ·cases b with
  | p z => exact upd_ne _ _ (fun e => hb (by rw [e]))
  | _ => rfl
 ·refine ⟨_, _, rfl, ?_⟩
  show DE prog1 w (tab (upd G.ps u [] u) _) []
  rw [upd_self]; exact DE.nil
 ·walk_at "dn"
 ·cases b with
  | p z =>
    show DF w o (tab (upd G.ps u [] z) (fun y => A.d y z))
    rw [upd_ne _ _ (fun e => h2 (by rw [e]))]; exact f
  | pd => exact absurd rfl h1
  | _ => exact f
theorem e_set_n (hu : u ∉ G.nv) (ho : Uo u) : Ctr prog1 w h₀ d os g₀ (aroundL 480) (.call (k_addr% "aA") ⟨[.ref nd, .int u t, .ref x], []⟩) ((x, dictO [] 0) :: (R ++ T)) m i gl
  (exQ News (fun T' => Emb w T' nd sd pd (A.setN u x) (G.addN u)) (k_addr% "s") (fun T' => R ++ T') (fun _ => m) (fun _ => i + 1) (fun _ => gl)) := by
 walk_at "bT"
 refine Ctr.eW (q_setitem w h₀ d os g₀ _ nd es n ((x, dictO [] 0) :: R) T m i gl u t _ g D (.ref x) (l100 E.len_n)) fun fr => ?_
 refine E.nw x _ fr (.n u) .nd trivial _ _ _ (by nofun) (fun b hb => ?_) (fun b hb => ?_) (upd_self _ _ _) (E.ok.addN ho) ⟨_, rfl⟩ ?_ (fun b h1 h2 hb o f => ?_)
 ·cases b with
  | n z => rcases List.mem_append.mp hb with h | h
           ·exact .inr h
           ·walk_at "cX"; exact .inl rfl
  | _ => exact .inr hb
 ·cases b with
  | n z => exact upd_ne _ _ (fun e => hb (by rw [e]))
  | _ => rfl
 ·walk_at "dn"
 ·cases b with
  | nd => exact absurd rfl h1
  | _ => exact f
theorem e_set_kD (D : Dat) (ha : a = A.s u) (hu : u ∈ G.sv) (hv : v ∉ G.ks u) (hq : u ∉ G.ps v) (ho : Uo v) : Ctr prog1 w h₀ d os g₀ (aroundL 480) (k_addr% "dS") ((x, dataO D) :: (R ++ T)) m i gl
  (exQ News (fun T' => Emb w T' nd sd pd (A.setD u v x) (G.addK u v D.x D.y) ∧ x = (A.setD u v x).d u v) (k_addr% "s") (fun T' => R ++ T') (fun _ => m) (fun _ => i + 1) (fun _ => gl)) := by
 obtain ⟨o, g, es, n, rfl, De⟩ := E.cel (.s u) hu
 subst ha
 refine Ctr.eW (q_setitem w h₀ d os g₀ _ _ es n ((x, dataO D) :: R) T m i gl v t _ g De (.ref x) (l100 (E.len_k hu))) fun fr => ⟨?_, (upd2_self _ _ _ _).symm⟩
 refine E.nw x _ fr (.d u v) (.s u) hu _ _ _ (by nofun) (fun b hb => ?_) (fun b hb => ?_) (upd2_self _ _ _ _) (E.ok.addK ho) ⟨D, rfl, (upd2_self _ _ _ _).symm, (upd2_self _ _ _ _).symm⟩ ?_ (fun b h1 h2 hb o f => ?_)
 ·cases b with
  | d z y => rcases hb with ⟨rfl, rfl⟩ | h
             ·exact .inl rfl
             ·exact .inr h
  | _ => exact .inr hb
 ·cases b with
  | d z y => exact upd2_ne _ _ (fun e => hb (by rw [e.1, e.2]))
  | _ => rfl
 ·show DF w _ (tab (upd G.ks u (G.ks u ++ [v]) u) _)
  rw [upd_self]
  exact DF.store De hv (fun z hz => upd2_ne _ _ (fun e => hv (e.2 ▸ hz))) (upd2_self _ _ _ _)
 ·cases b with
  | s z =>
    have hz : z ≠ u := fun e => h1 (by rw [e])
    show DF w o (tab (upd G.ks u (G.ks u ++ [v]) z) (upd2 A.d u v x z))
    rw [upd_ne _ _ hz, ← tab_congr (f := A.d z) fun y _ => upd2_ne _ _ (fun e => hz e.1)]; exact f
  | p z =>
    show DF w o (tab (G.ps z) fun y => upd2 A.d u v x y z)
    rw [← tab_congr (f := fun y => A.d y z) fun y hy => upd2_ne _ _ (fun e => hq (by rw [← e.1, ← e.2]; exact hy))]; exact f
  | d z y =>
    obtain ⟨D', q1, q2, q3⟩ := f
    have hne : ¬ (z = u ∧ y = v) := fun e => h2 (by rw [e.1, e.2])
    exact ⟨D', q1, q2.trans (upd2_ne _ _ hne).symm, q3.trans (upd2_ne _ _ hne).symm⟩
  | _ => exact f
theorem e_set_k_c (k1 k2 : Int) (j1 j2 : Tok) (cx cy : Int) (tx ty : Tok) (n : Nat) (ha : a = A.s u) (hu : u ∈ G.sv) (hv : v ∉ G.ks u) (hq : u ∉ G.ps v) (ho : Uo v) : Ctr prog1 w h₀ d os g₀ (aroundL 480) (k_addr% "dS") ((x, dictO [⟨k1, .str "cw" j1, .int cx tx⟩, ⟨k2, .str "ccw" j2, .int cy ty⟩] n) :: (R ++ T)) m i gl
  (k_addr% "cg") :=
 e_set_kD w h₀ d os g₀ R T m i gl nd sd pd A G E a x u v t ⟨k1, j1, cx, tx, k2, j2, cy, ty, false, n⟩ ha hu hv hq ho
theorem e_set_k_w (k1 k2 : Int) (j1 j2 : Tok) (cx cy : Int) (tx ty : Tok) (n : Nat) (ha : a = A.s u) (hu : u ∈ G.sv) (hv : v ∉ G.ks u) (hq : u ∉ G.ps v) (ho : Uo v) : Ctr prog1 w h₀ d os g₀ (aroundL 480) (k_addr% "dS") ((x, dictO [⟨k2, .str "ccw" j2, .int cy ty⟩, ⟨k1, .str "cw" j1, .int cx tx⟩] n) :: (R ++ T)) m i gl
  (k_addr% "cg") :=
 e_set_kD w h₀ d os g₀ R T m i gl nd sd pd A G E a x u v t ⟨k1, j1, cx, tx, k2, j2, cy, ty, true, n⟩ ha hu hv hq ho
theorem e_set_q (ha : a = A.p v) (hb : b = A.d u v) (hv : v ∈ G.pv) (hu : u ∉ G.ps v) (ho : Uo u) : Ctr prog1 w h₀ d os g₀ (aroundL 480) (.call (k_addr% "aA") ⟨[.ref a, .int u t, .ref b], []⟩) (R ++ T) m i gl
  (exQ News (fun T' => Emb w T' nd sd pd A (G.addQ u v)) (k_addr% "s") (fun T' => R ++ T') (fun _ => m) (fun _ => i + 1) (fun _ => gl)) := by
 obtain ⟨o, g, es, n, rfl, D⟩ := E.cel (.p v) hv
 subst ha hb
 refine Ctr.eW0 (q_setitem w h₀ d os g₀ _ _ es n R T m i gl u t _ g D (.ref (A.d u v)) (l100 (E.len_q hv))) ?_
 refine E.wr (.p v) hv _ _ (fun b hb => hb) (E.ok.addQ ho) ?_ (fun b h1 hb o f => ?_)
 ·show DF w _ (tab (upd G.ps v (G.ps v ++ [u]) v) _)
  rw [upd_self]
  exact DF.store D hu (fun _ _ => rfl) rfl
 ·cases b with
  | p z =>
    show DF w o (tab (upd G.ps v (G.ps v ++ [u]) z) _)
    walk_at "cx"; exact f
  | _ => exact f
theorem e_reset_k (ha : a = A.s u) (hb : b = A.d u v) (hu : u ∈ G.sv) (hv : v ∉ G.ks u) (hh : G.hd u v) (ho : Uo v) : Ctr prog1 w h₀ d os g₀ (aroundL 480) (.call (k_addr% "aA") ⟨[.ref a, .int v t, .ref b], []⟩) (R ++ T) m i gl
  (exQ News (fun T' => Emb w T' nd sd pd A (G.reK u v)) (k_addr% "s") (fun T' => R ++ T') (fun _ => m) (fun _ => i + 1) (fun _ => gl)) := by
 walk_at "W"
 subst ha hb
 refine Ctr.eW0 (q_setitem w h₀ d os g₀ _ _ es n R T m i gl v t _ g D (.ref (A.d u v)) (l100 (E.len_k hu))) ?_
 refine E.wr (.s u) hu _ _ (fun b hb => hb) (E.ok.reK ho hh) ?_ (fun b h1 hb o f => ?_)
 ·show DF w _ (tab (upd G.ks u (G.ks u ++ [v]) u) _)
  rw [upd_self]
  exact DF.store D hv (fun _ _ => rfl) rfl
 ·cases b with
  | s z =>
    show DF w o (tab (upd G.ks u (G.ks u ++ [v]) z) _)
    walk_at "cx"; exact f
  | _ => exact f
theorem e_pop_k (ha : a = A.s u) (hu : u ∈ G.sv) (hv : v ∈ G.ks u) : Ctr prog1 w h₀ d os g₀ (aroundL 480) (.call (.builtin "dict.pop") ⟨[.ref a, .int v t], []⟩) (R ++ T) m i gl
  (exQ News (fun T' => Emb w T' nd sd pd A (G.offK u v)) (fun _ => .ok (.ret (.ref (A.d u v)))) (fun T' => R ++ T') (fun _ => m) (fun _ => i + 1) (fun _ => gl)) := by
 walk_at "W"
 subst ha
 refine Ctr.eW0 (q_pop w h₀ d os g₀ _ _ es n R T m i gl v t _ g D (.ref (A.d u v)) (l100 (E.len_k hu)) (tab_in hv)) ?_
 walk_at "dP"
 ·show DF w _ (tab (upd G.ks u (offI (G.ks u) v) u) _)
  rw [upd_self]
  exact DF.drop D
 ·cases b with
  | s z =>
    show DF w o (tab (upd G.ks u (offI (G.ks u) v) z) _)
    walk_at "cx"; exact f
  | _ => exact f
theorem e_del_k (ha : a = A.s u) (hu : u ∈ G.sv) (hv : v ∈ G.ks u) : Ctr prog1 w h₀ d os g₀ (aroundL 480) (.call (k_addr% "dD") ⟨[.ref a, .int v t], []⟩) (R ++ T) m i gl
  (exQ News (fun T' => Emb w T' nd sd pd A (G.offK u v)) (k_addr% "s") (fun T' => R ++ T') (fun _ => m) (fun _ => i + 1) (fun _ => gl)) := by
 walk_at "W"
 subst ha
 refine Ctr.eW0 (q_delitem w h₀ d os g₀ _ _ es n R T m i gl v t _ g D (.ref (A.d u v)) (l100 (E.len_k hu)) (tab_in hv)) ?_
 walk_at "dP"
 ·show DF w _ (tab (upd G.ks u (offI (G.ks u) v) u) _)
  rw [upd_self]
  exact DF.drop D
 ·cases b with
  | s z =>
    show DF w o (tab (upd G.ks u (offI (G.ks u) v) z) _)
    walk_at "cx"; exact f
  | _ => exact f
theorem e_del_q (ha : a = A.p v) (hv : v ∈ G.pv) (hu : u ∈ G.ps v) : Ctr prog1 w h₀ d os g₀ (aroundL 480) (.call (k_addr% "dD") ⟨[.ref a, .int u t], []⟩) (R ++ T) m i gl
  (exQ News (fun T' => Emb w T' nd sd pd A (G.offQ v u)) (k_addr% "s") (fun T' => R ++ T') (fun _ => m) (fun _ => i + 1) (fun _ => gl)) := by
 obtain ⟨o, g, es, n, rfl, D⟩ := E.cel (.p v) hv
 subst ha
 refine Ctr.eW0 (k_addr% "ec") ?_
 refine E.wr (.p v) hv _ _ (fun b hb => hb) E.ok.offQ ?_ (fun b h1 hb o f => ?_)
 ·show DF w _ (tab (upd G.ps v (offI (G.ps v) u) v) _)
  rw [upd_self]
  exact DF.drop D
 ·cases b with
  | p z =>
    show DF w o (tab (upd G.ps v (offI (G.ps v) u) z) _)
    walk_at "cx"; exact f
  | _ => exact f
theorem e_del_s (hu : u ∈ G.sv) : Ctr prog1 w h₀ d os g₀ (aroundL 480) (.call (k_addr% "dD") ⟨[.ref sd, .int u t], []⟩) (R ++ T) m i gl
  (exQ News (fun T' => Emb w T' nd sd pd A (G.offS u)) (k_addr% "s") (fun T' => R ++ T') (fun _ => m) (fun _ => i + 1) (fun _ => gl)) := by
 walk_at "aw"
 refine Ctr.eW0 (q_delitem w h₀ d os g₀ _ _ es n R T m i gl u t _ g D (.ref (A.s u)) (l100 E.len_s) (tab_in hu)) ?_
 refine E.wr .sd trivial _ _ (fun b hb => ?_) E.ok.offS (DF.drop D) (fun b h1 hb o f => ?_)
 ·cases b with
  | s z => exact (mem_offI.mp hb).1
  | _ => exact hb
 ·cases b with
  | sd => exact absurd rfl h1
  | _ => exact f
theorem e_del_p (hu : u ∈ G.pv) : Ctr prog1 w h₀ d os g₀ (aroundL 480) (.call (k_addr% "dD") ⟨[.ref pd, .int u t], []⟩) (R ++ T) m i gl
  (exQ News (fun T' => Emb w T' nd sd pd A (G.offP u)) (k_addr% "s") (fun T' => R ++ T') (fun _ => m) (fun _ => i + 1) (fun _ => gl)) := by
 walk_at "cQ"
 refine Ctr.eW0 (q_delitem w h₀ d os g₀ _ _ es n R T m i gl u t _ g D (.ref (A.p u)) (l100 E.len_p) (tab_in hu)) ?_
 refine E.wr .pd trivial _ _ (fun b hb => ?_) E.ok.offP (DF.drop D) (fun b h1 hb o f => ?_)
 ·cases b with
  | p z => exact (mem_offI.mp hb).1
  | _ => exact hb
 ·cases b with
  | pd => exact absurd rfl h1
  | _ => exact f
theorem e_del_n (hu : u ∈ G.nv) : Ctr prog1 w h₀ d os g₀ (aroundL 480) (.call (k_addr% "dD") ⟨[.ref nd, .int u t], []⟩) (R ++ T) m i gl
  (exQ News (fun T' => Emb w T' nd sd pd A (G.offN u)) (k_addr% "s") (fun T' => R ++ T') (fun _ => m) (fun _ => i + 1) (fun _ => gl)) := by
 walk_at "bT"
 refine Ctr.eW0 (q_delitem w h₀ d os g₀ _ _ es n R T m i gl u t _ g D (.ref (A.n u)) (l100 E.len_n) (tab_in hu)) ?_
 refine E.wr .nd trivial _ _ (fun b hb => ?_) E.ok.offN (DF.drop D) (fun b h1 hb o f => ?_)
 ·cases b with
  | n z => exact (mem_offI.mp hb).1
  | _ => exact hb
 ·cases b with
  | nd => exact absurd rfl h1
  | _ => exact f
include K
theorem e_cw_set (c : Int) (tc : Tok) (ha : a = A.d u v) (hu : u ∈ G.sv) (hv : v ∈ G.ks u) : Ctr prog1 w h₀ d os g₀ (aroundL 480) (.call (k_addr% "aA") ⟨[.ref a, .str "cw" t, .int c tc], []⟩) (R ++ T) m i gl
  (exQ News (fun T' => Emb w T' nd sd pd A (G.setX u v c)) (k_addr% "s") (fun T' => R ++ T') (fun _ => m) (fun _ => i + 1) (fun _ => gl)) := by
 walk_at "aN"
 subst ha
 refine Ctr.eW0 (q_cw_set w h₀ K d os g₀ R m i gl _ t D T g c tc) ?_
 walk_at "ef"
 cases b with
 | d z y =>
   obtain ⟨D', q1, q2, q3⟩ := f
   exact ⟨D', q1, q2.trans (upd2_ne _ _ (fun e => h1 (by rw [e.1, e.2]))).symm, q3⟩
 | _ => exact f
theorem e_ccw_set (c : Int) (tc : Tok) (ha : a = A.d u v) (hu : u ∈ G.sv) (hv : v ∈ G.ks u) : Ctr prog1 w h₀ d os g₀ (aroundL 480) (.call (k_addr% "aA") ⟨[.ref a, .str "ccw" t, .int c tc], []⟩) (R ++ T) m i gl
  (exQ News (fun T' => Emb w T' nd sd pd A (G.setY u v c)) (k_addr% "s") (fun T' => R ++ T') (fun _ => m) (fun _ => i + 1) (fun _ => gl)) := by
 walk_at "aN"
 subst ha
 refine Ctr.eW0 (q_ccw_set w h₀ K d os g₀ R m i gl _ t D T g c tc) ?_
 walk_at "eg"
 cases b with
 | d z y =>
   obtain ⟨D', q1, q2, q3⟩ := f
   exact ⟨D', q1, q2, q3.trans (upd2_ne _ _ (fun e => h1 (by rw [e.1, e.2]))).symm⟩
 | _ => exact f
end
def embNames : List Lean.Name := [``e_get_s, ``e_get_s0, ``e_has_s, ``e_has_s0, ``e_has_n, ``e_has_n0, ``e_item_s, ``e_item_p, ``e_item_n, ``e_item_k, ``e_has_k, ``e_has_k0, ``e_get_k0, ``e_len_pos, ``e_len_zero, ``e_keys, ``e_cw, ``e_ccw, ``e_set_s, ``e_set_p, ``e_set_n, ``e_set_k_c, ``e_set_k_w, ``e_set_q, ``e_reset_k, ``e_pop_k, ``e_del_k, ``e_del_q, ``e_del_s, ``e_del_p, ``e_del_n, ``e_cw_set, ``e_ccw_set]
end Mine
section
variable (w : PySem.World) (b1 b2 : Bool) (hpar : w.params = Mine.parB w.params b1 b2) (h₀ : PySem.Heap) (K : PySem.W.X.KT.Holds h₀ 1 0 (Mine.kt1 w)) (d : PySem.Drawn) (os : PySem.OsState) (g₀ : List PySem.GenState)
namespace Mine
open PySem PySem.Spec PySem.Calls PyProof.Rows PySem.W PySem.W.X
abbrev Gr.addV (G : Gr) (u : Int) : Gr := ((G.addS u).addP u).addN u
abbrev Gr.addE (G : Gr) (u v cx cy : Int) : Gr := (G.addK u v cx cy).addQ u v
theorem mem_last (l : List Int) (u : Int) : u ∈ l ++ [u] := List.mem_append.mpr (.inr (.head _))
theorem mem_front {l : List Int} {u : Int} (v : Int) (h : u ∈ l) : u ∈ l ++ [v] := List.mem_append.mpr (.inl h)
theorem not_front {l : List Int} {u v : Int} (h : u ∉ l) (e : u ≠ v) : u ∉ l ++ [v] := fun q => (List.mem_append.mp q).elim h fun q => e (List.mem_singleton.mp q)
theorem upd_nil (f : Int → List Int) (u z : Int) : z ∉ upd f u [] u := by rw [upd_self]; exact List.not_mem_nil
theorem upd_keep {f : Int → List Int} {u z : Int} (a : List Int) {y : Int} (h : y ∉ f z) (e : z ≠ u) : y ∉ upd f u a z := by rw [upd_ne _ _ e]; exact h
section
variable (R T : News) (m i : Nat) (gl : List GenState)
 (o dI gd nd sd pd : Addr) (t1 t2 t3 t4 t5 n1 : Nat) (h1 h2 h3 h4 h5 : Int) (A : Ad) (G : Gr) (E : Emb w T nd sd pd A G)
 (u v : Int) (tu tv : Tok) (huv : u ≠ v) (hou : Uo u) (hov : Uo v) (ep : G.pv = G.sv) (en : G.nv = G.sv) (cx cy : Int) (tx ty : Tok)
include hpar K E huv hou hov ep en
theorem ea_oo_c (hu : u ∈ G.sv) (hv : v ∈ G.sv) (hun : v ∉ G.ks u) (hq : u ∉ G.ps v) :
 Ctr prog1 w h₀ d os g₀ (aroundL 400) (k_addr% "cr") (k_addr% "i") m i gl
  (k_addr% "aQ") := by
 have hvp : v ∈ G.pv := by rw [ep]; exact hv
 walk_at "d"
 walk_at "bf"
 run_tac Mine.done
 run_tac Mine.ands
 constructor
 ·assumption
 ·first | rfl | exact (upd_ne _ _ huv).symm
theorem ea_on_c (hu : u ∈ G.sv) (hv : v ∉ G.sv) (hun : v ∉ G.ks u) :
 Ctr prog1 w h₀ d os g₀ (aroundL 400) (k_addr% "cr") (k_addr% "i") m i gl
  (k_addr% "aJ") := by
 walk_at "dX"
 have hvn' : v ∉ G.nv := by rw [en]; exact hv
 have f4 : u ∈ (G.addV v).sv := mem_front _ hu
 have f5 : v ∈ (G.addV v).pv := mem_last _ _
 have f6 : v ∉ (G.addV v).ks u := upd_keep _ hun huv
 have f7 : u ∉ (G.addV v).ps v := upd_nil _ _ _
 walk_at "d"
 walk_at "bf"
 run_tac Mine.done
 run_tac Mine.ands
 constructor
 ·assumption
 ·first | rfl | exact (upd_ne _ _ huv).symm
theorem ea_oo_w (hu : u ∈ G.sv) (hv : v ∈ G.sv) (hun : v ∉ G.ks u) (hq : u ∉ G.ps v) :
 Ctr prog1 w h₀ d os g₀ (aroundL 400) (k_addr% "ab") (k_addr% "i") m i gl
  (k_addr% "aQ") := by
 have hvp : v ∈ G.pv := by rw [ep]; exact hv
 walk_at "d"
 walk_at "bf"
 run_tac Mine.done
 run_tac Mine.ands
 constructor
 ·assumption
 ·first | rfl | exact (upd_ne _ _ huv).symm
theorem ea_on_w (hu : u ∈ G.sv) (hv : v ∉ G.sv) (hun : v ∉ G.ks u) :
 Ctr prog1 w h₀ d os g₀ (aroundL 400) (k_addr% "ab") (k_addr% "i") m i gl
  (k_addr% "aJ") := by
 walk_at "dX"
 have hvn' : v ∉ G.nv := by rw [en]; exact hv
 have f4 : u ∈ (G.addV v).sv := mem_front _ hu
 have f5 : v ∈ (G.addV v).pv := mem_last _ _
 have f6 : v ∉ (G.addV v).ks u := upd_keep _ hun huv
 have f7 : u ∉ (G.addV v).ps v := upd_nil _ _ _
 walk_at "d"
 walk_at "bf"
 run_tac Mine.done
 run_tac Mine.ands
 constructor
 ·assumption
 ·first | rfl | exact (upd_ne _ _ huv).symm
theorem ea_no_w (hu : u ∉ G.sv) (hv : v ∈ G.sv) (hq : u ∉ G.ps v) :
 Ctr prog1 w h₀ d os g₀ (aroundL 400) (k_addr% "ab") (k_addr% "i") m i gl
  (exQ (k_addr% "ct") (fun x => Emb w x.2.2.1 nd sd pd x.2.2.2 ((G.addV u).addE u v cx cy)) (k_addr% "s") (k_addr% "n") (fun x => x.1) (fun x => x.2.1) (fun _ => gl)) := by
 have hup : u ∉ G.pv := by rw [ep]; exact hu
 have hun' : u ∉ G.nv := by rw [en]; exact hu
 have f1 : u ∈ (G.addV u).sv := mem_last _ _
 have hvp : v ∈ G.pv := by rw [ep]; exact hv
 have f2 : v ∈ (G.addV u).sv := mem_front _ hv
 have f3 : v ∈ (G.addV u).pv := mem_front _ hvp
 have f4 : u ∉ (G.addV u).ps v := upd_keep _ hq (fun e => huv e.symm)
 have f5 : v ∉ (G.addV u).ks u := upd_nil _ _ _
 walk_at "d"
 walk_at "bf"
 run_tac Mine.done
 run_tac Mine.ands
 assumption
theorem ea_nn_w (hu : u ∉ G.sv) (hv : v ∉ G.sv) :
 Ctr prog1 w h₀ d os g₀ (aroundL 400) (k_addr% "ab") (k_addr% "i") m i gl
  (exQ (k_addr% "ct") (fun x => Emb w x.2.2.1 nd sd pd x.2.2.2 (((G.addV u).addV v).addE u v cx cy)) (k_addr% "s") (k_addr% "n") (fun x => x.1) (fun x => x.2.1) (fun _ => gl)) := by
 have hup : u ∉ G.pv := by rw [ep]; exact hu
 have hun' : u ∉ G.nv := by rw [en]; exact hu
 have f1 : u ∈ (G.addV u).sv := mem_last _ _
 walk_at "dX"
 have hvn' : v ∉ G.nv := by rw [en]; exact hv
 have f2 : v ∉ (G.addV u).sv := not_front hv (fun e => huv e.symm)
 have f3 : v ∉ (G.addV u).pv := not_front hvp (fun e => huv e.symm)
 have f3' : v ∉ (G.addV u).nv := not_front hvn' (fun e => huv e.symm)
 have f4 : u ∈ ((G.addV u).addV v).sv := mem_front _ (mem_last _ _)
 have f5 : v ∈ ((G.addV u).addV v).pv := mem_last _ _
 have f6 : v ∉ ((G.addV u).addV v).ks u := upd_keep _ (upd_nil _ _ _) huv
 have f7 : u ∉ ((G.addV u).addV v).ps v := upd_nil _ _ _
 walk_at "d"
 walk_at "bf"
 run_tac Mine.done
 run_tac Mine.ands
 assumption
end
def AddsV (G : Gr) (u v : Int) (G0 : Gr) : Prop := (v ∈ G.sv ∧ u ∉ G.ps v ∧ G0 = G) ∨ (v ∉ G.sv ∧ G0 = G.addV v)
theorem AddsV.mem {G G0 : Gr} {u v z : Int} (H : AddsV G u v G0) (h : z ∈ G.sv) : z ∈ G0.sv := by
 rcases H with ⟨_, _, rfl⟩ | ⟨_, rfl⟩
 ·exact h
 ·exact mem_front _ h
theorem AddsV.ks {G G0 : Gr} {u v : Int} (H : AddsV G u v G0) (h : u ≠ v) : G0.ks u = G.ks u := by
 rcases H with ⟨_, _, rfl⟩ | ⟨_, rfl⟩
 ·rfl
 ·exact upd_ne _ _ h
theorem AddsV.hd {G G0 : Gr} {u v : Int} (H : AddsV G u v G0) : G0.hd = G.hd := by
 rcases H with ⟨_, _, rfl⟩ | ⟨_, rfl⟩ <;> rfl
section
variable (R T : News) (m i : Nat) (gl : List GenState)
 (o dI gd nd sd pd : Addr) (t1 t2 t3 t4 t5 n1 : Nat) (h1 h2 h3 h4 h5 : Int) (A : Ad) (G : Gr) (E : Emb w T nd sd pd A G)
 (u v : Int) (tu tv : Tok) (huv : u ≠ v) (hou : Uo u) (hov : Uo v) (ep : G.pv = G.sv) (en : G.nv = G.sv)
include hpar K E huv hou hov ep en
section
variable (cx cy : Int) (tx ty : Tok) (G0 : Gr) (H0 : AddsV G u v G0) (hu : u ∈ G.sv) (hun : v ∉ G.ks u)
include H0 hu hun
theorem ea_c : Ctr prog1 w h₀ d os g₀ (aroundL 400) (k_addr% "cr") (k_addr% "i") m i gl
  (k_addr% "aP") := by
 rcases H0 with ⟨hv, hq, rfl⟩ | ⟨hv, rfl⟩
 ·exact ea_oo_c w b1 b2 hpar h₀ K d os g₀ R T m i gl o dI gd nd sd pd t1 t2 t3 t4 t5 n1 h1 h2 h3 h4 h5 A G0 E u v tu tv huv hou hov ep en cx cy tx ty hu hv hun hq
 ·exact ea_on_c w b1 b2 hpar h₀ K d os g₀ R T m i gl o dI gd nd sd pd t1 t2 t3 t4 t5 n1 h1 h2 h3 h4 h5 A G E u v tu tv huv hou hov ep en cx cy tx ty hu hv hun
theorem ea_w : Ctr prog1 w h₀ d os g₀ (aroundL 400) (k_addr% "ab") (k_addr% "i") m i gl
  (k_addr% "aP") := by
 rcases H0 with ⟨hv, hq, rfl⟩ | ⟨hv, rfl⟩
 ·exact ea_oo_w w b1 b2 hpar h₀ K d os g₀ R T m i gl o dI gd nd sd pd t1 t2 t3 t4 t5 n1 h1 h2 h3 h4 h5 A G0 E u v tu tv huv hou hov ep en cx cy tx ty hu hv hun hq
 ·exact ea_on_w w b1 b2 hpar h₀ K d os g₀ R T m i gl o dI gd nd sd pd t1 t2 t3 t4 t5 n1 h1 h2 h3 h4 h5 A G E u v tu tv huv hou hov ep en cx cy tx ty hu hv hun
end
theorem ea_n (cx cy : Int) (tx ty : Tok) (G0 : Gr) (H0 : AddsV (G.addV u) u v G0) (hu : u ∉ G.sv) :
 Ctr prog1 w h₀ d os g₀ (aroundL 400) (k_addr% "ab") (k_addr% "i") m i gl
  (exQ (k_addr% "ct") (fun x => Emb w x.2.2.1 nd sd pd x.2.2.2 (G0.addE u v cx cy)) (k_addr% "s") (k_addr% "n") (fun x => x.1) (fun x => x.2.1) (fun _ => gl)) := by
 walk_at "cy"
 rcases H0 with ⟨hv, hq, rfl⟩ | ⟨hv, rfl⟩
 ·have hv' : v ∈ G.sv := (List.mem_append.mp hv).resolve_right fun e => hvu (List.mem_singleton.mp e)
  have hq' : u ∉ G.ps v := by have := hq; dsimp only [Gr.addV, Gr.addS, Gr.addP, Gr.addN] at this; rwa [upd_ne _ _ hvu] at this
  exact ea_no_w w b1 b2 hpar h₀ K d os g₀ R T m i gl o dI gd nd sd pd t1 t2 t3 t4 t5 n1 h1 h2 h3 h4 h5 A G E u v tu tv huv hou hov ep en cx cy tx ty hu hv' hq'
 ·have hv' : v ∉ G.sv := fun e => hv (mem_front _ e)
  exact ea_nn_w w b1 b2 hpar h₀ K d os g₀ R T m i gl o dI gd nd sd pd t1 t2 t3 t4 t5 n1 h1 h2 h3 h4 h5 A G E u v tu tv huv hou hov ep en cx cy tx ty hu hv'
theorem eh_cw_m_b (G0 : Gr) (H0 : AddsV G u v G0) (hu : u ∈ G.sv) (hun : v ∉ G.ks u) (q : Nat) (hl : (G.ks u).length = q + 1) (lm : Int) (hlast : (G.ks u).getLast? = some lm) (c : Int) (tc : Tok) (hc : c ∈ G.ks u) (hr : (G.y u c) ∈ G.ks u) (hmv : c ≠ lm) :
 Ctr prog1 w h₀ d os g₀ (aroundL 350) (.call (.ref 811) ⟨[.ref o, .int u tu, .int v tv], [("cw", .int c tc), ("ccw", .none)]⟩) (k_addr% "i") m i gl
  (exQ (k_addr% "ct") (fun x => Emb w x.2.2.1 nd sd pd x.2.2.2 (((((G0.addE u v c (G.y u c)).setX u (G.y u c) v).setY u c v).offK u lm).reK u lm)) (k_addr% "s") (k_addr% "n") (fun x => x.1) (fun x => x.2.1) (fun _ => gl)) := by
 walk_at "co"
 have m0 : u ∈ G0.sv := H0.mem hu
 walk_at "de"
 walk_at "dA"
 have ml : lm ∈ G.ks u := List.mem_of_getLast? hlast
 have ol : Uo lm := E.ok.uk u lm ml
 have m3 : lm ∈ (G0.addE u v c (G.y u c)).ks u := by rw [ek]; exact mem_front _ ml
 have m4 : lm ∉ ((((G0.addE u v c (G.y u c)).setX u (G.y u c) v).setY u c v).offK u lm).ks u := by
  show lm ∉ upd _ u (offI _ lm) u
  rw [upd_self]; exact fun h => (mem_offI.mp h).2 rfl
 have m5 : (G0.addE u v c (G.y u c)).hd u lm := .inr (by rw [H0.hd]; exact E.ok.kh u lm hu ml)
 walk_at "d"
 walk_at "at"
 run_tac Mine.done
 run_tac Mine.ands
 assumption
theorem eh_cw_s_b (G0 : Gr) (H0 : AddsV G u v G0) (hu : u ∈ G.sv) (hun : v ∉ G.ks u) (q : Nat) (hl : (G.ks u).length = q + 1) (lm : Int) (hlast : (G.ks u).getLast? = some lm) (c : Int) (tc : Tok) (hc : c ∈ G.ks u) (hr : (G.y u c) ∈ G.ks u) (hmv : c = lm) :
 Ctr prog1 w h₀ d os g₀ (aroundL 350) (.call (.ref 811) ⟨[.ref o, .int u tu, .int v tv], [("cw", .int c tc), ("ccw", .none)]⟩) (k_addr% "i") m i gl
  (k_addr% "aF") := by
 walk_at "co"
 have m0 : u ∈ G0.sv := H0.mem hu
 walk_at "de"
 walk_at "dA"
 walk_at "d"
 walk_at "at"
 run_tac Mine.done
 run_tac Mine.ands
 assumption
theorem eh_ccw_m_b (G0 : Gr) (H0 : AddsV G u v G0) (hu : u ∈ G.sv) (hun : v ∉ G.ks u) (q : Nat) (hl : (G.ks u).length = q + 1) (lm : Int) (hlast : (G.ks u).getLast? = some lm) (c : Int) (tc : Tok) (hc : c ∈ G.ks u) (hr : (G.x u c) ∈ G.ks u) :
 Ctr prog1 w h₀ d os g₀ (aroundL 350) (.call (.ref 811) ⟨[.ref o, .int u tu, .int v tv], [("cw", .none), ("ccw", .int c tc)]⟩) (k_addr% "i") m i gl
  (exQ (k_addr% "ct") (fun x => Emb w x.2.2.1 nd sd pd x.2.2.2 (((((G0.addE u v (G.x u c) c).setY u (G.x u c) v).setX u c v).offK u lm).reK u lm)) (k_addr% "s") (k_addr% "n") (fun x => x.1) (fun x => x.2.1) (fun _ => gl)) := by
 have ek : (G0.addE u v (G.x u c) c).ks u = G.ks u ++ [v] := by rw [← H0.ks huv]; exact upd_self _ _ _
 have m0 : u ∈ G0.sv := H0.mem hu
 have m1 : (G.x u c) ∈ (G0.addE u v (G.x u c) c).ks u := by rw [ek]; exact mem_front _ hr
 have m2 : c ∈ (G0.addE u v (G.x u c) c).ks u := by rw [ek]; exact mem_front _ hc
 have ml : lm ∈ G.ks u := List.mem_of_getLast? hlast
 have ol : Uo lm := E.ok.uk u lm ml
 have m3 : lm ∈ (G0.addE u v (G.x u c) c).ks u := by rw [ek]; exact mem_front _ ml
 have m4 : lm ∉ ((((G0.addE u v (G.x u c) c).setY u (G.x u c) v).setX u c v).offK u lm).ks u := by
  show lm ∉ upd _ u (offI _ lm) u
  rw [upd_self]; exact fun h => (mem_offI.mp h).2 rfl
 have m5 : (G0.addE u v (G.x u c) c).hd u lm := .inr (by rw [H0.hd]; exact E.ok.kh u lm hu ml)
 walk_at "d"
 walk_at "at"
 run_tac Mine.done
 run_tac Mine.ands
 assumption
theorem eh_e_s_b (G0 : Gr) (H0 : AddsV G u v G0) (hu : u ∈ G.sv) (hl : G.ks u = []) :
 Ctr prog1 w h₀ d os g₀ (aroundL 350) (.call (.ref 811) ⟨[.ref o, .int u tu, .int v tv], [("cw", .none), ("ccw", .none)]⟩) (k_addr% "i") m i gl
  (k_addr% "L") := by
 have hun : v ∉ G.ks u := by rw [hl]; exact List.not_mem_nil
 walk_at "d"
 walk_at "fd"
 run_tac Mine.done
 run_tac Mine.ands
 assumption
theorem eh_n_s_b (G0 : Gr) (H0 : AddsV (G.addV u) u v G0) (hu : u ∉ G.sv) :
 Ctr prog1 w h₀ d os g₀ (aroundL 350) (.call (.ref 811) ⟨[.ref o, .int u tu, .int v tv], [("cw", .none), ("ccw", .none)]⟩) (k_addr% "i") m i gl
  (k_addr% "L") := by
 walk_at "d"
 run_tac Mine.walk ([``ea_n, ``c_last, ``c_int_ne, ``c_int_ne', ``c_supget] ++ Mine.embNames) [] { wd := true, lies := true }
 run_tac Mine.done
 run_tac Mine.ands
 assumption
theorem eh_cw_s_c (G0 : Gr) (H0 : AddsV G u v G0) (hu : u ∈ G.sv) (hun : v ∉ G.ks u) (q : Nat) (hl : (G.ks u).length = q + 1) (lm : Int) (hlast : (G.ks u).getLast? = some lm) (c : Int) (tc : Tok) (hc : c ∈ G.ks u) (hr : (G.y u c) ∈ G.ks u) (hmv : c = lm) :
 Ctr prog1 w h₀ d os g₀ (aroundL 350) (k_addr% "dE") (k_addr% "i") m i gl
  (k_addr% "aF") := by
 walk_at "co"
 have m0 : u ∈ G0.sv := H0.mem hu
 walk_at "de"
 walk_at "dA"
 walk_at "d"
 walk_at "at"
 run_tac Mine.done
 run_tac Mine.ands
 assumption
theorem eh_e_s_c (G0 : Gr) (H0 : AddsV G u v G0) (hu : u ∈ G.sv) (hl : G.ks u = []) :
 Ctr prog1 w h₀ d os g₀ (aroundL 350) (.call (.ref 811) ⟨[.ref o, .int u tu, .int v tv], [("cw", .none)]⟩) (k_addr% "i") m i gl
  (k_addr% "L") := by
 have hun : v ∉ G.ks u := by rw [hl]; exact List.not_mem_nil
 walk_at "d"
 walk_at "fd"
 run_tac Mine.done
 run_tac Mine.ands
 assumption
end
def Gr.addVs (G : Gr) (l : List Int) : Gr := l.foldl Gr.addV G
theorem e_upd_n (w : World) (h₀ : Heap) (K : KT.Holds h₀ 1 0 (kt1 w)) (d : Drawn) (os : OsState) (g₀ : List GenState) (R T : News) (m i : Nat) (gl : List GenState) (nd sd pd : Addr) (A : Ad) (G : Gr) (E : Emb w T nd sd pd A G) (a b : Addr) (u : Int) (na : Nat)
  (ha : a = A.n u) (hu : u ∈ G.nv) : Ctr prog1 w h₀ d os g₀ (aroundL 470) (.call (.builtin "dict.update") ⟨[.ref a, .ref b], []⟩) ((b, dictO [] na) :: (R ++ T)) m i gl (oneQ .none ((b, dictO [] na) :: (R ++ T)) m i gl) := by
 obtain ⟨o, g, k, rfl⟩ := E.cel (.n u) hu
 subst ha
 refine Ctr.rd (P := [_]) (P' := [_]) g fun rest h RR M hs H => ?_
 refine c_update_0 w h₀ K d os g₀ rest m i gl (A.n u) b k na h RR (M.perm (List.Perm.swap _ _ _)) hs ?_
 walk_at "aj"
 exact H _ _ _ _ _ h' ⟨rfl, rfl, rfl, rfl, rfl⟩ (M'.perm (List.Perm.swap _ _ _)) hs'
section
variable (o dI gd nd sd pd : Addr) (t1 t2 t3 t4 t5 n1 : Nat) (h1 h2 h3 h4 h5 : Int) (l : Addr) (ps : List (Int × Tok)) (n : Nat) (hU : ∀ p ∈ ps, Uo p.1)
 (p I : Addr) (a1 a2 a3 : Int) (c1 c2 c3 : Tok) (nf na : Nat) (a4 a5 a6 : Int) (c4 c5 c6 : Tok)
include hpar K hU
theorem ne_loop : ∀ (q j : Nat) (R T : News) (m i : Nat) (gl : List GenState) (A : Ad) (G : Gr) (v0 : Int) (tv0 : Tok), Emb w T nd sd pd A G → G.pv = G.sv → G.nv = G.sv → j + q = ps.length →
 ((ps.drop j).map Prod.fst).Nodup → (∀ x ∈ ps.drop j, x.1 ∉ G.sv) →
 Ctr prog1 w h₀ d os g₀ (aroundL 360) (anLoop (.ref I) p)
  ((I, litO l j) :: (l, listO (ivs ps) n) :: (p + 1, frO [⟨a1, .str "self" c1, .ref o⟩, ⟨a2, .str "nodes_for_adding" c2, .ref l⟩, ⟨a3, .str "attr" c3, .ref p⟩, ⟨a4, .str "n" c4, .int v0 tv0⟩, ⟨a5, .str "newnode" c5, .bool true⟩, ⟨a6, .str "newdict" c6, .ref p⟩] nf) :: (p, dictO [] na) :: (o, selfO dI) :: (k_addr% "b") :: (R ++ T)) m i gl
  (exQ (Nat × Nat × Int × Tok × News × Ad) (fun x => Emb w x.2.2.2.2.1 nd sd pd x.2.2.2.2.2 (G.addVs ((ps.drop j).map Prod.fst))) (fun _ => .ok .next) (fun x => (l, listO (ivs ps) n) :: (p + 1, frO [⟨a1, .str "self" c1, .ref o⟩, ⟨a2, .str "nodes_for_adding" c2, .ref l⟩, ⟨a3, .str "attr" c3, .ref p⟩, ⟨a4, .str "n" c4, .int x.2.2.1 x.2.2.2.1⟩, ⟨a5, .str "newnode" c5, .bool true⟩, ⟨a6, .str "newdict" c6, .ref p⟩] nf) :: (p, dictO [] na) :: (o, selfO dI) :: (k_addr% "b") :: (R ++ x.2.2.2.2.1)) (fun x => x.1) (fun x => x.2.1) (fun _ => gl))
 | 0, j, R, T, m, i, gl, A, G, v0, tv0, E, ep, en, hj, nd', hne => by
   walk_at "bI"
   walk_at "cd"
   rw [hd]
   walk_at "d"
   run_tac Mine.walk ([``c_lnext_end] ++ Mine.embNames)
   exact re_choose [3, 4, 5, 6, 7] 8 rfl (hR 0 _ _ _ _ _ ⟨(_, _, v0, tv0, T, A), E, rfl, rfl, rfl, rfl, rfl⟩)
 | q + 1, j, R, T, m, i, gl, A, G, v0, tv0, E, ep, en, hj, nd', hne => by
   walk_at "eA"
   walk_at "bB"
   walk_at "aR"
   walk_at "ax"
   have hou : Uo v := hU (v, tv) (by rw [← hpe]; exact List.getElem_mem hjl)
   rw [hd] at nd' hne
   rw [hd]
   have hv : v ∉ G.sv := hne _ (List.mem_cons_self ..)
   walk_at "dX"
   have hvn : v ∉ G.nv := by rw [en]; exact hv
   have f1 : v ∈ (G.addV v).nv := mem_last _ _
   have ep' : (G.addV v).pv = (G.addV v).sv := by show G.pv ++ [v] = G.sv ++ [v]; rw [ep]
   have en' : (G.addV v).nv = (G.addV v).sv := by show G.nv ++ [v] = G.sv ++ [v]; rw [en]
   have nd2 := (List.nodup_cons.mp nd')
   have hne' : ∀ x ∈ ps.drop (j + 1), x.1 ∉ (G.addV v).sv := fun x hx => not_front (hne x (List.mem_cons_of_mem _ hx)) (fun e => nd2.1 (by have := List.mem_map_of_mem (f := Prod.fst) hx; rwa [e] at this))
   have IH := fun R T m i gl A E => ne_loop q (j + 1) R T m i gl A (G.addV v) v tv E ep' en' (by omega) nd2.2 hne'
   walk_at "d"
   clear hd hjl hpe hj nd' hne nd2 hne' ep' en' hU
   run_tac Mine.walk ([``e_upd_n, ``c_lnext] ++ Mine.embNames) [`IH]
   intro x hx
   refine re_choose [0, 1, 2, 3, 4] 5 rfl (hR 0 _ _ _ _ _ ⟨(_, _, x.2.2.1, x.2.2.2.1, x.2.2.2.2.1, x.2.2.2.2.2), hx, rfl, rfl, rfl, rfl, rfl⟩)
end
section
variable (o dI gd nd sd pd : Addr) (t1 t2 t3 t4 t5 n1 : Nat) (h1 h2 h3 h4 h5 : Int) (l : Addr) (ps : List (Int × Tok)) (n : Nat)
 (R T : News) (m i : Nat) (gl : List GenState) (A : Ad) (G : Gr)
include hpar K
theorem e_nodes (E : Emb w T nd sd pd A G) (hU : ∀ p ∈ ps, Uo p.1) (ep : G.pv = G.sv) (en : G.nv = G.sv) (hnd : (ps.map Prod.fst).Nodup) (hne : ∀ x ∈ ps, x.1 ∉ G.sv) :
 Ctr prog1 w h₀ d os g₀ (aroundL 350) (k_addr% "cF") ((l, listO (ivs ps) n) :: (o, selfO dI) :: (k_addr% "b") :: (R ++ T)) m i gl
  (exQ (k_addr% "ct") (fun x => Emb w x.2.2.1 nd sd pd x.2.2.2 (G.addVs (ps.map Prod.fst))) (k_addr% "s") (k_addr% "el") (fun x => x.1) (fun x => x.2.1) (fun _ => gl)) := by
 walk_at "dB"
 ·have he : (⟨ivs []⟩ : Array Value)[0]? = none := rfl
  walk_at "d"
  run_tac Mine.walk ([``c_liter, ``c_lnext_end] ++ Mine.embNames)
  run_tac Mine.done
  exact E
 ·walk_at "aU"
  have hou : Uo v := hU (v, tv) (.head _)
  have hv : v ∉ G.sv := hne _ (List.mem_cons_self ..)
  walk_at "dX"
  have hvn : v ∉ G.nv := by rw [en]; exact hv
  have f1 : v ∈ (G.addV v).nv := mem_last _ _
  have ep' : (G.addV v).pv = (G.addV v).sv := by show G.pv ++ [v] = G.sv ++ [v]; rw [ep]
  have en' : (G.addV v).nv = (G.addV v).sv := by show G.nv ++ [v] = G.sv ++ [v]; rw [en]
  have nd2 := (List.nodup_cons.mp hnd)
  have hne' : ∀ x ∈ ps, x.1 ∉ (G.addV v).sv := fun x hx => not_front (hne x (List.mem_cons_of_mem _ hx)) (fun e => nd2.1 (by have := List.mem_map_of_mem (f := Prod.fst) hx; rwa [e] at this))
  have IH := fun p I a1 a2 a3 c1 c2 c3 nf na a4 a5 a6 c4 c5 c6 R T m i gl A E => ne_loop w b1 b2 hpar h₀ K d os g₀ o dI gd nd sd pd t1 t2 t3 t4 t5 n1 h1 h2 h3 h4 h5 l ((v, tv) :: ps) n hU p I a1 a2 a3 c1 c2 c3 nf na a4 a5 a6 c4 c5 c6 ps.length 1 R T m i gl A (G.addV v) v tv E ep' en' (by simp; omega) nd2.2 hne'
  walk_at "d"
  clear hU hnd hne nd2 hne' ep' en'
  run_tac Mine.walk ([``e_upd_n, ``c_liter, ``c_lnext] ++ Mine.embNames) [`IH]
  intro x hx
  refine re_choose [0, 3, 4] 5 rfl (hR 0 _ _ _ _ _ ⟨(x.1, x.2.1, x.2.2.2.2.1, x.2.2.2.2.2), hx, rfl, rfl, rfl, rfl, rfl⟩)
end
def Gr.nil : Gr := ⟨[], [], [], fun _ => [], fun _ => [], fun _ _ => 0, fun _ _ => 0, fun _ _ => False⟩
theorem Emb.nil (w : World) (T : News) (nd sd pd : Addr) (nn ns np : Nat) (e1 : getL T nd = some (dictO [] nn)) (e2 : getL T sd = some (dictO [] ns)) (e3 : getL T pd = some (dictO [] np)) (h1 : nd ≠ sd) (h2 : nd ≠ pd) (h3 : sd ≠ pd) :
  Emb w T nd sd pd ⟨fun _ => 0, fun _ => 0, fun _ => 0, fun _ _ => 0⟩ Gr.nil := by
 refine ⟨fun a b la lb e => ?_, fun a la => ?_, ⟨fun _ h => absurd h List.not_mem_nil, fun _ h => absurd h List.not_mem_nil, fun _ h => absurd h List.not_mem_nil, fun _ _ h => absurd h List.not_mem_nil, fun _ _ h => absurd h List.not_mem_nil, fun _ _ _ h => absurd h List.not_mem_nil⟩⟩
 ·cases a <;> cases b <;> first | rfl | exact absurd e h1 | exact absurd e h2 | exact absurd e h3 | exact absurd e.symm h1 | exact absurd e.symm h2 | exact absurd e.symm h3 | exact absurd la List.not_mem_nil | exact absurd lb List.not_mem_nil | exact la.elim | exact lb.elim
 ·cases a with
  | sd => exact ⟨_, e2, _, _, rfl, DE.nil⟩
  | pd => exact ⟨_, e3, _, _, rfl, DE.nil⟩
  | nd => exact ⟨_, e1, _, _, rfl, DE.nil⟩
  | d => exact la.elim
  | _ => exact absurd la List.not_mem_nil
theorem e_nodes0 (w : World) (b1 b2 : Bool) (hpar : w.params = parB w.params b1 b2) (h₀ : Heap) (K : KT.Holds h₀ 1 0 (kt1 w)) (d : Drawn) (os : OsState) (g₀ : List GenState)
 (o dI gd nd sd pd : Addr) (t1 t2 t3 t4 t5 n1 : Nat) (h1 h2 h3 h4 h5 : Int) (l : Addr) (ps : List (Int × Tok)) (n : Nat) (R : News) (m i : Nat) (gl : List GenState) (nn ns np : Nat)
 (hU : ∀ p ∈ ps, Uo p.1) (hnd : (ps.map Prod.fst).Nodup) :
 Ctr prog1 w h₀ d os g₀ (aroundL 350) (k_addr% "cF") ((l, listO (ivs ps) n) :: (o, selfO dI) :: (k_addr% "b") :: (nd, dictO [] nn) :: (sd, dictO [] ns) :: (pd, dictO [] np) :: R) m i gl
  (exQ (k_addr% "ct") (fun x => Emb w x.2.2.1 nd sd pd x.2.2.2 (Gr.nil.addVs (ps.map Prod.fst))) (k_addr% "s") (k_addr% "el") (fun x => x.1) (fun x => x.2.1) (fun _ => gl)) := by
 intro h RR M hs H
 have q1 : nd ≠ sd := M.ne 3 4 _ _ _ _ rfl rfl rfl
 have q2 : nd ≠ pd := M.ne 3 5 _ _ _ _ rfl rfl rfl
 have q3 : sd ≠ pd := M.ne 4 5 _ _ _ _ rfl rfl rfl
 refine e_nodes w b1 b2 hpar h₀ K d os g₀ o dI gd nd sd pd t1 t2 t3 t4 t5 n1 h1 h2 h3 h4 h5 l ps n R [(nd, dictO [] nn), (sd, dictO [] ns), (pd, dictO [] np)] m i gl _ Gr.nil
  (Emb.nil w _ nd sd pd nn ns np (getL_head _ _ _) (getL_skip q1 (getL_head _ _ _)) (getL_skip q2 (getL_skip q3 (getL_head _ _ _))) q1 q2 q3) hU rfl rfl hnd (fun _ _ => List.not_mem_nil) h RR (M.perm ?_) hs H
 refine .cons _ (.cons _ (.cons _ ?_))
 exact (List.perm_append_comm (l₁ := R) (l₂ := [(nd, dictO [] nn), (sd, dictO [] ns), (pd, dictO [] np)])).symm
theorem e_nodes425 (w : World) (b1 b2 : Bool) (hpar : w.params = parB w.params b1 b2) (h₀ : Heap) (K : KT.Holds h₀ 1 0 (kt1 w)) (d : Drawn) (os : OsState) (g₀ : List GenState)
 (o dI gd nd sd pd : Addr) (t1 t2 t3 t4 t5 n1 : Nat) (h1 h2 h3 h4 h5 : Int) (l : Addr) (k1 k2 k3 : Tok) (n : Nat) (R : News) (m i : Nat) (gl : List GenState) (nn ns np : Nat) :
 Ctr prog1 w h₀ d os g₀ (aroundL 350) (k_addr% "cF") ((l, listO [.int 4 k1, .int 2 k2, .int 5 k3] n) :: (o, selfO dI) :: (k_addr% "b") :: (nd, dictO [] nn) :: (sd, dictO [] ns) :: (pd, dictO [] np) :: R) m i gl
  (exQ (k_addr% "ct") (fun x => Emb w x.2.2.1 nd sd pd x.2.2.2 (Gr.nil.addVs [4, 2, 5])) (k_addr% "s") (k_addr% "n") (fun x => x.1) (fun x => x.2.1) (fun _ => gl)) := by
 intro h RR M hs H
 refine e_nodes0 w b1 b2 hpar h₀ K d os g₀ o dI gd nd sd pd t1 t2 t3 t4 t5 n1 h1 h2 h3 h4 h5 l [(4, k1), (2, k2), (5, k3)] n R m i gl nn ns np ?_ ?_ h RR M hs ?_
 ·intro p hp
  walk_at "dz"
  ·walk_at "fe"
  walk_at "dz"
  ·walk_at "fe"
  walk_at "dz"
  ·walk_at "fe"
  cases hp
 ·show [(4:Int), 2, 5].Nodup
  decide
 walk_at "bW"
 exact H _ _ _ _ _ h' ⟨x, hx, rfl, rfl, rfl, rfl, rfl⟩ M'.drop1 hs'
section
variable (R T : News) (m i : Nat) (gl : List GenState)
 (l : Addr) (ps : List (Int × Tok)) (n : Nat)
include hpar K
theorem l0 :
 Ctr prog1 w h₀ d os g₀ (aroundL 10) (.call (.ref 928) ⟨[.ref l], []⟩) (k_addr% "bm") m i gl (fun _ _ _ _ _ => True) ∨ True := by
 run_tac Mine.probeCode `Mine.absStart ([``p_new, ``e_nodes425, ``c_liter] ++ Mine.embNames) "compStart"
 exact Or.inr trivial
end
section
variable (A : Around) (R T : News) (m i : Nat) (gl : List GenState) (l : Addr) (xs : List Value) (n : Nat)
theorem c_append (v : Value) (ys : List Value) (hq : xs.length ≤ 1000) (hy : xs ++ [v] = ys) : Ctr prog1 w h₀ d os g₀ A (.call (.builtin "list.append") ⟨[.ref l, v], []⟩) ((l, listO xs n) :: R) m i gl (oneQ .none ((l, listO ys (n + 1)) :: R) m i gl) :=
 Ctr.meets F.slot_list_append F.entry_list_append (F.args_list_append_2 _ _) ((list_append l ⟨xs⟩ n v (Nat.le_trans (by simpa using hq) line1000)).inModel _ _)
  (k_addr% "av") fun h RR M hsz H => ⟨M.head, by
   subst hy
   refine H _ _ _ _ _ _ ⟨rfl, rfl, rfl, rfl, rfl⟩ (M.change (Heap.SameBut.update ..) ?_) (by rw [(Heap.SameBut.update ..).1]; exact hsz)
   rw [Heap.get?_update_self _ M.head (by simp [Obj.mapSeq, Obj.isFreed])]
   simp [Obj.mapSeq]⟩
theorem c_appendI (qs : List (Int × Tok)) (v : Int) (t : Tok) (hq : qs.length ≤ 1000) : Ctr prog1 w h₀ d os g₀ A (.call (.builtin "list.append") ⟨[.ref l, .int v t], []⟩) ((l, listO (ivs qs) n) :: R) m i gl (oneQ .none ((l, listO (ivs (qs ++ [(v, t)])) (n + 1)) :: R) m i gl) :=
 c_append w h₀ d os g₀ A R m i gl l (ivs qs) n (.int v t) _ (by simpa using hq) (by simp)
theorem c_append0 (v : Int) (t : Tok) : Ctr prog1 w h₀ d os g₀ A (.call (.builtin "list.append") ⟨[.ref l, .int v t], []⟩) ((l, listO [] n) :: R) m i gl (oneQ .none ((l, listO (ivs [(v, t)]) (n + 1)) :: R) m i gl) :=
 c_append w h₀ d os g₀ A R m i gl l [] n (.int v t) _ (by simp) (by simp)
include K
theorem c_abs_neg (a : Int) (t : Tok) (ha : a < 0) : Ctr prog1 w h₀ d os g₀ (aroundL 470) (.call (.builtin "abs") ⟨[.int a t], []⟩) R m i gl (oneQ (.int (-a) i) R m (i + 1) gl) := by
 walk_at "d"
 walk_at "t"
 walk_at "z"
theorem c_abs_pos (a : Int) (t : Tok) (ha : ¬ a < 0) : Ctr prog1 w h₀ d os g₀ (aroundL 470) (.call (.builtin "abs") ⟨[.int a t], []⟩) R m i gl (oneQ (.int a t) R m i gl) := by
 walk_at "d"
 walk_at "t"
 walk_at "z"
theorem c_abs (a : Int) (t : Tok) : Ctr prog1 w h₀ d os g₀ (aroundL 470) (.call (.builtin "abs") ⟨[.int a t], []⟩) R m i gl
 (exQ (Tok × Nat) (fun _ => True) (fun x => .ok (.ret (.int (Int.ofNat a.natAbs) x.1))) (fun _ => R) (fun _ => m) (fun x => x.2) (fun _ => gl)) := by
 by_cases h : a < 0
 ·refine (c_abs_neg w h₀ K d os g₀ R m i gl a t h).mono ?_
  walk_at "af"
  exact ⟨(_, _), trivial, by rw [show -a = Int.ofNat a.natAbs by have := Int.ofNat_eq_natCast a.natAbs; omega], rfl, rfl, rfl, rfl⟩
 ·refine (c_abs_pos w h₀ K d os g₀ R m i gl a t h).mono ?_
  walk_at "af"
  exact ⟨(t, _), trivial, by rw [show Int.ofNat a.natAbs = a by have := Int.ofNat_eq_natCast a.natAbs; omega], rfl, rfl, rfl, rfl⟩
end
noncomputable abbrev absLoop (it acc : Value) (m : Nat) (x : Nat × Nat × News × Ad) : Code := match absStart it acc m x with
 | .compStart e d it acc env => .compLoop e d it acc env
 | c => c
section
variable (l I acc mf : Addr) (x : Nat × Nat × News × Ad) (ps : List (Int × Tok)) (n : Nat) (hps : ps.length ≤ 300) (a3 : Int) (c3 : Tok) (nf : Nat)
include hpar K hps
theorem abs_loop : ∀ (q j : Nat) (R : News) (m i : Nat) (gl : List GenState) (qs : List (Int × Tok)) (na : Nat) (v0 : Int) (tv0 : Tok), j + q = ps.length → qs.length ≤ 400 - q →
 Ctr prog1 w h₀ d os g₀ (aroundL 360) (absLoop (.ref I) (.ref acc) mf x)
  ((I, litO l j) :: (l, listO (ivs ps) n) :: (acc, listO (ivs qs) na) :: (x.1 + 1 + 1 + 1 + 1 + 1 + 1 + 1 + 1 + 1, dictO [⟨a3, .str "one" c3, .int v0 tv0⟩] nf) :: R) m i gl
  (exQ (k_addr% "dR") (fun y => y.2.2.2.2.2.map Prod.fst = qs.map Prod.fst ++ (ps.drop j).map fun p => Int.ofNat p.1.natAbs) (fun _ => .ok .next) (fun y => (l, listO (ivs ps) n) :: (acc, listO (ivs y.2.2.2.2.2) y.2.2.2.2.1) :: (x.1 + 1 + 1 + 1 + 1 + 1 + 1 + 1 + 1 + 1, dictO [⟨a3, .str "one" c3, .int y.2.2.1 y.2.2.2.1⟩] nf) :: R) (fun y => y.1) (fun y => y.2.1) (fun _ => gl))
 | 0, j, R, m, i, gl, qs, na, v0, tv0, hj, hk => by
   walk_at "bI"
   walk_at "cd"
   rw [hd]
   walk_at "d"
   run_tac Mine.walk [``c_lnext_end]
   exact re_choose [3, 4, 5] 6 rfl (hR 0 _ _ _ _ _ ⟨(_, _, v0, tv0, na, qs), by simp, rfl, rfl, rfl, rfl, rfl⟩)
 | q + 1, j, R, m, i, gl, qs, na, v0, tv0, hj, hk => by
   walk_at "eA"
   walk_at "bB"
   walk_at "aR"
   walk_at "ax"
   walk_at "ff"
   rw [hd]
   have IH := fun R m i gl t na => abs_loop q (j + 1) R m i gl (qs ++ [(Int.ofNat v.natAbs, t)]) na v tv (by omega) (by simp; omega)
   walk_at "d"
   clear hd hjl hpe hj hk hps
   run_tac Mine.walk [``c_lnext, ``c_appendI, ``c_abs] [`IH]
   intro x1 y hy
   walk_at "Y"
   simpa using hy
theorem abs_start1 (R : News) (m i : Nat) (gl : List GenState) (na : Nat) (h1 : 1 ≤ ps.length) :
 Ctr prog1 w h₀ d os g₀ (aroundL 350) (absStart (.ref I) (.ref acc) mf x)
  (k_addr% "eq") m i gl
  (exQ (k_addr% "bj") (fun y => y.2.2.2.1.map Prod.fst = (ps.map fun p => Int.ofNat p.1.natAbs) ∧ y.2.2.2.1.length ≤ 300) (fun _ => .ok .next) (fun y => (l, listO (ivs ps) n) :: (acc, listO (ivs y.2.2.2.1) y.2.2.1) :: (x.1 + 1 + 1 + 1 + 1 + 1 + 1 + 1 + 1 + 1, dictO [⟨y.2.2.2.2.1, .str "one" y.2.2.2.2.2.1, .int y.2.2.2.2.2.2.1 y.2.2.2.2.2.2.2.1⟩] y.2.2.2.2.2.2.2.2) :: R) (fun y => y.1) (fun y => y.2.1) (fun _ => gl)) := by
 walk_at "dB"
 ·cases h1
 ·walk_at "aU"
  have IH := fun a3 c3 nf R m i gl t na => abs_loop w b1 b2 hpar h₀ K d os g₀ l I acc mf x ((v, tv) :: ps) n hps a3 c3 nf ps.length 1 R m i gl [(Int.ofNat v.natAbs, t)] na v tv (by simp; omega) (by simp at hps ⊢; omega)
  have h400 := hps
  clear hps
  cases b2
  all_goals
   walk_at "d"
   run_tac Mine.walk [``c_lnext, ``c_append0, ``c_abs] [`IH]
   intro x1 y hy
   refine re_choose [0, 1, 2] 3 rfl (hR 0 _ _ _ _ _ ⟨(y.1, y.2.1, y.2.2.2.2.1, y.2.2.2.2.2, _, _, _, _, _), ⟨hy, ?_⟩, rfl, rfl, rfl, rfl, rfl⟩)
   have := congrArg List.length hy
   simp only [List.length_map, List.length_append, List.length_cons, List.length_nil, List.length_drop] at this h400
   show y.2.2.2.2.2.length ≤ 300
   omega
theorem abs_start0 (R : News) (m i : Nat) (gl : List GenState) (na : Nat) (h1 : ps.length = 0) :
 Ctr prog1 w h₀ d os g₀ (aroundL 350) (absStart (.ref I) (.ref acc) mf x)
  (k_addr% "eq") m i gl
  (exQ (Nat × Nat × Nat × List (Int × Tok)) (fun y => y.2.2.2.map Prod.fst = (ps.map fun p => Int.ofNat p.1.natAbs) ∧ y.2.2.2.length ≤ 300) (fun _ => .ok .next) (fun y => (l, listO (ivs ps) n) :: (acc, listO (ivs y.2.2.2) y.2.2.1) :: (x.1 + 1 + 1 + 1 + 1 + 1 + 1 + 1 + 1 + 1, dictO [] nf) :: R) (fun y => y.1) (fun y => y.2.1) (fun _ => gl)) := by
 walk_at "dB"
 ·have he : (⟨ivs []⟩ : Array Value)[0]? = none := rfl
  cases b2
  all_goals
   walk_at "d"
   run_tac Mine.walk [``c_lnext_end]
   refine re_choose [3, 4, 5] 6 rfl (hR 0 _ _ _ _ _ ⟨(_, _, na, []), ⟨rfl, Nat.zero_le _⟩, rfl, rfl, rfl, rfl, rfl⟩)
 ·cases h1
end
section
variable (A : Around) (R T : News) (m i : Nat) (gl : List GenState) (l l2 S : Addr) (n n2 : Nat)
theorem c_sum5 (qs : List (Int × Tok)) (k1 k2 k3 k4 k5 : Tok) (hq : qs.length ≤ 300) : Ctr prog1 w h₀ d os g₀ A (.call (.builtin "list.__add__") ⟨[.ref l, .ref l2], []⟩) ((l, listO (ivs qs) n) :: (l2, listO [.int 9 k1, .int 21 k2, .int 34 k3, .int 60 k4, .int 3 k5] n2) :: R) m i gl
  (exQ (List (Int × Tok)) (fun z => z.map Prod.fst = qs.map Prod.fst ++ [9, 21, 34, 60, 3] ∧ z.length ≤ 500) (k_addr% "dr") (fun z => (m, listO (ivs z) 0) :: R) (fun _ => m + 1) (fun _ => i) (fun _ => gl)) := by
 refine fun h RR M hs H => k_ladd w h₀ d os g₀ A R m i gl l (ivs qs) n l2 [.int 9 k1, .int 21 k2, .int 34 k3, .int 60 k4, .int 3 k5] n2 (ivs (qs ++ [(9, k1), (21, k2), (34, k3), (60, k4), (3, k5)])) (by simp; omega) (by simp) h RR M hs ?_
 walk_at "aj"
 exact H _ _ _ _ _ h' ⟨_, ⟨by simp, by simp; omega⟩, rfl, rfl, rfl, rfl, rfl⟩ (M'.choose [0] 3 rfl) hs'
theorem c_cut14 (tj : Tok) (qs : List (Int × Tok)) (hq : qs.length ≤ 500) :
 Ctr prog1 w h₀ d os g₀ A (k_addr% "be") ((S, sliceO .none (.int (Int.ofNat 14) tj)) :: (l, listO (ivs qs) n) :: R) m i gl
  (exQ (List (Int × Tok)) (fun z => z.map Prod.fst = (qs.map Prod.fst).take 14 ∧ z.length ≤ 14) (k_addr% "dr") (fun z => (m, listO (ivs z) 0) :: R) (fun _ => m + 1) (fun _ => i) (fun _ => gl)) := by
 refine fun h RR M hs H => k_slice w h₀ d os g₀ A R m i gl l (ivs qs) n S .none (.int (Int.ofNat 14) tj) none (some (Int.ofNat 14)) .none (.int _ _) (by simp; omega) (ivs (qs.take 14)) ((slicePick_upto' ⟨ivs qs⟩ 14).trans (by simp [List.map_take])) h RR M hs ?_
 walk_at "aj"
 exact H _ _ _ _ _ h' ⟨_, ⟨by simp [List.map_take], by simp; omega⟩, rfl, rfl, rfl, rfl, rfl⟩ (M'.choose [0] 3 rfl) hs'
end
section
variable (R T : News) (m i : Nat) (gl : List GenState)
 (l : Addr) (ps : List (Int × Tok)) (n : Nat) (hps : ps.length ≤ 63) (h1p : 1 ≤ ps.length)
include hpar K hps h1p
theorem l2 :
 Ctr prog1 w h₀ d os g₀ (aroundL 10) (.call (.ref 928) ⟨[.ref l], []⟩) (k_addr% "bm") m i gl (fun _ _ _ _ _ => True) ∨ True := by
 have h300 : ps.length ≤ 300 := by omega
 run_tac do
  let s ← Lean.saveState
  Lean.Elab.Tactic.evalTactic (← `(tactic| left))
  Lean.Elab.Tactic.evalTactic (← `(tactic| refine Ctr.ofQ (Mine.kt1 w) ?_))
  Mine.walk ([``p_new, ``e_nodes425, ``c_liter] ++ Mine.embNames) [] { stops := ["compStart"] }
  Mine.walk ([``abs_start1, ``c_sum5, ``c_cut14, ``c_liter] ++ Mine.embNames) [] { stops := ["forLoop"] }
  Mine.nameCode `Mine.lawLoop (some s)
 exact Or.inr trivial
end
noncomputable abbrev lawEnv (m : Nat) : PySem.Env := match lawLoop .none m with
 | .forLoop _ _ _ _ env => env
 | _ => default
#check @lawLoop
end Mine
namespace Mine
def Lk (x y : Int → Int) : List Int → Prop
 | p :: q :: t => x p = q ∧ y q = p ∧ Lk x y (q :: t)
 | _ => True
theorem Lk.app {x y : Int → Int} {p : Int} {B : List Int} : ∀ A : List Int, Lk x y (A ++ p :: B) ↔ Lk x y (A ++ [p]) ∧ Lk x y (p :: B)
 | [] => by simp [Lk]
 | [a] => by simp [Lk, and_assoc]
 | a :: b :: A => by
   have := Lk.app (x := x) (y := y) (p := p) (B := B) (b :: A)
   simp only [List.cons_append] at this ⊢
   simp only [Lk]
   rw [this]
   simp only [and_assoc]
theorem Lk.congr {x y x' y' : Int → Int} : ∀ {l : List Int}, Lk x y l → (∀ p ∈ l.dropLast, x' p = x p) → (∀ q ∈ l.tail, y' q = y q) → Lk x' y' l
 | [], _, _, _ => trivial
 | [_], _, _, _ => trivial
 | p :: q :: t, ⟨h1, h2, h3⟩, hx, hy => by
   refine ⟨(hx p (by simp)).trans h1, (hy q (by simp)).trans h2, Lk.congr h3 (fun z hz => hx z ?_) (fun z hz => hy z ?_)⟩
   ·rw [List.dropLast_cons_of_ne_nil (by simp)]; exact List.mem_cons_of_mem _ hz
   ·exact List.mem_cons_of_mem _ hz
def Cyc (x y : Int → Int) : List Int → Prop
 | [] => True
 | p :: t => Lk x y (p :: t ++ [p])
theorem Cyc.rot {x y : Int → Int} {A B : List Int} (h : Cyc x y (A ++ B)) : Cyc x y (B ++ A) := by
 rcases A with _ | ⟨a, A⟩
 ·simpa using h
 rcases B with _ | ⟨b, B⟩
 ·simpa using h
 have h : Lk x y (a :: (A ++ b :: B) ++ [a]) := h
 have h1 : Lk x y ((a :: A) ++ b :: (B ++ [a])) := by simpa using h
 rw [Lk.app] at h1
 show Lk x y (b :: (B ++ a :: A) ++ [b])
 have : Lk x y ((b :: B) ++ a :: (A ++ [b])) := by
  rw [Lk.app]
  refine ⟨by simpa using h1.2, by simpa using h1.1⟩
 simpa using this
def updI (f : Int → Int) (u a : Int) : Int → Int := fun z => if z = u then a else f z
theorem updI_self (f : Int → Int) (u a : Int) : updI f u a u = a := if_pos rfl
theorem updI_ne (f : Int → Int) {u z : Int} (a : Int) (h : z ≠ u) : updI f u a z = f z := if_neg h
theorem Cyc.last {x y : Int → Int} {c : Int} {D I : List Int} {e : Int} (h : Cyc x y (c :: D)) (hl : c :: D = I ++ [e]) : Lk x y (I ++ [e]) ∧ x e = c ∧ y c = e := by
 have h : Lk x y (c :: D ++ [c]) := h
 rw [hl] at h
 have h : Lk x y (I ++ e :: [c]) := by simpa using h
 rw [Lk.app] at h
 exact ⟨h.1, h.2.1, h.2.2.1⟩
theorem list_last (c : Int) (D : List Int) : ∃ I e, c :: D = I ++ [e] := ⟨(c :: D).dropLast, (c :: D).getLast (by simp), (List.dropLast_concat_getLast (by simp)).symm⟩
theorem Cyc.ins {x y : Int → Int} {c w : Int} {D : List Int} (h : Cyc x y (c :: D)) (nd : (c :: D).Nodup) (hw : w ∉ c :: D) :
  Cyc (updI (updI x w c) (y c) w) (updI (updI y w (y c)) c w) (w :: c :: D) := by
 obtain ⟨I, e, hl⟩ := list_last c D
 obtain ⟨h1, h2, h3⟩ := h.last hl
 rw [h3]
 have he : e ∈ c :: D := by rw [hl]; simp
 have hwe : w ≠ e := fun q => hw (q ▸ he)
 have hwc : w ≠ c := fun q => hw (q ▸ List.mem_cons_self ..)
 show Lk _ _ (w :: (c :: D) ++ [w])
 have key : Lk (updI (updI x w c) e w) (updI (updI y w e) c w) ((c :: D) ++ [w]) := by
  rw [hl]
  have : Lk (updI (updI x w c) e w) (updI (updI y w e) c w) (I ++ e :: [w]) := by
   rw [Lk.app]
   refine ⟨h1.congr (fun p hp => ?_) (fun q hq => ?_), ?_, ?_, trivial⟩
   ·have hp' : p ∈ I := by simpa using hp
    have pe : p ≠ e := by
     rintro rfl
     rw [hl, List.nodup_append] at nd
     exact nd.2.2 p hp' p (by simp) rfl
    have pw : p ≠ w := by
     rintro rfl
     exact hw (by rw [hl]; exact List.mem_append.mpr (.inl hp'))
    rw [updI_ne _ _ pe, updI_ne _ _ pw]
   ·rw [← hl] at hq
    have hq : q ∈ D := by simpa using hq
    have qc : q ≠ c := by
     rintro rfl
     exact (List.nodup_cons.mp nd).1 hq
    have qw : q ≠ w := by
     rintro rfl
     exact hw (List.mem_cons_of_mem _ hq)
    rw [updI_ne _ _ qc, updI_ne _ _ qw]
   ·exact updI_self _ _ _
   ·rw [updI_ne _ _ hwc, updI_self]
  simpa using this
 refine ⟨?_, updI_self _ _ _, key⟩
 rw [updI_ne _ _ hwe, updI_self]
theorem Cyc.insA {x y : Int → Int} {c w : Int} {D : List Int} (h : Cyc x y (c :: D)) (nd : (c :: D).Nodup) (hw : w ∉ c :: D) :
  Cyc (updI (updI x w (x c)) c w) (updI (updI y w c) (x c) w) (c :: w :: D) := by
 have hr : Cyc x y (D ++ [c]) := Cyc.rot (A := [c]) (B := D) h
 obtain ⟨b, B, hb⟩ : ∃ b B, D ++ [c] = b :: B := by cases D <;> exact ⟨_, _, rfl⟩
 have hxc : x c = b ∧ y b = c := by
  have h : Lk x y (c :: D ++ [c]) := h
  rcases D with _ | ⟨b', B'⟩
  ·simp at hb
   obtain ⟨rfl, _⟩ := hb
   exact ⟨h.1, h.2.1⟩
  ·simp at hb
   obtain ⟨rfl, _⟩ := hb
   exact ⟨h.1, h.2.1⟩
 rw [hb] at hr
 have nd' : (b :: B).Nodup := by
  rw [← hb]
  exact (List.perm_append_comm (l₁ := [c]) (l₂ := D)).nodup_iff.mp nd
 have hw' : w ∉ b :: B := by
  rw [← hb]
  intro q
  exact hw ((List.perm_append_comm (l₁ := [c]) (l₂ := D)).mem_iff.mpr q)
 have := Cyc.ins hr nd' hw'
 rw [hxc.2, ← hb] at this
 rw [hxc.1]
 exact Cyc.rot (A := w :: D) (B := [c]) this
theorem Cyc.del {x y : Int → Int} {v : Int} {D : List Int} (h : Cyc x y (v :: D)) (nd : (v :: D).Nodup) (hD : D ≠ []) :
  Cyc (updI x (y v) (x v)) (updI y (x v) (y v)) D ∧ x v ∈ D ∧ y v ∈ D := by
 rcases D with _ | ⟨d, D⟩
 ·exact absurd rfl hD
 obtain ⟨I, e, hl⟩ := list_last d D
 obtain ⟨h1, h2, h3⟩ := h.last (I := v :: I) (e := e) (by rw [hl]; rfl)
 have hd : x v = d := by
  have h : Lk x y (v :: d :: D ++ [v]) := h
  exact h.1
 rw [hd, h3]
 have nd2 := (List.nodup_cons.mp nd).2
 refine ⟨?_, by simp, by rw [hl]; simp⟩
 show Lk _ _ (d :: D ++ [d])
 have h4 : Lk x y (I ++ [e]) := by
  have h1 : Lk x y ([] ++ v :: (I ++ [e])) := h1
  rw [← hl] at h1
  rw [← hl]
  exact h1.2.2
 have : Lk (updI x e d) (updI y d e) (I ++ e :: [d]) := by
  rw [Lk.app]
  refine ⟨h4.congr (fun p hp => ?_) (fun q hq => ?_), updI_self _ _ _, updI_self _ _ _, trivial⟩
  ·have hp' : p ∈ I := by simpa using hp
   refine updI_ne _ _ ?_
   rintro rfl
   rw [hl, List.nodup_append] at nd2
   exact nd2.2.2 p hp' p (by simp) rfl
  ·rw [← hl] at hq
   have hq : q ∈ D := by simpa using hq
   refine updI_ne _ _ ?_
   rintro rfl
   exact (List.nodup_cons.mp nd2).1 hq
 rw [show d :: D ++ [d] = (d :: D) ++ [d] from rfl, hl]
 simpa using this
theorem Cyc.one {x y : Int → Int} {v : Int} (h : Cyc x y [v]) : x v = v ∧ y v = v := by
 have h : Lk x y (v :: [] ++ [v]) := h
 exact ⟨h.1, h.2.1⟩
theorem Cyc.of_one {x y : Int → Int} {v : Int} (hx : x v = v) (hy : y v = v) : Cyc x y [v] := ⟨hx, hy, trivial⟩
theorem Cyc.congr {x y x' y' : Int → Int} {l : List Int} (h : Cyc x y l) (hx : ∀ p ∈ l, x' p = x p) (hy : ∀ p ∈ l, y' p = y p) : Cyc x' y' l := by
 cases l with
 | nil => trivial
 | cons p t =>
   have h : Lk x y (p :: t ++ [p]) := h
   refine Lk.congr (l := p :: t ++ [p]) h (fun z hz => hx z ?_) (fun z hz => hy z ?_)
   ·rw [List.dropLast_concat] at hz; exact hz
   ·simp at hz
    rcases hz with hz | rfl
    ·exact List.mem_cons_of_mem _ hz
    ·exact List.mem_cons_self ..
theorem Cyc.mem {x y : Int → Int} {l : List Int} {c : Int} (h : Cyc x y l) (nd : l.Nodup) (hc : c ∈ l) : x c ∈ l ∧ y c ∈ l := by
 obtain ⟨A, B, rfl⟩ := List.append_of_mem hc
 have hr : Cyc x y (c :: B ++ A) := Cyc.rot h
 have pm : ∀ z, z ∈ c :: B ++ A ↔ z ∈ A ++ c :: B := fun z => (List.perm_append_comm (l₁ := c :: B) (l₂ := A)).mem_iff
 rw [← pm, ← pm]
 rcases hD : B ++ A with _ | ⟨d, D⟩
 ·rw [List.cons_append, hD] at hr ⊢
  obtain ⟨h1, h2⟩ := hr.one
  rw [h1, h2]
  exact ⟨List.mem_cons_self .., List.mem_cons_self ..⟩
 ·rw [List.cons_append] at hr ⊢
  have nd' : (c :: (B ++ A)).Nodup := (List.perm_append_comm (l₁ := A) (l₂ := c :: B)).nodup_iff.mp nd
  have := (hr.del nd' (by rw [hD]; simp)).2
  exact ⟨List.mem_cons_of_mem _ this.1, List.mem_cons_of_mem _ this.2⟩
end Mine
namespace Mine
open PySem PySem.Spec PySem.Calls PyProof.Rows PySem.W PySem.W.X
structure Good (G : Gr) (vs : List Int) (r : Int → List Int) : Prop where
 sv : G.sv = vs
 pv : G.pv = vs
 nv : G.nv = vs
 vn : vs.Nodup
 vo : ∀ v ∈ vs, Uo v
 out : ∀ v, v ∉ vs → r v = []
 kp : ∀ v ∈ vs, (G.ks v).Perm (r v)
 cy : ∀ v ∈ vs, Cyc (G.x v) (G.y v) (r v)
 nd : ∀ v ∈ vs, (r v).Nodup
 rv : ∀ v ∈ vs, ∀ u ∈ r v, u ∈ vs
 nl : ∀ v ∈ vs, v ∉ r v
 qp : ∀ v ∈ vs, ∀ u, u ∈ G.ps v ↔ u ∈ vs ∧ v ∈ r u
def addIf (vs : List Int) (u : Int) : List Int := if u ∈ vs then vs else vs ++ [u]
theorem addIf_in {vs : List Int} {u : Int} (h : u ∈ vs) : addIf vs u = vs := if_pos h
theorem addIf_out {vs : List Int} {u : Int} (h : u ∉ vs) : addIf vs u = vs ++ [u] := if_neg h
theorem mem_addIf {vs : List Int} {u z : Int} : z ∈ addIf vs u ↔ z ∈ vs ∨ z = u := by
 unfold addIf
 split
 ·rename_i h
  constructor
  ·exact .inl
  ·rintro (h' | rfl)
   ·exact h'
   ·exact h
 ·simp
section
variable {G G' : Gr} {vs : List Int} {r : Int → List Int}
theorem Good.addV (H : Good G vs r) {v : Int} (hv : v ∉ vs) (ho : Uo v) : Good (G.addV v) (vs ++ [v]) r := by
 have ne : ∀ z ∈ vs, z ≠ v := fun z hz e => hv (e ▸ hz)
 have r0 := H.out v hv
 refine ⟨by show G.sv ++ [v] = _; rw [H.sv], by show G.pv ++ [v] = _; rw [H.pv], by show G.nv ++ [v] = _; rw [H.nv], ?_, ?_, ?_, ?_, ?_, ?_, ?_, ?_, ?_⟩
 ·rw [List.nodup_append]
  exact ⟨H.vn, by simp, fun a ha b hb => by rw [List.mem_singleton.mp hb]; exact ne a ha⟩
 ·intro z hz
  walk_at "az"
  ·exact H.vo z h
  ·walk_at "cX"; exact ho
 ·exact fun z hz => H.out z fun h => hz (mem_front _ h)
 ·intro z hz
  show (upd G.ks v [] z).Perm (r z)
  walk_at "az"
  ·rw [upd_ne _ _ (ne z h)]; exact H.kp z h
  ·rw [List.mem_singleton.mp h, upd_self, r0]
 ·intro z hz
  walk_at "az"
  ·exact H.cy z h
  ·rw [List.mem_singleton.mp h, r0]; trivial
 ·intro z hz
  walk_at "az"
  ·exact H.nd z h
  ·rw [List.mem_singleton.mp h, r0]; exact List.nodup_nil
 ·intro z hz u hu
  walk_at "az"
  ·exact mem_front _ (H.rv z h u hu)
  ·rw [List.mem_singleton.mp h, r0] at hu; cases hu
 ·intro z hz
  walk_at "az"
  ·exact H.nl z h
  ·rw [List.mem_singleton.mp h, r0]; exact List.not_mem_nil
 ·intro z hz u
  show u ∈ upd G.ps v [] z ↔ _
  walk_at "az"
  ·rw [upd_ne _ _ (ne z h), H.qp z h u]
   constructor
   ·exact fun q => ⟨mem_front _ q.1, q.2⟩
   ·rintro ⟨q1, q2⟩
    rcases List.mem_append.mp q1 with q | q
    ·exact ⟨q, q2⟩
    ·rw [List.mem_singleton.mp q, r0] at q2; cases q2
  ·rw [List.mem_singleton.mp h, upd_self]
   constructor
   ·exact fun q => nomatch q
   ·rintro ⟨q1, q2⟩
    rcases List.mem_append.mp q1 with q | q
    ·exact absurd (H.rv u q v q2) hv
    ·rw [List.mem_singleton.mp q, r0] at q2; cases q2
theorem Good.half (H : Good G vs r) {u v : Int} {row : List Int} (hu : u ∈ vs) (hv : v ∈ vs) (huv : u ≠ v) (hun : v ∉ r u) (e1 : G'.sv = G.sv) (e2 : G'.pv = G.pv) (e3 : G'.nv = G.nv)
  (hp : row.Perm (v :: r u)) (kk : (G'.ks u).Perm (v :: r u)) (ko : ∀ z, z ≠ u → G'.ks z = G.ks z) (cc : Cyc (G'.x u) (G'.y u) row) (co : ∀ z, z ≠ u → G'.x z = G.x z ∧ G'.y z = G.y z)
  (pk : G'.ps v = G.ps v ++ [u]) (po : ∀ z, z ≠ v → G'.ps z = G.ps z) : Good G' vs (upd r u row) := by
 have mr : ∀ z, z ∈ row ↔ z = v ∨ z ∈ r u := fun z => hp.mem_iff.trans List.mem_cons
 refine ⟨e1.trans H.sv, e2.trans H.pv, e3.trans H.nv, H.vn, H.vo, ?_, ?_, ?_, ?_, ?_, ?_, ?_⟩
 ·intro z hz
  have hzu : z ≠ u := fun e => hz (by rw [e]; exact hu)
  rw [upd_ne _ _ hzu]; exact H.out z hz
 ·intro z hz
  walk_at "al"
  ·rw [upd_self]; exact kk.trans hp.symm
  ·rw [upd_ne _ _ h, ko z h]; exact H.kp z hz
 ·intro z hz
  walk_at "al"
  ·rw [upd_self]; exact cc
  ·rw [upd_ne _ _ h, (co z h).1, (co z h).2]; exact H.cy z hz
 ·intro z hz
  walk_at "al"
  ·rw [upd_self]; exact hp.nodup_iff.mpr (List.nodup_cons.mpr ⟨hun, H.nd z hz⟩)
  ·rw [upd_ne _ _ h]; exact H.nd z hz
 ·intro z hz y hy
  walk_at "al"
  ·rw [upd_self, mr] at hy
   rcases hy with rfl | hy
   ·exact hv
   ·exact H.rv z hz y hy
  ·rw [upd_ne _ _ h] at hy; exact H.rv z hz y hy
 ·intro z hz
  walk_at "al"
  ·rw [upd_self, mr]
   rintro (q | q)
   ·exact huv q
   ·exact H.nl z hz q
  ·rw [upd_ne _ _ h]; exact H.nl z hz
 ·intro z hz y
  rcases Classical.em (y = u) with rfl | hy
  ·rw [upd_self, mr]
   walk_at "fc"
   ·rw [pk]; simp [hu]
   ·rw [po z h, H.qp z hz y]
    constructor
    ·exact fun q => ⟨q.1, .inr q.2⟩
    ·rintro ⟨q1, q2⟩; exact ⟨q1, q2.resolve_left h⟩
  ·rw [upd_ne _ _ hy]
   walk_at "fc"
   ·rw [pk, List.mem_append, H.qp z hz y]
    constructor
    ·rintro (q | q)
     ·exact q
     ·exact absurd (List.mem_singleton.mp q) hy
    ·exact .inl
   ·rw [po z h]; exact H.qp z hz y
theorem upd2_row {α : Type} (f : Int → Int → α) (u v : Int) (a : α) : upd2 f u v a u = fun z => if z = v then a else f u z := by
 funext z
 unfold upd2
 simp
theorem upd2_other {α : Type} (f : Int → Int → α) {u v z : Int} (a : α) (h : z ≠ u) : upd2 f u v a z = f z := by
 funext y
 exact upd2_ne _ _ (fun e => h e.1)
theorem upd2_rowI (f : Int → Int → Int) (u v a : Int) : upd2 f u v a u = updI (f u) v a := upd2_row f u v a
theorem perm_move {l : List Int} {lm : Int} (h : lm ∈ l) (nd : l.Nodup) : (offI l lm ++ [lm]).Perm l := by
 have : (offI l lm) = l.erase lm := by
  unfold offI
  rw [List.Nodup.erase_eq_filter nd]
  congr 1
  funext z
  by_cases q : z = lm <;> simp [q]
 rw [this]
 exact (List.perm_append_comm (l₁ := l.erase lm) (l₂ := [lm])).trans (List.perm_cons_erase h).symm
theorem Good.kn (H : Good G vs r) {u : Int} (hu : u ∈ vs) : (G.ks u).Nodup := (H.kp u hu).nodup_iff.mpr (H.nd u hu)
theorem Good.cwS (H : Good G vs r) {u v c : Int} {A B : List Int} (hu : u ∈ vs) (hv : v ∈ vs) (huv : u ≠ v) (hun : v ∉ r u) (hr : r u = A ++ c :: B) :
  Good (((G.addE u v c (G.y u c)).setX u (G.y u c) v).setY u c v) vs (upd r u (A ++ v :: c :: B)) := by
 refine H.half hu hv huv hun rfl rfl rfl ?_ ?_ ?_ ?_ ?_ ?_ ?_
 ·rw [hr]; exact List.perm_middle
 ·show (upd G.ks u (G.ks u ++ [v]) u).Perm _
  rw [upd_self]
  walk_at "di"
 ·exact fun z h => upd_ne _ _ h
 ·show Cyc (upd2 (upd2 G.x u v c) u (G.y u c) v u) (upd2 (upd2 G.y u v (G.y u c)) u c v u) _
  rw [upd2_rowI, upd2_rowI, upd2_rowI, upd2_rowI]
  have h0 := H.cy u hu
  rw [hr] at h0
  have h1 : Cyc (G.x u) (G.y u) (c :: (B ++ A)) := Cyc.rot h0
  have pm : (c :: (B ++ A)).Perm (r u) := by rw [hr]; exact List.perm_append_comm (l₁ := c :: B) (l₂ := A)
  have := Cyc.ins h1 (pm.nodup_iff.mpr (H.nd u hu)) (fun q => hun (pm.mem_iff.mp q))
  exact Cyc.rot (A := v :: c :: B) (B := A) this
 ·exact fun z h => ⟨(upd2_other _ _ h).trans (upd2_other _ _ h), (upd2_other _ _ h).trans (upd2_other _ _ h)⟩
 ·exact upd_self _ _ _
 ·exact fun z h => upd_ne _ _ h
theorem Good.ccwS (H : Good G vs r) {u v c : Int} {A B : List Int} (hu : u ∈ vs) (hv : v ∈ vs) (huv : u ≠ v) (hun : v ∉ r u) (hr : r u = A ++ c :: B) :
  Good (((G.addE u v (G.x u c) c).setY u (G.x u c) v).setX u c v) vs (upd r u (A ++ c :: v :: B)) := by
 refine H.half hu hv huv hun rfl rfl rfl ?_ ?_ ?_ ?_ ?_ ?_ ?_
 ·rw [hr, ← List.singleton_append (l := v :: B), ← List.append_assoc]
  refine List.perm_middle.trans ?_
  simp
 ·show (upd G.ks u (G.ks u ++ [v]) u).Perm _
  rw [upd_self]
  walk_at "di"
 ·exact fun z h => upd_ne _ _ h
 ·show Cyc (upd2 (upd2 G.x u v (G.x u c)) u c v u) (upd2 (upd2 G.y u v c) u (G.x u c) v u) _
  rw [upd2_rowI, upd2_rowI, upd2_rowI, upd2_rowI]
  have h0 := H.cy u hu
  rw [hr] at h0
  have h1 : Cyc (G.x u) (G.y u) (c :: (B ++ A)) := Cyc.rot h0
  have pm : (c :: (B ++ A)).Perm (r u) := by rw [hr]; exact List.perm_append_comm (l₁ := c :: B) (l₂ := A)
  have := Cyc.insA h1 (pm.nodup_iff.mpr (H.nd u hu)) (fun q => hun (pm.mem_iff.mp q))
  exact Cyc.rot (A := c :: v :: B) (B := A) this
 ·exact fun z h => ⟨(upd2_other _ _ h).trans (upd2_other _ _ h), (upd2_other _ _ h).trans (upd2_other _ _ h)⟩
 ·exact upd_self _ _ _
 ·exact fun z h => upd_ne _ _ h
theorem Good.move (H : Good G vs r) {u lm : Int} (hu : u ∈ vs) (hl : lm ∈ r u) : Good ((G.offK u lm).reK u lm) vs r := by
 refine ⟨H.sv, H.pv, H.nv, H.vn, H.vo, H.out, ?_, H.cy, H.nd, H.rv, H.nl, H.qp⟩
 intro z hz
 walk_at "al"
 ·show (upd (upd G.ks z (offI (G.ks z) lm)) z (upd G.ks z (offI (G.ks z) lm) z ++ [lm]) z).Perm _
  rw [upd_self, upd_self]
  exact (perm_move ((H.kp z hz).mem_iff.mpr hl) (H.kn hz)).trans (H.kp z hz)
 ·show (upd (upd G.ks u (offI (G.ks u) lm)) u (upd G.ks u (offI (G.ks u) lm) u ++ [lm]) z).Perm _
  rw [upd_ne _ _ h, upd_ne _ _ h]; exact H.kp z hz
theorem Good.first (H : Good G vs r) {u v : Int} (hu : u ∈ vs) (hv : v ∈ vs) (huv : u ≠ v) (hr : r u = []) : Good (G.addE u v v v) vs (upd r u [v]) := by
 refine H.half hu hv huv (by rw [hr]; exact List.not_mem_nil) rfl rfl rfl ?_ ?_ ?_ ?_ ?_ ?_ ?_
 ·rw [hr]
 ·show (upd G.ks u (G.ks u ++ [v]) u).Perm _
  rw [upd_self]
  walk_at "di"
 ·exact fun z h => upd_ne _ _ h
 ·show Cyc (upd2 G.x u v v u) (upd2 G.y u v v u) _
  rw [upd2_rowI, upd2_rowI]
  exact Cyc.of_one (updI_self _ _ _) (updI_self _ _ _)
 ·exact fun z h => ⟨upd2_other _ _ h, upd2_other _ _ h⟩
 ·exact upd_self _ _ _
 ·exact fun z h => upd_ne _ _ h
theorem Good.adds (H : Good G vs r) {u v : Int} (hu : u ∈ vs) (hun : v ∉ r u) (ho : Uo v) : ∃ G0, AddsV G u v G0 ∧ Good G0 (addIf vs v) r ∧ G0.x = G.x ∧ G0.y = G.y := by
 walk_at "bY"
 ·rw [addIf_in h]
  refine ⟨G, .inl ⟨by rw [H.sv]; exact h, fun q => hun ((H.qp v h u).mp q).2, rfl⟩, H, rfl, rfl⟩
 ·rw [addIf_out h]
  exact ⟨_, .inr ⟨by rw [H.sv]; exact h, rfl⟩, H.addV h ho, rfl, rfl⟩
end
def EmbC (w : World) (T : News) (nd sd pd : Addr) (vs : List Int) (r : Int → List Int) : Prop := ∃ A G, Emb w T nd sd pd A G ∧ Good G vs r
def PlaceOk (row : List Int) (v : Int) (p1 p2 : Value) (row' : List Int) : Prop :=
 (row = [] ∧ p1 = .none ∧ p2 = .none ∧ row' = [v]) ∨
 (∃ A c B t, row = A ++ c :: B ∧ p1 = .int c t ∧ p2 = .none ∧ row' = A ++ v :: c :: B) ∨
 (∃ A c B t, row = A ++ c :: B ∧ p1 = .none ∧ p2 = .int c t ∧ row' = A ++ c :: v :: B)
section
variable (R T : News) (m i : Nat) (gl : List GenState)
 (o dI gd nd sd pd : Addr) (t1 t2 t3 t4 t5 n1 : Nat) (h1 h2 h3 h4 h5 : Int) (vs : List Int) (r : Int → List Int) (E : EmbC w T nd sd pd vs r)
 (u v : Int) (tu tv : Tok) (huv : u ≠ v) (hou : Uo u) (hov : Uo v) (hun : v ∉ r u) (p1 p2 : Value) (row' : List Int) (P : PlaceOk (r u) v p1 p2 row')
include hpar K E huv hou hov hun P
theorem eh_half : Ctr prog1 w h₀ d os g₀ (aroundL 350) (.call (.ref 811) ⟨[.ref o, .int u tu, .int v tv], [("cw", p1), ("ccw", p2)]⟩) (k_addr% "i") m i gl
  (exQ (Nat × Nat × News) (fun x => EmbC w x.2.2 nd sd pd (addIf (addIf vs u) v) (upd r u row')) (k_addr% "s") (k_addr% "v") (fun x => x.1) (fun x => x.2.1) (fun _ => gl)) := by
 obtain ⟨A, G, E, H⟩ := E
 have ep : G.pv = G.sv := H.pv.trans H.sv.symm
 have en : G.nv = G.sv := H.nv.trans H.sv.symm
 have fin : ∀ {Q : Gr} {vs' r'}, Good Q vs' r' → (∀ {c : Code} (x : Ctr prog1 w h₀ d os g₀ (aroundL 350) c (k_addr% "i") m i gl
   (exQ (k_addr% "ct") (fun x => Emb w x.2.2.1 nd sd pd x.2.2.2 Q) (k_addr% "s") (k_addr% "n") (fun x => x.1) (fun x => x.2.1) (fun _ => gl))),
   Ctr prog1 w h₀ d os g₀ (aroundL 350) c (k_addr% "i") m i gl
   (exQ (Nat × Nat × News) (fun x => EmbC w x.2.2 nd sd pd vs' r') (k_addr% "s") (k_addr% "v") (fun x => x.1) (fun x => x.2.1) (fun _ => gl))) := by
  intro Q vs' r' HQ c x
  refine x.mono ?_
  walk_at "em"
  exact ⟨(y.1, y.2.1, y.2.2.1), ⟨y.2.2.2, Q, hy, HQ⟩, rfl, rfl, rfl, rfl, rfl⟩
 have inn : ∀ c A B, r u = A ++ c :: B → u ∈ vs := fun c A B e => by
  rcases Classical.em (u ∈ vs) with h | h
  ·exact h
  ·rw [H.out u h] at e; cases A <;> cases e
 rcases P with ⟨hr, rfl, rfl, rfl⟩ | ⟨A', c, B, t, hr, rfl, rfl, rfl⟩ | ⟨A', c, B, t, hr, rfl, rfl, rfl⟩
 ·rcases Classical.em (u ∈ vs) with hu | hu
  ·obtain ⟨G0, H0, HG, _⟩ := H.adds hu hun hov
   rw [addIf_in hu]
   have hu' : u ∈ addIf vs v := mem_addIf.mpr (.inl hu)
   refine fin (HG.first hu' (mem_addIf.mpr (.inr rfl)) huv hr) (eh_e_s_b w b1 b2 hpar h₀ K d os g₀ R T m i gl o dI gd nd sd pd t1 t2 t3 t4 t5 n1 h1 h2 h3 h4 h5 A G E u v tu tv huv hou hov ep en G0 H0 (by rw [H.sv]; exact hu) ?_)
   have := H.kp u hu
   rw [hr] at this
   exact List.perm_nil.mp this
  ·have H1 := H.addV hu hou
   obtain ⟨G0, H0, HG, _⟩ := H1.adds (mem_last _ _) hun hov
   rw [addIf_out hu]
   have hu' : u ∈ addIf (vs ++ [u]) v := mem_addIf.mpr (.inl (mem_last _ _))
   exact fin (HG.first hu' (mem_addIf.mpr (.inr rfl)) huv hr) (eh_n_s_b w b1 b2 hpar h₀ K d os g₀ R T m i gl o dI gd nd sd pd t1 t2 t3 t4 t5 n1 h1 h2 h3 h4 h5 A G E u v tu tv huv hou hov ep en G0 H0 (by rw [H.sv]; exact hu))
 ·have hu := inn c A' B hr
  rw [addIf_in hu]
  obtain ⟨G0, H0, HG, hx, hy⟩ := H.adds hu hun hov
  have hu' : u ∈ addIf vs v := mem_addIf.mpr (.inl hu)
  have hv' : v ∈ addIf vs v := mem_addIf.mpr (.inr rfl)
  have kp := H.kp u hu
  have hc : c ∈ r u := by rw [hr]; simp
  have hyc := (Cyc.mem (H.cy u hu) (H.nd u hu) hc).2
  have hus : u ∈ G.sv := by rw [H.sv]; exact hu
  have hun' : v ∉ G.ks u := fun q => hun (kp.mem_iff.mp q)
  have hc' := kp.mem_iff.mpr hc
  walk_at "eW"
  walk_at "eS"
  have hlm : lm ∈ upd r u (A' ++ v :: c :: B) u := by
   rw [upd_self]
   have := kp.mem_iff.mp (List.mem_of_getLast? hlast)
   rw [hr] at this
   rcases List.mem_append.mp this with h | h
   ·exact List.mem_append.mpr (.inl h)
   ·exact List.mem_append.mpr (.inr (List.mem_cons_of_mem _ h))
  have g := HG.cwS hu' hv' huv hun hr
  rw [hy] at g
  rcases Classical.em (c = lm) with e | e
  ·exact fin g (eh_cw_s_b w b1 b2 hpar h₀ K d os g₀ R T m i gl o dI gd nd sd pd t1 t2 t3 t4 t5 n1 h1 h2 h3 h4 h5 A G E u v tu tv huv hou hov ep en G0 H0 hus hun' q hl lm hlast c t hc' (kp.mem_iff.mpr hyc) e)
  ·exact fin (g.move hu' hlm) (eh_cw_m_b w b1 b2 hpar h₀ K d os g₀ R T m i gl o dI gd nd sd pd t1 t2 t3 t4 t5 n1 h1 h2 h3 h4 h5 A G E u v tu tv huv hou hov ep en G0 H0 hus hun' q hl lm hlast c t hc' (kp.mem_iff.mpr hyc) e)
 ·have hu := inn c A' B hr
  rw [addIf_in hu]
  obtain ⟨G0, H0, HG, hx, hy⟩ := H.adds hu hun hov
  have hu' : u ∈ addIf vs v := mem_addIf.mpr (.inl hu)
  have hv' : v ∈ addIf vs v := mem_addIf.mpr (.inr rfl)
  have kp := H.kp u hu
  have hc : c ∈ r u := by rw [hr]; simp
  have hyc := (Cyc.mem (H.cy u hu) (H.nd u hu) hc).1
  have hus : u ∈ G.sv := by rw [H.sv]; exact hu
  have hun' : v ∉ G.ks u := fun q => hun (kp.mem_iff.mp q)
  have hc' := kp.mem_iff.mpr hc
  walk_at "eW"
  walk_at "eS"
  have hlm : lm ∈ upd r u (A' ++ c :: v :: B) u := by
   rw [upd_self]
   have := kp.mem_iff.mp (List.mem_of_getLast? hlast)
   rw [hr] at this
   rcases List.mem_append.mp this with h | h
   ·exact List.mem_append.mpr (.inl h)
   ·refine List.mem_append.mpr (.inr ?_)
    walk_at "ea"
    ·exact List.mem_cons_self ..
    ·exact List.mem_cons_of_mem _ (List.mem_cons_of_mem _ h)
  have g := HG.ccwS hu' hv' huv hun hr
  rw [hx] at g
  exact fin (g.move hu' hlm) (eh_ccw_m_b w b1 b2 hpar h₀ K d os g₀ R T m i gl o dI gd nd sd pd t1 t2 t3 t4 t5 n1 h1 h2 h3 h4 h5 A G E u v tu tv huv hou hov ep en G0 H0 hus hun' q hl lm hlast c t hc' (kp.mem_iff.mpr hyc))
end
theorem eh_halfZ (w : World) (b1 b2 : Bool) (hpar : w.params = parB w.params b1 b2) (h₀ : Heap) (K : KT.Holds h₀ 1 0 (kt1 w)) (d : Drawn) (os : OsState) (g₀ : List GenState) (R Tr T : News) (m i : Nat) (gl : List GenState)
 (o dI gd nd sd pd : Addr) (t1 t2 t3 t4 t5 n1 : Nat) (h1 h2 h3 h4 h5 : Int) (vs : List Int) (r : Int → List Int) (E : EmbC w T nd sd pd vs r)
 (u v : Int) (tu tv : Tok) (huv : u ≠ v) (hou : Uo u) (hov : Uo v) (hun : v ∉ r u) (p1 p2 : Value) (row' : List Int) (P : PlaceOk (r u) v p1 p2 row') :
 Ctr prog1 w h₀ d os g₀ (aroundL 350) (.call (.ref 811) ⟨[.ref o, .int u tu, .int v tv], [("cw", p1), ("ccw", p2)]⟩) (k_addr% "P") m i gl
  (exQ (Nat × Nat × News) (fun x => EmbC w x.2.2 nd sd pd (addIf (addIf vs u) v) (upd r u row')) (k_addr% "s") (k_addr% "R") (fun x => x.1) (fun x => x.2.1) (fun _ => gl)) := by
 have := eh_half w b1 b2 hpar h₀ K d os g₀ (R ++ Tr) T m i gl o dI gd nd sd pd t1 t2 t3 t4 t5 n1 h1 h2 h3 h4 h5 vs r E u v tu tv huv hou hov hun p1 p2 row' P
 simpa only [List.append_assoc] using this
abbrev cellO (v : Value) : Obj := ⟨.type "cell", none, .cell (some v), #[]⟩
def Lz (T : News) (L : Int → Addr) (vs : List Int) (r : Int → List Int) : Prop := ∀ v ∈ vs, ∃ ps n, getL T (L v) = some (listO (ivs ps) n) ∧ ps.map Prod.fst = r v
structure Rz (w : World) (T : News) (rd : Addr) (vs : List Int) (r : Int → List Int) : Prop where
 ok : ∃ L er nr, getL T rd = some (dictO er nr) ∧ DE prog1 w (tab vs L) er ∧ Lz T L vs r
theorem getL_app {T T' : News} {a : Addr} {o : Obj} (h : getL T a = some o) : getL (T ++ T') a = some o := by
 induction T with
 | nil => cases h
 | cons p T ih =>
   rw [List.cons_append]
   unfold getL at h ⊢
   split at h
   ·rename_i e; rw [if_pos e]; exact h
   ·rename_i e; rw [if_neg e]; exact ih h
theorem putL_app {T T' : News} {a : Addr} {o o' : Obj} (h : getL T a = some o) : putL (T ++ T') a o' = putL T a o' ++ T' := by
 induction T with
 | nil => cases h
 | cons p T ih =>
   rw [List.cons_append]
   unfold getL at h
   unfold putL
   split at h
   ·rename_i e; rw [if_pos e, if_pos e]; rfl
   ·rename_i e; rw [if_neg e, if_neg e, ih h]; rfl
theorem Lz.app {T T' : News} {L : Int → Addr} {vs : List Int} {r : Int → List Int} (h : Lz T L vs r) : Lz (T ++ T') L vs r := fun v hv => by
 obtain ⟨ps, n, g, e⟩ := h v hv
 exact ⟨ps, n, getL_app g, e⟩
theorem Rz.app {w : World} {T T' : News} {rd : Addr} {vs : List Int} {r : Int → List Int} (h : Rz w T rd vs r) : Rz w (T ++ T') rd vs r := by
 obtain ⟨L, er, nr, g, D, l⟩ := h
 exact ⟨L, er, nr, getL_app g, D, l.app⟩
theorem Lz.skip {T : News} {L : Int → Addr} {vs : List Int} {r : Int → List Int} (h : Lz T L vs r) {x : Addr} {o : Obj} (hx : ∀ a o, getL T a = some o → x ≠ a) : Lz ((x, o) :: T) L vs r := fun v hv => by
 obtain ⟨ps, n, g, e⟩ := h v hv
 exact ⟨ps, n, getL_skip (hx _ _ g) g, e⟩
def turnI : List Int → List Int
 | [] => []
 | p :: qs => (p :: qs).drop ((p :: qs).idxOf (qs.foldl min p)) ++ (p :: qs).take ((p :: qs).idxOf (qs.foldl min p))
theorem minP_fst (p : Int × Tok) (qs : List (Int × Tok)) : (minP p qs).1 = (qs.map Prod.fst).foldl min p.1 := by
 unfold minP
 induction qs generalizing p with
 | nil => rfl
 | cons q qs ih =>
   rw [List.foldl_cons, List.map_cons, List.foldl_cons, ih]
   congr 1
   split
   ·rename_i h; exact (Int.min_eq_right (Int.le_of_lt h)).symm
   ·rename_i h; exact (Int.min_eq_left (Int.not_lt.mp h)).symm
theorem turnP_fst (ps : List (Int × Tok)) : (turnP ps).map Prod.fst = turnI (ps.map Prod.fst) := by
 cases ps with
 | nil => rfl
 | cons p qs =>
   show (turnP (p :: qs)).map Prod.fst = turnI (p.1 :: qs.map Prod.fst)
   unfold turnP turnI
   rw [List.map_append, List.map_drop, List.map_take, minP_fst]
   rfl
theorem cut_setP {prog : Program} {w : World} {h₀ : Heap} {A : Around} {R₀ : Result → Shared → Prop} {d : Drawn} {os : OsState} {kt : KT} {g₀ : List GenState} {n : Nat} {c c' : Code} {vs : List Value} {hh : Value → Sem Unit} {a : Addr} {es : List DictEntry} {nn : Nat} {kb : List (Int × Value)} {k : Int} {tk : Tok} {v : Value} {R : News} {m i : Nat} {gl : List GenState} {Q : Post}
 (D : DE prog w kb es) (hz : kb.length ≤ 500) (hq : c'.quiet = true)
 (x : Ctr prog w h₀ d os g₀ A c' ((a, dictO (storeE es k tk v) (storeN es k nn)) :: R) m (i + 1) gl Q)
 (hQ : ∀ r news' m' i' gl', Q r news' m' i' gl' → RE ⟨prog, w, h₀, 0, kt, [], A, R₀, d, 0, os⟩ g₀ 0 r news' m' i' gl') :
 RM ⟨prog, w, h₀, 0, kt, [], A, R₀, d, 0, os⟩ g₀ n c none .base (PySem.W.R.onRaiseR (PySem.W.R.bindR (PySem.W.R.bindR (Sem.pure ()) fun _ => PySem.W.ZFast.zw17359229931016689406 vs (PySem.W.ZFast.zw11925912800584824493 a (.int k tk) v)) (fun _ => PySem.W.ZFast.zw12377390311714414960 c')) hh) ((a, dictO es nn) :: R) m i gl :=
 cut_setZ D hz hq x hQ
end Mine
namespace Mine
open Lean Meta Elab Tactic PySem PySem.W PySem.W.X
def closeCut (nm : Name) : TacticM Unit := do
 let g ← getMainGoal
 g.withContext do
  let T ← whnfR (← instantiateMVars (← g.getType))
  let T := T.consumeMData.headBeta
  let some d := (← getLCtx).findFromUserName? nm | throwError "no {nm}"
  unless T.isAppOfArity ``Mine.MG 6 do throwError "no goal of the run"
  let t := (T.getAppArgs[4]!).headBeta
  unless t.isAppOf ``PySem.Sem.rec do throwError "another tree {t.getAppFn}"
  let .lam n ty b bi := t.getAppArgs[3]! | throwError "no handler"
  let ba := b.headBeta.getAppArgs
  unless b.headBeta.getAppFn.isConstOf ``PySem.W.R.bindR && ba.size == 4 do throwError "another handler {b}"
  g.assign (mkApp d.toExpr (.lam n ty ba[2]! bi))
  replaceMainGoal []
end Mine
namespace Mine
open PySem PySem.Spec PySem.Calls PyProof.Rows PySem.W PySem.W.X
theorem perm_in (x : Addr × Obj) (R Ts T : News) : ((R ++ x :: Ts) ++ T).Perm (x :: ((R ++ Ts) ++ T)) := (List.perm_middle (l₁ := R) (l₂ := Ts)).append_right T
theorem getL_mid3 (a b c : Addr × Obj) (R Ts T : News) : ∀ p ∈ Ts, p ∈ a :: b :: c :: ((R ++ Ts) ++ T) := fun p hp => by simp [hp]
theorem dc_fresh {h₀ h : Heap} {x : Addr} {ox : Obj} {N Ts : News} (M : Mm h₀ h ((x, ox) :: N)) (hs : ∀ p ∈ Ts, p ∈ N) : ∀ a o, getL Ts a = some o → x ≠ a := by
 intro a o g e
 have nd := M.nd
 walk_at "du"
 refine nd.1 ?_
 rw [e]
 have := List.mem_map_of_mem (f := Prod.fst) (hs _ (getL_mem g))
 exact this
theorem dc_turn {w : World} {T : News} (er : List DictEntry) (nr : Nat) (vs : List Int) (L : Int → Addr) (r : Int → List Int) (Dr : DE prog1 w (tab vs L) er) (hL : Lz T L vs r) (hlen : er.length = vs.length) (j : Nat) (hj : j < vs.length) :
  ∃ hs k t b pk nk, (⟨er⟩ : Array DictEntry)[j]? = some ⟨hs, .int k t, .ref b⟩ ∧ k ∈ vs ∧ k ∉ vs.take j ∧ vs.take (j + 1) = vs.take j ++ [k] ∧ getL T (L k) = some (listO (ivs pk) nk) ∧ pk.map Prod.fst = r k := by
 obtain ⟨ks, hk1, hk2⟩ := keys_of Dr
 walk_at "cv"
 have ndv : vs.Nodup := by have := Dr.nd; rwa [tab_keys] at this
 have hjl : j < er.length := by omega
 obtain ⟨hs, k, t, b, hee⟩ := hrf er[j] (List.getElem_mem hjl)
 have hkv : k = vs[j] := by
  have h1 : (er.map (·.key))[j]? = some (.int k t) := by rw [List.getElem?_map, List.getElem?_eq_getElem hjl, hee]; rfl
  rw [hk1, List.getElem?_map] at h1
  have h2 : (ks.map Prod.fst)[j]? = some vs[j] := by rw [hk2, List.getElem?_eq_getElem hj]
  rw [List.getElem?_map] at h2
  cases hq : ks[j]? with
  | none => rw [hq] at h1; cases h1
  | some z =>
    rw [hq] at h1 h2
    simp only [Option.map_some, Option.some.injEq, Value.int.injEq] at h1 h2
    rw [← h2, h1.1]
 have hkm : k ∈ vs := by rw [hkv]; exact List.getElem_mem hj
 obtain ⟨pk, nk, gk, ek⟩ := hL k hkm
 refine ⟨hs, k, t, b, pk, nk, by rw [← hee]; simp [hjl], hkm, ?_, ?_, gk, ek⟩
 ·rw [hkv]
  intro hm
  obtain ⟨j', hj', e⟩ := List.getElem_of_mem hm
  rw [List.getElem_take] at e
  have := (List.getElem_inj ndv).mp e
  simp at hj'
  omega
 ·rw [hkv]; exact List.take_succ_eq_append_getElem hj
theorem dc_new (Ts : News) (L0 : Int → Addr) (v0 : List Int) (r : Int → List Int) (k : Int) (pk : List (Int × Tok)) (ek : pk.map Prod.fst = r k) (l : Addr) (hkn : k ∉ v0) (hL0 : Lz Ts L0 v0 (fun v => turnI (r v))) (hl : ∀ a o, getL Ts a = some o → l ≠ a) :
  Lz ((l, listO (ivs (turnP pk)) 0) :: Ts) (upd L0 k l) (v0 ++ [k]) (fun v => turnI (r v)) := by
 intro z hz
 walk_at "az"
 ·rw [upd_ne _ _ (fun e => hkn (by rw [← e]; exact h))]
  exact (hL0.skip hl) z h
 ·rw [List.mem_singleton.mp h, upd_self]
  exact ⟨_, _, getL_head _ _ _, by rw [turnP_fst, ek]⟩
section
variable (T : News)
 (rd : Addr) (er : List DictEntry) (nr : Nat) (gr : getL T rd = some (dictO er nr)) (vs : List Int) (L : Int → Addr) (r : Int → List Int) (Dr : DE prog1 w (tab vs L) er) (hL : Lz T L vs r)
 (hvs : vs.length ≤ 100) (hr : ∀ v ∈ vs, (r v).length ≤ 100)
 (I ac : Addr) (p : Addr) (a3 : Int) (c3 : Tok) (nf : Nat)
include hpar K gr Dr hL hvs hr
theorem pl_loop : ∀ (q j : Nat) (R Ts : News) (m i : Nat) (gl : List GenState) (v : Int) (tv : Tok) (eb : List DictEntry) (nb : Nat) (L0 : Int → Addr), j + q = vs.length → DE prog1 w (tab (vs.take j) L0) eb → Lz Ts L0 (vs.take j) (fun v => turnI (r v)) →
 Ctr prog1 w h₀ d os g₀ (aroundL 346) (plLoop (.ref I) (.ref ac) p)
  ((I, keyIt rd j er.length nr) :: (p + 4, dictO [⟨a3, .str "v" c3, .int v tv⟩] nf) :: (ac, dictO eb nb) :: (p + 1, cellO (.ref rd)) :: ((R ++ Ts) ++ T)) m i gl
  (exQ (k_addr% "bc") (k_addr% "w")
  (fun _ => .ok .next) (k_addr% "cw") (fun x => x.1) (fun x => x.2.1) (fun x => gl)) := by
 walk_at "B"
 obtain ⟨ks, hk1, hk2⟩ := keys_of Dr
 walk_at "cv"
 have ndv : vs.Nodup := by have := Dr.nd; rwa [tab_keys] at this
 intro q
 induction q with
 | zero =>
   walk_at "df"
   have he := keyIt_end er j (by omega)
   walk_at "do"
   rw [ht] at Db hL0
   walk_at "d"
   walk_at "aK"
   walk_at "fg"
 | succ q ih =>
   walk_at "df"
   walk_at "aS"
   walk_at "aB"
   walk_at "bo"
   have hz : (tab (vs.take j) L0).length ≤ 500 := by simp [tab]; omega
   have IH := fun l R Ts m i gl v tv Lz' => ih (j + 1) R ((l, listO (ivs (turnP pk)) 0) :: Ts) m i gl v tv (storeE eb k t (.ref l)) (storeN eb k nb) (upd L0 k l) (by omega) (by
    walk_at "eB"
    exact Db.store k t (.ref l)) Lz'
   have LN := fun l hl => dc_new Ts L0 (vs.take j) r k pk ek l hkn hL0 hl
   rw [← ht] at LN
   walk_at "d"
   clear hk1 hk2 hrf ndv hj hL ih hkm hkn ht hL0 hr hvs hlen
   walk_at "bb"
   run_tac Mine.walk [``t_any] [] { fuel := 3 }
   intro x hx h D
   have zz := fun hh => cut_setP (hh := hh) (n := 0) (c := plLoop (.ref I) (.ref ac) p) (kt := kt1 w) (R₀ := RR) (vs := [.int k t, .ref x.1]) (k := k) (tk := t) (v := .ref x.1) (a := ac) (es := eb) (nn := nb) (c' := plLoop (.ref I) (.ref ac) p) (m := x.2.1) (i := x.2.2) (gl := gl)
    (R := (x.1, listO (ivs (turnP pk)) 0) :: (I, keyIt rd (j + 1) er.length nr) :: (p + 4, dictO [⟨a3, .str "v" c3, .int k t⟩] nf) :: (p + 1, cellO (.ref rd)) :: ((R ++ Ts) ++ T)) Db hz rfl
    (Q := exQ (k_addr% "bc") (k_addr% "w")
    (fun _ => .ok .next) (k_addr% "cw") (fun x => x.1) (fun x => x.2.1) (fun x => gl))
     (fun h R' M hs H => by
      have fr := dc_fresh (M.drop1) (getL_mid3 _ _ _ R Ts T)
      have M2 := M.choose [2, 3, 0, 4, 1] 5 rfl
      exact IH x.1 R Ts _ _ _ k t (LN _ fr) h R' (M2.perm (k_addr% "cU")) hs H) (by
      walk_at "aq"
      walk_at "ao") h ⟨D.mm.choose [3, 0, 1, 2, 4] 5 rfl, D.size⟩
   run_tac Mine.closeCut `zz
end
noncomputable abbrev plStart (it acc : Value) (p : Addr) : Code := match plLoop it acc p with
 | .compLoop e d it acc env => .compStart e d it acc env
 | c => c
section
variable (T : News)
 (rd : Addr) (er : List DictEntry) (nr : Nat) (gr : getL T rd = some (dictO er nr)) (vs : List Int) (L : Int → Addr) (r : Int → List Int) (Dr : DE prog1 w (tab vs L) er) (hL : Lz T L vs r)
 (hvs : vs.length ≤ 100) (hr : ∀ v ∈ vs, (r v).length ≤ 100)
 (I ac : Addr) (p : Addr) (R : News) (m i : Nat) (gl : List GenState) (nf : Nat)
include hpar K gr Dr hL hvs hr
theorem pl_start1 (h1v : 1 ≤ vs.length) :
 Ctr prog1 w h₀ d os g₀ (aroundL 346) (plStart (.ref I) (.ref ac) p)
  (k_addr% "fk") m i gl
  (exQ (k_addr% "ac") (k_addr% "w")
  (fun _ => .ok .next) (k_addr% "bz") (fun x => x.1) (fun x => x.2.1) (fun x => gl)) := by
 walk_at "B"
 walk_at "ch"
 walk_at "aB"
 walk_at "bo"
 have D0 : DE prog1 w (tab (vs.take 0) L) [] := DE.nil
 have L00 : Lz ([] : News) L (vs.take 0) (fun v => turnI (r v)) := fun v hv => by simp at hv
 have IH := fun a3 c3 nf l R m i gl v tv Lz' => pl_loop w b1 b2 hpar h₀ K d os g₀ T rd er nr gr vs L r Dr hL hvs hr I ac p a3 c3 nf (vs.length - 1) 1 R [(l, listO (ivs (turnP pk)) 0)] m i gl v tv (storeE [] k t (.ref l)) (storeN [] k 0) (upd L k l) (by omega) (by
   walk_at "eL"
   exact D0.store k t (.ref l)) Lz'
 have LN := fun l hl => dc_new [] L (vs.take 0) r k pk ek l hkn L00 hl
 rw [← ht] at LN
 walk_at "fh"
 have Dn : DE prog1 w [] [] := DE.nil
 clear hkm hkn ht hL hr hvs hlen L00 D0 h1v
 cases b2
 all_goals
  walk_at "d"
  walk_at "bb"
  run_tac Mine.walk [``t_any] [] { fuel := 3 }
  intro x hx h D
  have zz := fun hh => cut_setP (hh := hh) (n := 0) (c := plLoop (.ref I) (.ref ac) p) (kt := kt1 w) (R₀ := RR) (vs := [.int k t, .ref x.1]) (k := k) (tk := t) (v := .ref x.1) (a := ac) (es := []) (nn := 0) (c' := plLoop (.ref I) (.ref ac) p) (m := x.2.1) (i := x.2.2) (gl := gl)
   (R := (x.1, listO (ivs (turnP pk)) 0) :: (I, keyIt rd (0 + 1) er.length nr) :: (p + 4, dictO [⟨_, .str "v" _, .int k t⟩] _) :: (p + 1, cellO (.ref rd)) :: (R ++ T)) Dn hz rfl
   (Q := exQ (k_addr% "ac") (k_addr% "w")
   (fun _ => .ok .next) (k_addr% "bz") (fun x => x.1) (fun x => x.2.1) (fun x => gl))
    (fun h R' M hs H => by
     have M2 := M.choose [2, 3, 0, 4, 1] 5 rfl
     walk_at "eT"
     ·have := (perm_in (x.1, listO (ivs (turnP pk)) 0) R [] T).symm
      rwa [List.append_nil] at this
     ·walk_at "bX"
      walk_at "X") (by
     walk_at "aq"
     walk_at "ao") h ⟨D.mm.choose [3, 0, 1, 2, 4] 5 rfl, D.size⟩
  run_tac Mine.closeCut `zz
theorem pl_start0 (h1v : vs.length = 0) :
 Ctr prog1 w h₀ d os g₀ (aroundL 346) (plStart (.ref I) (.ref ac) p)
  (k_addr% "fk") m i gl
  (exQ (Nat × Nat) (fun _ => True) (fun _ => .ok .next) (fun x => (p + 4, dictO [] nf) :: (ac, dictO [] 0) :: (p + 1, cellO (.ref rd)) :: (R ++ T)) (fun x => x.1) (fun x => x.2) (fun x => gl)) := by
 walk_at "B"
 have he := keyIt_end er 0 (by omega)
 cases b2
 all_goals
  walk_at "d"
  walk_at "aK"
  walk_at "cL"
end
end Mine
end
namespace Mine
open PySem PySem.Spec PySem.Calls PyProof.Rows PySem.W PySem.W.X
def RotAll (vs : List Int) (f r : Int → List Int) : Prop := ∀ v ∈ vs, ∃ A B, f v = A ++ B ∧ r v = B ++ A
section
variable {w : World} {T : News} {nd sd pd : Addr} {A : Ad} {G : Gr} {vs : List Int} {r : Int → List Int} (E : Emb w T nd sd pd A G) (H : Good G vs r)
include E H
theorem chain_of {v s : Int} (hv : v ∈ vs) : ∀ (D : List Int) (cur : Int), Lk (G.x v) (G.y v) (cur :: D ++ [s]) → (∀ z ∈ cur :: D, z ∈ G.ks v) → s ∉ D → ∃ ws : List (Int × Tok), ws.map Prod.fst = D ∧ Chain T (tab (G.ks v) (A.d v)) s cur ws
 | [], cur, hl, hm, hs => by
   have hus : v ∈ G.sv := by rw [H.sv]; exact hv
   have hc := hm cur (.head _)
   obtain ⟨o, g, D, rfl, hx, hy⟩ := E.cel (.d v cur) (E.ok.kh v cur hus hc)
   exact ⟨[], rfl, _, D, tab_in hc, g, by rw [hx]; exact hl.1.symm⟩
 | d :: D, cur, hl, hm, hs => by
   have hus : v ∈ G.sv := by rw [H.sv]; exact hv
   have hc := hm cur (.head _)
   obtain ⟨o, g, Da, rfl, hx, hy⟩ := E.cel (.d v cur) (E.ok.kh v cur hus hc)
   have hl : G.x v cur = d ∧ G.y v d = cur ∧ Lk (G.x v) (G.y v) (d :: D ++ [s]) := hl
   obtain ⟨ws, h1, h2⟩ := chain_of hv D d hl.2.2 (fun z hz => hm z (.tail _ hz)) (fun q => hs (.tail _ q))
   have hd : Da.x = d := hx.trans hl.1
   exact ⟨(d, Da.tx) :: ws, by rw [List.map_cons, h1], _, Da, tab_in hc, g, hd, rfl, (by rw [hd]; exact fun e => hs (e ▸ List.mem_cons_self ..)), h2⟩
theorem row_of {v : Int} (hv : v ∈ vs) : ∃ ps : List (Int × Tok), (k_addr% "dT") ∧ ∃ P Q, ps.map Prod.fst = P ++ Q ∧ r v = Q ++ P := by
 have hus : v ∈ G.sv := by rw [H.sv]; exact hv
 obtain ⟨o, g, eu, nu, rfl, D⟩ := E.cel (.s v) hus
 have hlen := E.len_k hus
 obtain ⟨ks, hk1, hk2⟩ := keys_of D
 have hrf := D.refs (k_addr% "x")
 have hpl := D.pairs.length
 rcases hq : G.ks v with _ | ⟨k0, kk⟩
 ·have h0 : r v = [] := by
   have := H.kp v hv
   rw [hq] at this
   exact List.nil_perm.mp this
  refine ⟨[], ⟨_, eu, nu, _, tab_in hus, g, D, ?_⟩, [], [], rfl, by rw [h0]; rfl⟩
  show tab (G.ks v) _ = []
  rw [hq]; rfl
 ·have hne : ks ≠ [] := by
   intro e
   rw [e] at hk2
   rw [hq] at hk2; cases hk2
  obtain ⟨⟨s, ts⟩, hlast⟩ : ∃ z, ks.getLast? = some z := ⟨_, List.getLast?_eq_some_getLast hne⟩
  have hs : s ∈ G.ks v := by
   rw [← hk2]
   have := List.mem_map_of_mem (f := Prod.fst) (List.mem_of_getLast? hlast)
   exact this
  obtain ⟨Q, P, hr⟩ := List.append_of_mem ((H.kp v hv).mem_iff.mp hs)
  have hc : Cyc (G.x v) (G.y v) (s :: P ++ Q) := Cyc.rot (by rw [← hr]; exact H.cy v hv)
  have pm : (s :: (P ++ Q)).Perm (r v) := by rw [hr]; exact List.perm_append_comm (l₁ := s :: P) (l₂ := Q)
  have hn := pm.nodup_iff.mpr (H.nd v hv)
  obtain ⟨ws, h1, h2⟩ := chain_of E H hv (P ++ Q) s hc (fun z hz => (H.kp v hv).mem_iff.mpr (pm.mem_iff.mp hz)) (List.nodup_cons.mp hn).1
  have hwl : ws.length ≤ 100 := by
   have e1 := congrArg List.length h1
   have e2 := pm.length_eq
   have e3 := (H.kp v hv).length_eq
   simp [tab] at hlen
   simp at e1 e2
   omega
  refine ⟨(s, ts) :: ws, ⟨_, eu, nu, _, tab_in hus, g, D, hrf, by omega, by omega, ?_, ?_, h2, by omega⟩, s :: P, Q, by rw [List.map_cons, h1]; rfl, hr⟩
  ·refine ⟨(tab (G.ks v) (A.d v)).length - 1, ?_⟩
   have : 0 < (tab (G.ks v) (A.d v)).length := by simp [tab, hq]
   omega
  ·rw [hk1, List.getLast?_map, hlast]; rfl
end
def vxL (L : Int → Addr) (xs : List Vx) : Int → Addr := xs.foldl (fun L x => upd L x.v x.l) L
theorem vxL_out (xs : List Vx) (L : Int → Addr) {z : Int} (h : z ∉ xs.map Vx.v) : vxL L xs z = L z := by
 induction xs generalizing L with
 | nil => rfl
 | cons x xs ih =>
   show vxL (upd L x.v x.l) xs z = _
   rw [ih _ (fun q => h (List.mem_cons_of_mem _ q)), upd_ne _ _ (fun e => h (by rw [e]; exact List.mem_cons_self ..))]
theorem vxL_in (xs : List Vx) (L : Int → Addr) (nd : (xs.map Vx.v).Nodup) {x : Vx} (h : x ∈ xs) : vxL L xs x.v = x.l := by
 induction xs generalizing L with
 | nil => cases h
 | cons y xs ih =>
   walk_at "du"
   show vxL (upd L y.v y.l) xs x.v = _
   walk_at "ea"
   ·rw [vxL_out xs _ nd.1, upd_self]
   ·exact ih _ nd.2 h
theorem vxEs_DE {w : World} (xs : List Vx) : ∀ (vs0 : List Int) (L : Int → Addr) (es : List DictEntry), DE prog1 w (tab vs0 L) es → (vs0 ++ xs.map Vx.v).Nodup → DE prog1 w (tab (vs0 ++ xs.map Vx.v) (vxL L xs)) (vxEs xs es) := by
 induction xs with
 | nil => intro vs0 L es D nd; simpa [vxL, vxEs] using D
 | cons x xs ih =>
   intro vs0 L es D nd
   have e : vs0 ++ (x :: xs).map Vx.v = (vs0 ++ [x.v]) ++ xs.map Vx.v := by simp
   rw [e] at nd ⊢
   have hn : x.v ∉ vs0 := by
    intro h
    rw [List.nodup_append] at nd
    have := (List.nodup_append.mp nd.1).2.2 x.v h x.v (by simp)
    exact this rfl
   refine ih (vs0 ++ [x.v]) (upd L x.v x.l) (storeE es x.v x.t (.ref x.l)) ?_ nd
   rw [← tab_store (f := L) hn (upd L x.v x.l) (fun z hz => upd_ne _ _ (fun e => hn (by rw [← e]; exact hz))) (upd_self _ _ _)]
   exact D.store x.v x.t (.ref x.l)
theorem vxCells_eq (row : Int → List (Int × Tok)) (xs : List Vx) (R : News) : vxCells row xs R = (k_addr% "dF").reverse ++ R := by
 unfold vxCells
 induction xs generalizing R with
 | nil => rfl
 | cons x xs ih => rw [List.foldl_cons, ih, List.map_cons, List.reverse_cons, List.append_assoc]; rfl
section
variable (w : World) (b1 b2 : Bool) (hpar : w.params = parB w.params b1 b2) (h₀ : Heap) (K : KT.Holds h₀ 1 0 (kt1 w)) (d : Drawn) (os : OsState) (g₀ : List GenState) (R T : News) (m i : Nat) (gl : List GenState)
 (o dI gd nd sd pd : Addr) (t1 t2 t3 t4 t5 n1 : Nat) (h1 h2 h3 h4 h5 : Int) (vs : List Int) (r : Int → List Int) (E : EmbC w T nd sd pd vs r)
include hpar K E
theorem e_data : Ctr prog1 w h₀ d os g₀ (aroundL 330) (k_addr% "dg") (k_addr% "i") m i gl
  (exQ (k_addr% "cB") (fun x => Rz w x.2.2.2.1 x.2.2.1 vs x.2.2.2.2.1 ∧ RotAll vs x.2.2.2.2.1 r ∧ (GB gl → GB x.2.2.2.2.2))
  (k_addr% "bv") (fun x => (o, selfO dI) :: (k_addr% "b") :: ((R ++ x.2.2.2.1) ++ T)) (fun x => x.1) (fun x => x.2.1) (fun x => x.2.2.2.2.2)) := by
 obtain ⟨A, G, E, H⟩ := E
 obtain ⟨on, gn, en, nn, rfl, Dn⟩ := E.cel .nd trivial
 obtain ⟨os', gs, es, ns, rfl, Ds⟩ := E.cel .sd trivial
 obtain ⟨ks, hk1, hk2⟩ := keys_of Dn
 have hrf := Dn.refs (k_addr% "x")
 have hlen := E.len_n
 have hpl := Dn.pairs.length
 rw [H.nv] at hk2
 have hvk : vKeys en = ks := by
  clear Dn gn hlen hpl
  unfold vKeys
  have : ∀ (en : List DictEntry) (ks : List (Int × Tok)), en.map (·.key) = ivs ks → en.map (k_addr% "cZ") = ks := by
   intro en
   induction en with
   | nil => intro ks h; cases ks with | nil => rfl | cons => cases h
   | cons e en ih =>
     intro ks h
     cases ks with
     | nil => cases h
     | cons p ks =>
       simp only [List.map_cons, List.cons.injEq] at h ⊢
       exact ⟨by rw [h.1], ih ks h.2⟩
  exact this en ks hk1
 rcases hen0 : en with _ | ⟨e0, en'⟩
 ·rw [hen0] at gn hk1
  have hks : ks = [] := by cases ks with | nil => rfl | cons => cases hk1
  have hvs : vs = [] := by rw [← hk2, hks]; rfl
  have C := (g_none w b1 b2 hpar h₀ K d os g₀ R T m i gl o dI gd nd sd pd t1 t2 t3 t4 t5 n1 h1 h2 h3 h4 h5 nn gn).2
  refine fun h RR M hs HH => C h RR M hs ?_
  walk_at "bW"
  refine HH _ _ _ _ _ h' ⟨(x.1, x.2.1, x.2.2, [(x.2.2, dictO [] 0)], fun _ => [], _), ⟨⟨fun _ => 0, [], 0, getL_head _ _ _, by rw [hvs]; exact DE.nil, fun v hv => by rw [hvs] at hv; cases hv⟩, (by intro v hv; rw [hvs] at hv; cases hv), fun h => h⟩, rfl, rfl, rfl, rfl, rfl⟩ (M'.perm ?_) hs'
  refine (List.Perm.swap _ _ _).trans (.cons _ ((List.Perm.swap _ _ _).trans (.cons _ ?_)))
  rw [List.append_assoc]
  exact List.perm_middle.symm
 ·have hch : ∀ v, ∃ ps : List (Int × Tok), v ∈ vs → (k_addr% "dT") ∧ ∃ P Q, ps.map Prod.fst = P ++ Q ∧ r v = Q ++ P := by
   intro v
   walk_at "bY"
   ·obtain ⟨ps, q⟩ := row_of E H h
    exact ⟨ps, fun _ => q⟩
   ·exact ⟨[], fun q => absurd q h⟩
  let row := fun v => Classical.choose (hch v)
  have hrow : ∀ v ∈ vs, (∃ su eu nu ku, valueAt (tab G.sv A.s) v = some (.ref su) ∧ getL T su = some (dictO eu nu) ∧ DE prog1 w ku eu ∧ Row T eu ku (row v)) ∧ ∃ P Q, (row v).map Prod.fst = P ++ Q ∧ r v = Q ++ P := fun v hv => Classical.choose_spec (hch v) hv
  clear_value row
  have hen : ∀ e ∈ en, ∃ hs k t b, e = ⟨hs, .int k t, .ref b⟩ ∧ ∃ su eu nu ku, valueAt (tab G.sv A.s) k = some (.ref su) ∧ getL T su = some (dictO eu nu) ∧ DE prog1 w ku eu ∧ Row T eu ku (row k) := by
   intro e he
   obtain ⟨hs, k, t, b, rfl⟩ := hrf e he
   refine ⟨hs, k, t, b, rfl, (hrow k ?_).1⟩
   have h1 : Value.int k t ∈ en.map (·.key) := List.mem_map.mpr ⟨_, he, rfl⟩
   rw [hk1] at h1
   obtain ⟨z, hz, ez⟩ := List.mem_map.mp h1
   rw [← hk2]
   simp only [Value.int.injEq] at ez
   exact List.mem_map.mpr ⟨z, hz, ez.1⟩
  have C := (g_data w b1 b2 hpar h₀ K d os g₀ R T m i gl o dI gd nd sd pd t1 t2 t3 t4 t5 n1 h1 h2 h3 h4 h5 en nn gn es ns (tab G.sv A.s) Ds gs row (by omega) hen en' e0 hen0).2
  refine fun h RR M hs HH => C h RR M hs ?_
  walk_at "bW"
  obtain ⟨a1, a2, a, xs, gl'⟩ := x
  obtain ⟨hxs, _, hgb⟩ := hx
  simp only at hxs M' hs' hgb ⊢
  rw [hvk] at hxs
  have hxv : xs.map Vx.v = vs := by
   rw [← hk2, ← hxs, List.map_map]; rfl
  rw [vxCells_eq] at M'
  have M2 : Mm h₀ h' ((o, selfO dI) :: (k_addr% "b") :: ((R ++ ((a, dictO (vxEs xs []) (vxN xs [] 0)) :: (k_addr% "dF").reverse)) ++ T)) := by
   refine M'.perm ((List.Perm.swap _ _ _).trans (.cons _ ((List.Perm.swap _ _ _).trans (.cons _ ?_))))
   rw [← List.cons_append]
   exact ((List.perm_append_comm (l₁ := (a, dictO (vxEs xs []) (vxN xs [] 0)) :: (k_addr% "dF").reverse) (l₂ := R))).append_right T
  refine HH _ _ _ _ _ h' ⟨(a1, a2, a, (a, dictO (vxEs xs []) (vxN xs [] 0)) :: (k_addr% "dF").reverse, fun v => (row v).map Prod.fst, gl'), ⟨⟨vxL (fun _ => 0) xs, _, _, getL_head _ _ _, ?_, ?_⟩, fun v hv => (hrow v hv).2, hgb⟩, rfl, rfl, rfl, rfl, rfl⟩ M2 hs'
  ·have := vxEs_DE (w := w) xs [] (fun _ => 0) [] DE.nil (by rw [List.nil_append, hxv]; exact H.vn)
   rw [List.nil_append, hxv] at this
   exact this
  ·intro v hv
   rw [← hxv] at hv
   obtain ⟨x, hx, rfl⟩ := List.mem_map.mp hv
   refine ⟨row x.v, x.n, ?_, rfl⟩
   rw [vxL_in xs _ (by rw [hxv]; exact H.vn) hx]
   refine getL_of_mem (M2.drop1.drop1.left.right).nd ?_
   exact List.mem_cons_of_mem _ (List.mem_reverse.mpr (List.mem_map.mpr ⟨x, hx, rfl⟩))
end
section
variable (w : World) (b1 b2 : Bool) (hpar : w.params = parB w.params b1 b2) (h₀ : Heap) (K : KT.Holds h₀ 1 0 (kt1 w)) (d : Drawn) (os : OsState) (g₀ : List GenState) (R T : News) (m i : Nat) (gl : List GenState)
 (o dI gd nd sd pd : Addr) (t1 t2 t3 t4 t5 n1 : Nat) (h1 h2 h3 h4 h5 : Int) (vs : List Int) (r : Int → List Int) (E : EmbC w T nd sd pd vs r)
include hpar K E
theorem e_dataB : Ctr prog1 w h₀ d os g₀ (aroundL 330) (k_addr% "dg") (k_addr% "i") m i gl
  (exQ (k_addr% "cB") (fun x => Rz w (x.2.2.2.1 ++ T) x.2.2.1 vs x.2.2.2.2.1 ∧ RotAll vs x.2.2.2.2.1 r ∧ (GB gl → GB x.2.2.2.2.2))
  (k_addr% "bv") (fun x => (o, selfO dI) :: (k_addr% "b") :: (R ++ (x.2.2.2.1 ++ T))) (fun x => x.1) (fun x => x.2.1) (fun x => x.2.2.2.2.2)) := by
 refine (e_data w b1 b2 hpar h₀ K d os g₀ R T m i gl o dI gd nd sd pd t1 t2 t3 t4 t5 n1 h1 h2 h3 h4 h5 vs r E).mono ?_
 walk_at "bU"
 exact ⟨x, ⟨hx.1.app, hx.2⟩, rfl, by simp only [List.append_assoc], rfl, rfl, rfl⟩
end
theorem ld_w1 (w : World) (T : News) (rd : Addr) (vs : List Int) (r : Int → List Int) (E : Rz w T rd vs r) : getL T rd = some (dictO (esOf T rd) (nOf T rd)) := by
 walk_at "ag"
 exact ld_of g
theorem r_diter (w : World) (h₀ : Heap) (K : KT.Holds h₀ 1 0 (kt1 w)) (d : Drawn) (os : OsState) (g₀ : List GenState) (R T : News) (m i : Nat) (gl : List GenState) (a : Addr) (vs : List Int) (r : Int → List Int) (E : Rz w T a vs r) :
 Ctr prog1 w h₀ d os g₀ (aroundL 470) (.call (.builtin "dict.__iter__") ⟨[.ref a], []⟩) (R ++ T) m i gl (oneQ (.ref m) ((m, keyIt a 0 (esOf T a).length (nOf T a)) :: (R ++ T)) (m + 1) i gl) :=
 q_diter w h₀ K d os g₀ R T m i gl a _ _ (ld_w1 w T a vs r E)
section
variable (w : World) (b1 : Bool) (hpar : w.params = parB w.params b1 false) (h₀ : Heap) (K : KT.Holds h₀ 1 0 (kt1 w)) (d : Drawn) (os : OsState) (g₀ : List GenState) (R T : News) (m i : Nat) (gl : List GenState)
 (o dI gd nd sd pd : Addr) (t1 t2 t3 t4 t5 n1 : Nat) (h1 h2 h3 h4 h5 : Int) (vs : List Int) (r : Int → List Int) (E : EmbC w T nd sd pd vs r)
include hpar K E
theorem sh_start : Ctr prog1 w h₀ d os g₀ (aroundL 320) (.call (.ref 906) ⟨[.ref o], []⟩) (k_addr% "i") m i gl (fun _ _ _ _ _ => True) ∨ True := by
 run_tac Mine.probeCode `Mine.shLoop ([``e_dataB, ``r_diter]) "compLoop"
 exact Or.inr trivial
end
section
variable (w : World) (b1 b2 : Bool) (hpar : w.params = parB w.params b1 b2) (h₀ : Heap) (K : KT.Holds h₀ 1 0 (kt1 w)) (d : Drawn) (os : OsState) (g₀ : List GenState) (T : News)
 (rd : Addr) (er : List DictEntry) (nr : Nat) (gr : getL T rd = some (dictO er nr)) (vs : List Int) (L : Int → Addr) (r : Int → List Int) (Dr : DE prog1 w (tab vs L) er) (hL : Lz T L vs r)
 (hvs : vs.length ≤ 100) (hr : ∀ v ∈ vs, (r v).length ≤ 100)
 (I ac : Addr) (mf : Nat) (xx : Nat × Nat × Addr × News × (Int → List Int) × List GenState) (a3 : Int) (c3 : Tok) (nf : Nat)
include hpar K gr Dr hL hvs hr
theorem sh_loop : ∀ (q j : Nat) (R Ts : News) (m i : Nat) (gl : List GenState) (v : Int) (tv : Tok) (eb : List DictEntry) (nb : Nat) (L0 : Int → Addr), j + q = vs.length → DE prog1 w (tab (vs.take j) L0) eb → Lz Ts L0 (vs.take j) (fun v => turnI (r v)) →
 Ctr prog1 w h₀ d os g₀ (aroundL 346) (shLoop (.ref I) (.ref ac) mf xx)
  ((I, keyIt rd j er.length nr) :: (xx.1 + 1 + 1, dictO [⟨a3, .str "v" c3, .int v tv⟩] nf) :: (ac, dictO eb nb) :: (mf + 1, cellO (.ref rd)) :: ((R ++ Ts) ++ T)) m i gl
  (exQ (k_addr% "bc") (k_addr% "w")
  (fun _ => .ok .next) (k_addr% "cj") (fun x => x.1) (fun x => x.2.1) (fun x => gl)) := by
 walk_at "B"
 obtain ⟨ks, hk1, hk2⟩ := keys_of Dr
 walk_at "cv"
 have ndv : vs.Nodup := by have := Dr.nd; rwa [tab_keys] at this
 intro q
 induction q with
 | zero =>
   walk_at "df"
   have he := keyIt_end er j (by omega)
   walk_at "do"
   rw [ht] at Db hL0
   walk_at "d"
   walk_at "aK"
   walk_at "fg"
 | succ q ih =>
   walk_at "df"
   walk_at "aS"
   walk_at "aB"
   walk_at "bo"
   have hz : (tab (vs.take j) L0).length ≤ 500 := by simp [tab]; omega
   have IH := fun l R Ts m i gl v tv Lz' => ih (j + 1) R ((l, listO (ivs (turnP pk)) 0) :: Ts) m i gl v tv (storeE eb k t (.ref l)) (storeN eb k nb) (upd L0 k l) (by omega) (by
    walk_at "eB"
    exact Db.store k t (.ref l)) Lz'
   have LN := fun l hl => dc_new Ts L0 (vs.take j) r k pk ek l hkn hL0 hl
   rw [← ht] at LN
   walk_at "d"
   clear hk1 hk2 hrf ndv hj hL ih hkm hkn ht hL0 hr hvs hlen
   walk_at "bb"
   run_tac Mine.walk [``t_any] [] { fuel := 3 }
   intro x hx h D
   have zz := fun hh => cut_setP (hh := hh) (n := 0) (c := shLoop (.ref I) (.ref ac) mf xx) (kt := kt1 w) (R₀ := RR) (vs := [.int k t, .ref x.1]) (k := k) (tk := t) (v := .ref x.1) (a := ac) (es := eb) (nn := nb) (c' := shLoop (.ref I) (.ref ac) mf xx) (m := x.2.1) (i := x.2.2) (gl := gl)
    (R := (x.1, listO (ivs (turnP pk)) 0) :: (I, keyIt rd (j + 1) er.length nr) :: (xx.1 + 1 + 1, dictO [⟨a3, .str "v" c3, .int k t⟩] nf) :: (mf + 1, cellO (.ref rd)) :: ((R ++ Ts) ++ T)) Db hz rfl
    (Q := exQ (k_addr% "bc") (k_addr% "w")
    (fun _ => .ok .next) (k_addr% "cj") (fun x => x.1) (fun x => x.2.1) (fun x => gl))
     (fun h R' M hs H => by
      have fr := dc_fresh (M.drop1) (getL_mid3 _ _ _ R Ts T)
      have M2 := M.choose [2, 3, 0, 4, 1] 5 rfl
      exact IH x.1 R Ts _ _ _ k t (LN _ fr) h R' (M2.perm (k_addr% "cU")) hs H) (by
      walk_at "aq"
      walk_at "ao") h ⟨D.mm.choose [3, 0, 1, 2, 4] 5 rfl, D.size⟩
   run_tac Mine.closeCut `zz
end
noncomputable abbrev shStart (it acc : Value) (mf : Nat) (xx : Nat × Nat × Addr × News × (Int → List Int) × List GenState) : Code := match shLoop it acc mf xx with
 | .compLoop e d it acc env => .compStart e d it acc env
 | c => c
section
variable (w : World) (b1 b2 : Bool) (hpar : w.params = parB w.params b1 b2) (h₀ : Heap) (K : KT.Holds h₀ 1 0 (kt1 w)) (d : Drawn) (os : OsState) (g₀ : List GenState) (T : News)
 (rd : Addr) (er : List DictEntry) (nr : Nat) (gr : getL T rd = some (dictO er nr)) (vs : List Int) (L : Int → Addr) (r : Int → List Int) (Dr : DE prog1 w (tab vs L) er) (hL : Lz T L vs r)
 (hvs : vs.length ≤ 100) (hr : ∀ v ∈ vs, (r v).length ≤ 100)
 (I ac : Addr) (mf : Nat) (xx : Nat × Nat × Addr × News × (Int → List Int) × List GenState) (R : News) (m i : Nat) (gl : List GenState) (nf : Nat)
include hpar K gr Dr hL hvs hr
theorem sh_start1 (h1v : 1 ≤ vs.length) :
 Ctr prog1 w h₀ d os g₀ (aroundL 346) (shStart (.ref I) (.ref ac) mf xx)
  (k_addr% "eG") m i gl
  (exQ (k_addr% "ac") (k_addr% "w")
  (fun _ => .ok .next) (k_addr% "S") (fun x => x.1) (fun x => x.2.1) (fun x => gl)) := by
 walk_at "B"
 walk_at "ch"
 walk_at "aB"
 walk_at "bo"
 have D0 : DE prog1 w (tab (vs.take 0) L) [] := DE.nil
 have L00 : Lz ([] : News) L (vs.take 0) (fun v => turnI (r v)) := fun v hv => by simp at hv
 have IH := fun a3 c3 nf l R m i gl v tv Lz' => sh_loop w b1 b2 hpar h₀ K d os g₀ T rd er nr gr vs L r Dr hL hvs hr I ac mf xx a3 c3 nf (vs.length - 1) 1 R [(l, listO (ivs (turnP pk)) 0)] m i gl v tv (storeE [] k t (.ref l)) (storeN [] k 0) (upd L k l) (by omega) (by
   walk_at "eL"
   exact D0.store k t (.ref l)) Lz'
 have LN := fun l hl => dc_new [] L (vs.take 0) r k pk ek l hkn L00 hl
 rw [← ht] at LN
 walk_at "fh"
 have Dn : DE prog1 w [] [] := DE.nil
 clear hkm hkn ht hL hr hvs hlen L00 D0 h1v
 cases b2
 all_goals
  walk_at "d"
  walk_at "bb"
  run_tac Mine.walk [``t_any] [] { fuel := 3 }
  intro x hx h D
  have zz := fun hh => cut_setP (hh := hh) (n := 0) (c := shLoop (.ref I) (.ref ac) mf xx) (kt := kt1 w) (R₀ := RR) (vs := [.int k t, .ref x.1]) (k := k) (tk := t) (v := .ref x.1) (a := ac) (es := []) (nn := 0) (c' := shLoop (.ref I) (.ref ac) mf xx) (m := x.2.1) (i := x.2.2) (gl := gl)
   (R := (x.1, listO (ivs (turnP pk)) 0) :: (I, keyIt rd (0 + 1) er.length nr) :: (xx.1 + 1 + 1, dictO [⟨_, .str "v" _, .int k t⟩] _) :: (mf + 1, cellO (.ref rd)) :: (R ++ T)) Dn hz rfl
   (Q := exQ (k_addr% "ac") (k_addr% "w")
   (fun _ => .ok .next) (k_addr% "S") (fun x => x.1) (fun x => x.2.1) (fun x => gl))
    (fun h R' M hs H => by
     have M2 := M.choose [2, 3, 0, 4, 1] 5 rfl
     walk_at "eT"
     ·have := (perm_in (x.1, listO (ivs (turnP pk)) 0) R [] T).symm
      rwa [List.append_nil] at this
     ·walk_at "bX"
      walk_at "X") (by
     walk_at "aq"
     walk_at "ao") h ⟨D.mm.choose [3, 0, 1, 2, 4] 5 rfl, D.size⟩
  run_tac Mine.closeCut `zz
theorem sh_start0 (h1v : vs.length = 0) :
 Ctr prog1 w h₀ d os g₀ (aroundL 346) (shStart (.ref I) (.ref ac) mf xx)
  (k_addr% "eG") m i gl
  (k_addr% "ca") := by
 walk_at "B"
 have he := keyIt_end er 0 (by omega)
 cases b2
 all_goals
  walk_at "d"
  walk_at "aK"
  walk_at "cL"
end
theorem foldl_min_le : ∀ (qs : List Int) (p : Int), ∀ z ∈ p :: qs, qs.foldl min p ≤ z
 | [], p, z, hz => by
   rw [List.mem_singleton.mp hz]; exact Int.le_refl _
 | q :: qs, p, z, hz => by
   have ih := foldl_min_le qs (min p q)
   rw [List.foldl_cons]
   rcases List.mem_cons.mp hz with rfl | hz
   ·exact Int.le_trans (ih _ (.head _)) (Int.min_le_left _ _)
   ·rcases List.mem_cons.mp hz with rfl | hz
    ·exact Int.le_trans (ih _ (.head _)) (Int.min_le_right _ _)
    ·exact ih z (.tail _ hz)
theorem foldl_min_mem : ∀ (qs : List Int) (p : Int), qs.foldl min p ∈ p :: qs
 | [], p => .head _
 | q :: qs, p => by
   rw [List.foldl_cons]
   rcases List.mem_cons.mp (foldl_min_mem qs (min p q)) with h | h
   ·rw [h]
    rcases Int.le_total p q with h' | h'
    ·rw [Int.min_eq_left h']; exact .head _
    ·rw [Int.min_eq_right h']; exact .tail _ (.head _)
   ·exact .tail _ (.tail _ h)
theorem idxOf_split {A B : List Int} {m : Int} (hA : m ∉ A) : (A ++ m :: B).idxOf m = A.length := by
 rw [List.idxOf_append, if_neg hA, List.idxOf_cons]
 simp
theorem turnI_split {A B : List Int} {m : Int} (hm : ∀ z ∈ A ++ m :: B, m ≤ z) (hA : m ∉ A) : turnI (A ++ m :: B) = m :: B ++ A := by
 obtain ⟨p, qs, e⟩ : ∃ p qs, A ++ m :: B = p :: qs := by cases A <;> exact ⟨_, _, rfl⟩
 have hmin : qs.foldl min p = m := by
  have h1 := foldl_min_le qs p m (by rw [← e]; simp)
  have h2 := hm _ (by rw [e]; exact foldl_min_mem qs p)
  omega
 rw [e]
 show (p :: qs).drop ((p :: qs).idxOf (qs.foldl min p)) ++ (p :: qs).take ((p :: qs).idxOf (qs.foldl min p)) = _
 rw [hmin, ← e, idxOf_split hA, List.drop_left, List.take_left]
theorem turnI_rot {A B : List Int} (nd : (A ++ B).Nodup) : turnI (A ++ B) = turnI (B ++ A) := by
 rcases hl : A ++ B with _ | ⟨p, qs⟩
 ·have : A = [] ∧ B = [] := by simpa using hl
  rw [this.1, this.2]; rfl
 ·rw [← hl]
  have hmem : qs.foldl min p ∈ A ++ B := by rw [hl]; exact foldl_min_mem qs p
  have hle : ∀ z ∈ A ++ B, qs.foldl min p ≤ z := fun z hz => foldl_min_le qs p z (by rw [← hl]; exact hz)
  generalize qs.foldl min p = m at hmem hle
  have hle' : ∀ z ∈ B ++ A, m ≤ z := fun z hz => hle z ((List.perm_append_comm (l₁ := B) (l₂ := A)).mem_iff.mp hz)
  have nd' : (B ++ A).Nodup := (List.perm_append_comm (l₁ := A) (l₂ := B)).nodup_iff.mp nd
  rcases List.mem_append.mp hmem with h | h
  ·obtain ⟨A1, A2, rfl⟩ := List.append_of_mem h
   have h1 : (A1 ++ m :: A2) ++ B = A1 ++ m :: (A2 ++ B) := by simp
   have h2 : B ++ (A1 ++ m :: A2) = (B ++ A1) ++ m :: A2 := by simp
   have k1 : m ∉ A1 := by
    intro q
    rw [h1, List.nodup_append] at nd
    exact nd.2.2 m q m (by simp) rfl
   have k2 : m ∉ B ++ A1 := by
    intro q
    rw [h2, List.nodup_append] at nd'
    exact nd'.2.2 m q m (by simp) rfl
   rw [h1] at hle ⊢
   rw [h2] at hle' ⊢
   rw [turnI_split hle k1, turnI_split hle' k2]
   simp
  ·obtain ⟨B1, B2, rfl⟩ := List.append_of_mem h
   have h1 : A ++ (B1 ++ m :: B2) = (A ++ B1) ++ m :: B2 := by simp
   have h2 : (B1 ++ m :: B2) ++ A = B1 ++ m :: (B2 ++ A) := by simp
   have k1 : m ∉ A ++ B1 := by
    intro q
    rw [h1, List.nodup_append] at nd
    exact nd.2.2 m q m (by simp) rfl
   have k2 : m ∉ B1 := by
    intro q
    rw [h2, List.nodup_append] at nd'
    exact nd'.2.2 m q m (by simp) rfl
   rw [h1] at hle ⊢
   rw [h2] at hle' ⊢
   rw [turnI_split hle k1, turnI_split hle' k2]
   simp
theorem Rz.pack {w : World} {T : News} {rd : Addr} {vs : List Int} {L : Int → Addr} {es : List DictEntry} {n : Nat} {r : Int → List Int} (g : getL T rd = some (dictO es n)) (D : DE prog1 w (tab vs L) es) (l : Lz T L vs r) : Rz w T rd vs r := ⟨L, es, n, g, D, l⟩
theorem Rz.len {w : World} {T : News} {rd : Addr} {vs : List Int} {r : Int → List Int} (E : Rz w T rd vs r) : vs.Nodup := by
 walk_at "ag"
 have := D.nd
 rwa [tab_keys] at this
section
variable (w : World) (b1 b2 : Bool) (hpar : w.params = parB w.params b1 b2) (h₀ : Heap) (K : KT.Holds h₀ 1 0 (kt1 w)) (d : Drawn) (os : OsState) (g₀ : List GenState) (R T : News) (m i : Nat) (gl : List GenState)
 (rd : Addr) (vs : List Int) (r : Int → List Int) (E : Rz w T rd vs r) (hvs : vs.length ≤ 100) (hr : ∀ v ∈ vs, (r v).length ≤ 100)
include hpar K E hvs hr
theorem pl_all : Ctr prog1 w h₀ d os g₀ (aroundL 340) (.call (.ref 911) ⟨[.ref rd], []⟩) (R ++ T) m i gl
  (exQ (Nat × Nat × Addr × News) (fun x => Rz w x.2.2.2 x.2.2.1 vs (fun v => turnI (r v))) (k_addr% "bv") (fun x => (R ++ x.2.2.2) ++ T) (fun x => x.1) (fun x => x.2.1) (fun x => gl)) := by
 obtain ⟨L, er, nr, gr, Dr, hL⟩ := E
 rcases Nat.eq_zero_or_pos vs.length with h0 | h1
 ·have C := fun I ac p R m i gl nf => pl_start0 w b1 b2 hpar h₀ K d os g₀ T rd er nr gr vs L r Dr hL hvs hr I ac p R m i gl nf h0
  have he : vs = [] := List.length_eq_zero_iff.mp h0
  clear hr hvs
  walk_at "d"
  run_tac Mine.walk ([``q_diter] ++ Mine.dictNames) [`C]
  intro x h D
  have M := D.mm.choose [1] 3 rfl
  refine hR 0 _ _ _ _ _ ⟨(x.1, x.2, m + 1 + 1 + 1, [(m + 1 + 1 + 1, dictO [] 0)]), Rz.pack (L := L) (getL_head _ _ _) (by rw [he]; exact DE.nil) (fun v hv => by rw [he] at hv; cases hv), rfl, rfl, rfl, rfl, rfl⟩ h ⟨M.perm ?_, D.size⟩
  have := (perm_in (m + 1 + 1 + 1, dictO [] 0) R [] T).symm
  rwa [List.append_nil] at this
 ·have C := fun I ac p R m i gl nf => pl_start1 w b1 b2 hpar h₀ K d os g₀ T rd er nr gr vs L r Dr hL hvs hr I ac p R m i gl nf h1
  clear hr hvs
  walk_at "d"
  run_tac Mine.walk ([``q_diter] ++ Mine.dictNames) [`C]
  intro x hx h D
  have M := D.mm.choose [1] 3 rfl
  have fr := dc_fresh M (Ts := x.2.2.2.2.1) (fun p hp => by simp [hp])
  exact hR 0 _ _ _ _ _ ⟨(x.1, x.2.1, m + 1 + 1 + 1, (m + 1 + 1 + 1, dictO x.2.2.2.2.2.2.1 x.2.2.2.2.2.2.2.1) :: x.2.2.2.2.1), Rz.pack (getL_head _ _ _) hx.1 (hx.2.skip fr), rfl, rfl, rfl, rfl, rfl⟩ h ⟨M.perm (perm_in _ R _ T).symm, D.size⟩
end
theorem EmbC.small {w : World} {T : News} {nd sd pd : Addr} {vs : List Int} {r : Int → List Int} (E : EmbC w T nd sd pd vs r) : vs.length ≤ 100 ∧ ∀ v ∈ vs, (r v).length ≤ 100 ∧ (r v).Nodup := by
 obtain ⟨A, G, E, H⟩ := E
 refine ⟨nodup_le H.vn H.vo, fun v hv => ⟨nodup_le (H.nd v hv) (fun u hu => H.vo u (H.rv v hv u hu)), H.nd v hv⟩⟩
theorem RotAll.len {vs : List Int} {f r : Int → List Int} (h : RotAll vs f r) {v : Int} (hv : v ∈ vs) : (f v).length = (r v).length := by
 obtain ⟨A, B, e1, e2⟩ := h v hv
 rw [e1, e2, List.length_append, List.length_append, Nat.add_comm]
theorem RotAll.turn {vs : List Int} {f r : Int → List Int} (h : RotAll vs f r) (nd : ∀ v ∈ vs, (r v).Nodup) {v : Int} (hv : v ∈ vs) : turnI (f v) = turnI (r v) := by
 obtain ⟨A, B, e1, e2⟩ := h v hv
 rw [e1, e2]
 have := nd v hv
 rw [e2] at this
 exact (turnI_rot this).symm
theorem Lz.congr {T : News} {L : Int → Addr} {vs : List Int} {f g : Int → List Int} (h : Lz T L vs f) (e : ∀ v ∈ vs, f v = g v) : Lz T L vs g := fun v hv => by
 obtain ⟨ps, n, q, z⟩ := h v hv
 exact ⟨ps, n, q, z.trans (e v hv)⟩
theorem Mm.drop_mid {h₀ h : Heap} {P X Td T : News} (M : Mm h₀ h (P ++ (X ++ (Td ++ T)))) : Mm h₀ h (P ++ (X ++ T)) :=
 (M.perm (((List.perm_append_comm_assoc X Td T).append_left P).trans (List.perm_append_comm_assoc P Td (X ++ T)))).right
theorem esOf_eq {T : News} {a : Addr} {es : List DictEntry} {n : Nat} (h : getL T a = some (dictO es n)) : esOf T a = es := by unfold esOf; rw [h]
theorem nOf_eq {T : News} {a : Addr} {es : List DictEntry} {n : Nat} (h : getL T a = some (dictO es n)) : nOf T a = n := by unfold nOf; rw [h]
section
variable (w : World) (b1 b2 : Bool) (hpar : w.params = parB w.params b1 b2) (h₀ : Heap) (K : KT.Holds h₀ 1 0 (kt1 w)) (d : Drawn) (os : OsState) (g₀ : List GenState) (T : News)
 (rd : Addr) (vs : List Int) (r : Int → List Int) (E : Rz w T rd vs r) (hvs : vs.length ≤ 100) (hr : ∀ v ∈ vs, (r v).length ≤ 100)
 (I ac : Addr) (mf : Nat) (xx : Nat × Nat × Addr × News × (Int → List Int) × List GenState) (R : News) (m i : Nat) (gl : List GenState) (nf : Nat)
include hpar K E hvs hr
theorem sh_z1 (h1v : 1 ≤ vs.length) :
 Ctr prog1 w h₀ d os g₀ (aroundL 346) (shStart (.ref I) (.ref ac) mf xx)
  (k_addr% "dG") m i gl
  (exQ (k_addr% "ac") (k_addr% "w")
  (fun _ => .ok .next) (k_addr% "S") (fun x => x.1) (fun x => x.2.1) (fun x => gl)) := by
 obtain ⟨L, er, nr, gr, Dr, hL⟩ := E
 rw [esOf_eq gr, nOf_eq gr]
 exact sh_start1 w b1 b2 hpar h₀ K d os g₀ T rd er nr gr vs L r Dr hL hvs hr I ac mf xx R m i gl nf h1v
theorem sh_z0 (h1v : vs.length = 0) :
 Ctr prog1 w h₀ d os g₀ (aroundL 346) (shStart (.ref I) (.ref ac) mf xx)
  (k_addr% "dG") m i gl
  (k_addr% "ca") := by
 obtain ⟨L, er, nr, gr, Dr, hL⟩ := E
 rw [esOf_eq gr, nOf_eq gr]
 exact sh_start0 w b1 b2 hpar h₀ K d os g₀ T rd er nr gr vs L r Dr hL hvs hr I ac mf xx R m i gl nf h1v
end
section
variable (w : World) (b1 b2 : Bool) (hpar : w.params = parB w.params b1 b2) (h₀ : Heap) (K : KT.Holds h₀ 1 0 (kt1 w)) (d : Drawn) (os : OsState) (g₀ : List GenState) (R T : News) (m i : Nat) (gl : List GenState)
 (o dI gd nd sd pd : Addr) (t1 t2 t3 t4 t5 n1 : Nat) (h1 h2 h3 h4 h5 : Int) (vs : List Int) (r : Int → List Int) (E : EmbC w T nd sd pd vs r)
include hpar K E
theorem sh_all : Ctr prog1 w h₀ d os g₀ (aroundL 320) (.call (.ref 906) ⟨[.ref o], []⟩) (k_addr% "i") m i gl
  (exQ (Nat × Nat × Addr × News × List GenState) (fun x => Rz w x.2.2.2.1 x.2.2.1 vs (fun v => turnI (r v)) ∧ (GB gl → GB x.2.2.2.2)) (k_addr% "bv") (fun x => (o, selfO dI) :: (k_addr% "b") :: ((R ++ x.2.2.2.1) ++ T)) (fun x => x.1) (fun x => x.2.1) (fun x => x.2.2.2.2)) := by
 obtain ⟨hvs, hrn⟩ := E.small
 walk_at "d"
 run_tac Mine.walk [``e_dataB, ``r_diter] [] { stops := ["compStart"] }
 intro x hx
 have h2 : ∀ v ∈ vs, (x.2.2.2.2.1 v).length ≤ 100 := fun v hv => by rw [hx.2.1.len hv]; exact (hrn v hv).1
 have hE := hx.1
 have ht : ∀ v ∈ vs, turnI (x.2.2.2.2.1 v) = turnI (r v) := fun v hv => hx.2.1.turn (fun v hv => (hrn v hv).2) hv
 rcases Nat.eq_zero_or_pos vs.length with h0 | h1
 ·have he : vs = [] := List.length_eq_zero_iff.mp h0
  run_tac Mine.walk [``sh_z0] []
  intro y h D
  have M := Mm.drop_mid (P := [_, _, _]) (D.mm.choose [3, 4, 1] 6 rfl)
  refine hR 0 _ _ _ _ _ ⟨(y.1, y.2, x.1 + 1, [(x.1 + 1, dictO [] 0)], _), ⟨Rz.pack (L := fun _ => 0) (getL_head _ _ _) (by rw [he]; exact DE.nil) (fun v hv => by rw [he] at hv; cases hv), hx.2.2⟩, rfl, rfl, rfl, rfl, rfl⟩ h ⟨M.perm (.cons _ (.cons _ ?_)), D.size⟩
  have := (perm_in (x.1 + 1, dictO [] 0) R [] T).symm
  rwa [List.append_nil] at this
 ·run_tac Mine.walk [``sh_z1] []
  intro y hy h D
  have M := Mm.drop_mid (P := [_, _, _]) (D.mm.choose [3, 4, 1] 6 rfl)
  have fr := dc_fresh (M.drop1.drop1) (Ts := y.2.2.2.2.1) (fun p hp => by simp [hp])
  exact hR 0 _ _ _ _ _ ⟨(y.1, y.2.1, x.1 + 1, (x.1 + 1, dictO y.2.2.2.2.2.2.1 y.2.2.2.2.2.2.2.1) :: y.2.2.2.2.1, _), ⟨Rz.pack (getL_head _ _ _) hy.1 ((hy.2.congr ht).skip fr), hx.2.2⟩, rfl, rfl, rfl, rfl, rfl⟩ h ⟨M.perm (.cons _ (.cons _ (perm_in _ R _ T).symm)), D.size⟩
end
end Mine
section
variable (w : PySem.World) (b1 b2 : Bool) (hpar : w.params = Mine.parB w.params b1 b2) (h₀ : PySem.Heap) (K : PySem.W.X.KT.Holds h₀ 1 0 (Mine.kt1 w)) (d : PySem.Drawn) (os : PySem.OsState) (g₀ : List PySem.GenState)
namespace Mine
open PySem PySem.Spec PySem.Calls PyProof.Rows PySem.W PySem.W.X
theorem ivs_ints : ∀ ps : List (Int × Tok), IntsAre (ivs ps) (ps.map Prod.fst)
 | [] => .nil
 | p :: ps => .cons p.1 p.2 (ivs_ints ps)
theorem hits_of {A : Around} {s : Shared} {vs : List Int} {La Lb : Int → Addr} (h : ∀ v ∈ vs, SeqAt.EqAt A s (.ref (La v)) (.ref (Lb v)) true) : ∀ us : List Int, (∀ u ∈ us, u ∈ vs) → KeqHits A s (tab vs Lb) (tab us La) true
 | [], _ => .nil
 | u :: us, hu => by
   have := KeqHits.hit (r := tab us La) (tab_in (f := Lb) (hu u (.head _))) (h u (hu u (.head _))) (hits_of h us fun z hz => hu z (.tail _ hz))
   exact this
theorem dne_meets (w : World) (a b : Addr) (ka kb : List (Int × Value)) : MeetsIn prog1 w (Builtin.«dict.__ne__» ⟨[.ref a, .ref b], []⟩)
  (fun A R s => s.heap.DictOf (intKind prog1 w) a ka ∧ s.heap.DictOf (intKind prog1 w) b kb ∧ (a == sysModules) = false ∧ (b == sysModules) = false ∧ (ka.length == kb.length) = true ∧ KeqHits A.in1 s kb ka true ∧ R (.ok (.ret (.bool false))) s) :=
 .of_wp fun A R s ⟨da, db, ha, hb, hl, hits, h⟩ => by
  show wpAny _ _ (Builtin.Dict.dictSlotArgs "__ne__" ⟨[.ref a, .ref b], []⟩ >>= _) _ _ s
  refine wpAny_bind ?_
  unfold Builtin.Dict.dictSlotArgs
  refine wpAny_bind (wpAny_notOrdered_dict da.typeIs ?_)
  show wpAny _ _ (pure (Value.ref a, Value.ref b)) _ _ s
  refine wpAny_pure ?_
  refine wpAny_bind (wpAny_isInstance (T := "dict") db.typeIs PySem.F.sub_dict_dict ?_)
  simp only [Bool.not_true, Bool.false_eq_true, if_false]
  refine wpAny_bind (wpAny_pure (wpAny_bind (wpAny_pure ?_)))
  refine wpAny_bind (keq_samePairs ha hb da db (fun _ => hits) ?_)
  rw [hl]
  exact wpAny_pure ⟨_, rfl, h⟩
theorem deq_meets (w : World) (a b : Addr) (ka kb : List (Int × Value)) : MeetsIn prog1 w (Builtin.«dict.__eq__» ⟨[.ref a, .ref b], []⟩)
  (fun A R s => s.heap.DictOf (intKind prog1 w) a ka ∧ s.heap.DictOf (intKind prog1 w) b kb ∧ (a == sysModules) = false ∧ (b == sysModules) = false ∧ (ka.length == kb.length) = true ∧ KeqHits A.in1 s kb ka true ∧ R (.ok (.ret (.bool true))) s) :=
 .of_wp fun A R s ⟨da, db, ha, hb, hl, hits, h⟩ => by
  show wpAny _ _ (Builtin.Dict.dictSlotArgs "__eq__" ⟨[.ref a, .ref b], []⟩ >>= _) _ _ s
  refine wpAny_bind ?_
  unfold Builtin.Dict.dictSlotArgs
  refine wpAny_bind (wpAny_notOrdered_dict da.typeIs ?_)
  show wpAny _ _ (pure (Value.ref a, Value.ref b)) _ _ s
  refine wpAny_pure ?_
  refine wpAny_bind (wpAny_isInstance (T := "dict") db.typeIs PySem.F.sub_dict_dict ?_)
  simp only [Bool.not_true, Bool.false_eq_true, if_false]
  refine wpAny_bind (wpAny_pure (wpAny_bind (wpAny_pure ?_)))
  refine wpAny_bind (keq_samePairs ha hb da db (fun _ => hits) ?_)
  rw [hl]
  exact wpAny_pure ⟨_, rfl, h⟩
theorem Mm.notSys {h₀ h : Heap} {N : News} {kt : KT} (K : KT.Holds h₀ 1 0 kt) {so : Obj} (hk : kt.get sysModules = some so) (M : Mm h₀ h N) {a : Addr} {o : Obj} (hm : (a, o) ∈ N) : (a == sysModules) = false := by
 have z := KT.Holds.get K hk
 rw [Nat.one_mul, Nat.add_zero] at z
 have := (M.nw _ hm).2
 cases q : (a == sysModules) with
 | false => rfl
 | true =>
   rw [show a = sysModules from eq_of_beq q, z] at this
   cases this
section
variable (Ta Tb R : News) (m i : Nat) (gl : List GenState) (a b : Addr) (vs : List Int) (f : Int → List Int)
section
variable (La Lb : Int → Addr) (ea eb : List DictEntry) (na nb : Nat) (ga : getL Ta a = some (dictO ea na)) (gb : getL Tb b = some (dictO eb nb)) (Da : DE prog1 w (tab vs La) ea) (Db : DE prog1 w (tab vs Lb) eb) (la : Lz Ta La vs f) (lb : Lz Tb Lb vs f)
include K ga gb Da Db la lb
end
variable (Ea : Rz w Ta a vs f) (Eb : Rz w Tb b vs f)
include K Ea Eb
end
section
variable (R T : News) (m i : Nat) (gl : List GenState) (a b : Addr) (vs : List Int) (f : Int → List Int) (Ea : Rz w T a vs f) (Eb : Rz w T b vs f)
include K Ea Eb
theorem dcmp_T : ∃ La Lb, ∀ {h : Heap} (M : Mm h₀ h (R ++ T)), h.DictOf (intKind prog1 w) a (tab vs La) ∧ h.DictOf (intKind prog1 w) b (tab vs Lb) ∧ (a == sysModules) = false ∧ (b == sysModules) = false ∧
  KeqHits (aroundL 460).in1 ⟨h, ⟨gcat g₀ gl⟩, d, i, os⟩ (tab vs Lb) (tab vs La) true := by
 obtain ⟨La, ea, na, ga, Da, la⟩ := Ea
 obtain ⟨Lb, eb, nb, gb, Db, lb⟩ := Eb
 refine ⟨La, Lb, fun {h} M => ?_⟩
 have ma : ∀ {x o}, getL T x = some o → (x, o) ∈ R ++ T := fun g => List.mem_append.mpr (.inr (getL_mem g))
 refine ⟨Da.dictOf (M.nw _ (ma ga)).1, Db.dictOf (M.nw _ (ma gb)).1, M.notSys K rfl (ma ga), M.notSys K rfl (ma gb), hits_of (fun v hv => ?_) vs fun _ h => h⟩
 obtain ⟨pa, n1, q1, e1⟩ := la v hv
 obtain ⟨pb, n2, q2, e2⟩ := lb v hv
 walk_at "aO"
 rw [e1, e2, decide_eq_true rfl] at x
 exact x
theorem c_dneT : Ctr prog1 w h₀ d os g₀ (aroundL 460) (.call (.builtin "dict.__ne__") ⟨[.ref a, .ref b], []⟩) (R ++ T) m i gl (oneQ (.bool false) (R ++ T) m i gl) := by
 obtain ⟨La, Lb, FF⟩ := dcmp_T w h₀ K d os g₀ R T i gl a b vs f Ea Eb
 refine Ctr.meets PySem.F.slot_dict_ne PySem.F.entry_dict_ne (PySem.F.args_dict_ne_2 _ _) (dne_meets w a b (tab vs La) (tab vs Lb)) (fun h M => (FF M).1.typeIs) fun h RR M hs H => ?_
 obtain ⟨h1, h2, h3, h4, h5⟩ := FF M
 exact ⟨h1, h2, h3, h4, by simp [tab], h5, H _ _ _ _ _ _ ⟨rfl, rfl, rfl, rfl, rfl⟩ M hs⟩
end
theorem rm_subF {V : XV} {g₀ : List GenState} {n n' : Nat} {c : Code} {md : Option (List Frame)} {κ : Kont} {t : Sem PySem.Fin} {news news' : News} {m i : Nat} {gl : List GenState} {P : Prop} (hs : ∀ h, Mm V.h₀ h news → Mm V.h₀ h news' ∧ P)
  (x : P → RM V g₀ n' c md κ t news' m i gl) : RM V g₀ n c md κ t news m i gl := fun h D => x (hs h D.mm).2 h ⟨(hs h D.mm).1, D.size⟩
theorem rm_againB {V : XV} {g₀ : List GenState} {n : Nat} {c c' : Code} {news : News} {m i : Nat} {gl : List GenState} {Q : Post} (C : Ctr V.prog V.w V.h₀ V.d V.os g₀ V.A₀ c' news m i gl Q) (hq : c'.quiet = true)
  (x : ∀ r news' m' i' gl', Q r news' m' i' gl' → RE V g₀ 0 r news' m' i' gl') : RM V g₀ n c none .base (.pure (.again c')) news m i gl :=
 fun h D => mg_again hq (C h _ D.mm D.size (fun r news' m' i' gl' h' q M hs => ⟨fun _ => x r news' m' i' gl' q h' ⟨M, hs⟩, fun _ => x r news' m' i' gl' q h' ⟨M, hs⟩⟩))
theorem getL_appN {T T' : News} {a : Addr} {r : Option Obj} (hn : ∀ p ∈ T, p.1 ≠ a) (h : getL T' a = r) : getL (T ++ T') a = r := by
 induction T with
 | nil => exact h
 | cons p T ih =>
   rw [List.cons_append]
   unfold getL
   rw [if_neg (hn p (.head _))]
   exact ih fun q hq => hn q (.tail _ hq)
theorem Rz.appN {w : World} {T T' : News} {rd : Addr} {vs : List Int} {r : Int → List Int} (nd : ((T ++ T').map Prod.fst).Nodup) (h : Rz w T' rd vs r) : Rz w (T ++ T') rd vs r := by
 rw [List.map_append, List.nodup_append] at nd
 have ne : ∀ {a o}, getL T' a = some o → ∀ p ∈ T, p.1 ≠ a := fun g p hp => nd.2.2 p.1 (List.mem_map_of_mem (f := Prod.fst) hp) _ (by have := List.mem_map_of_mem (f := Prod.fst) (getL_mem g); exact this)
 obtain ⟨L, er, nr, g, D, l⟩ := h
 refine ⟨L, er, nr, getL_appN (ne g) g, D, fun v hv => ?_⟩
 obtain ⟨ps, n, q, e⟩ := l v hv
 exact ⟨ps, n, getL_appN (ne q) q, e⟩
end Mine
namespace Mine
open Lean Meta Elab Tactic PySem PySem.W PySem.W.X
def byKernel (nm : Name) : TacticM Unit := do
 let g ← getMainGoal
 g.withContext do
  let some d := (← getLCtx).findFromUserName? nm | throwError "no {nm}"
  g.assign d.toExpr
  replaceMainGoal (← getGoals).tail
end Mine
namespace Mine
open PySem PySem.Spec PySem.Calls PyProof.Rows PySem.W PySem.W.X
def lsOf (T : News) (a : Addr) : List Value := match getL T a with
 | some ⟨_, _, .seq vs _, _⟩ => vs.toList
 | _ => []
def lnOf (T : News) (a : Addr) : Nat := match getL T a with
 | some ⟨_, _, .seq _ n, _⟩ => n
 | _ => 0
theorem ldl_of {T : News} {a : Addr} {xs : List Value} {n : Nat} (h : getL T a = some (listO xs n)) : getL T a = some (listO (lsOf T a) (lnOf T a)) := by
 unfold lsOf lnOf
 rw [h]
def Lrow (T : News) (l : Addr) (row : List Int) : Prop := ∃ ps n, getL T l = some (listO (ivs ps) n) ∧ ps.map Prod.fst = row
theorem ld_w2 (T : News) (l : Addr) (row : List Int) (h : Lrow T l row) : getL T l = some (listO (lsOf T l) (lnOf T l)) := by
 obtain ⟨ps, n, g, e⟩ := h
 exact ldl_of g
theorem ld_w3 (w : World) (T Te : News) (rd : Addr) (vs : List Int) (r : Int → List Int) (E : Rz w T rd vs r) : getL (T ++ Te) rd = some (dictO (esOf T rd) (nOf T rd)) := getL_app (ld_w1 w T rd vs r E)
theorem ld_w4 (T Te : News) (l : Addr) (row : List Int) (h : Lrow T l row) : getL (T ++ Te) l = some (listO (lsOf T l) (lnOf T l)) := getL_app (ld_w2 T l row h)
theorem Lz.row {T : News} {L : Int → Addr} {vs : List Int} {r : Int → List Int} (h : Lz T L vs r) {v : Int} (hv : v ∈ vs) : Lrow T (L v) (r v) := h v hv
structure RowsOk (vs : List Int) (r : Int → List Int) : Prop where
 vo : ∀ v ∈ vs, Uo v
 out : ∀ v, v ∉ vs → r v = []
 nd : ∀ v ∈ vs, (r v).Nodup
 ro : ∀ v ∈ vs, ∀ u ∈ r v, Uo u
theorem RowsOk.len {vs : List Int} {r : Int → List Int} (h : RowsOk vs r) {v : Int} (hv : v ∈ vs) : (r v).length ≤ 100 := nodup_le (h.nd v hv) (h.ro v hv)
section
variable (R T Te : News) (m i : Nat) (gl : List GenState) (rd : Addr) (vs : List Int) (r : Int → List Int) (E : Rz w T rd vs r) (v : Int) (t : Tok)
include K E
theorem r_get1 (dflt : Value) (hv : v ∈ vs) : Ctr prog1 w h₀ d os g₀ (aroundL 480) (k_addr% "cK") (R ++ (T ++ Te)) m i gl
  (k_addr% "bk") := by
 walk_at "ag"
 refine (q_get2_some w h₀ K d os g₀ _ rd er nr R (T ++ Te) m i gl v t _ (getL_app g) D dflt _ (tab_in hv)).mono ?_
 walk_at "af"
 exact ⟨L v, l.row hv, rfl, rfl, rfl, rfl, rfl⟩
theorem r_get0 (dflt : Value) (hv : v ∉ vs) : Ctr prog1 w h₀ d os g₀ (aroundL 480) (k_addr% "cK") (R ++ (T ++ Te)) m i gl (oneQ dflt (R ++ (T ++ Te)) m (i + 1) gl) := by
 walk_at "ag"
 exact q_get2_none w h₀ K d os g₀ _ rd er nr R (T ++ Te) m i gl v t _ (getL_app g) D dflt (tab_out hv)
theorem rz_has (hv : v ∈ vs) : Ctr prog1 w h₀ d os g₀ (aroundL 480) (k_addr% "ew") (R ++ (T ++ Te)) m i gl (oneQ (.bool true) (R ++ (T ++ Te)) m (i + 1) gl) := by
 walk_at "ag"
 exact q_has w h₀ K d os g₀ _ rd er nr R (T ++ Te) m i gl v t _ (getL_app g) D _ (tab_in hv)
theorem rz_has0 (hv : v ∉ vs) : Ctr prog1 w h₀ d os g₀ (aroundL 480) (k_addr% "ew") (R ++ (T ++ Te)) m i gl (oneQ (.bool false) (R ++ (T ++ Te)) m (i + 1) gl) := by
 walk_at "ag"
 exact q_hasnt w h₀ K d os g₀ _ rd er nr R (T ++ Te) m i gl v t _ (getL_app g) D (tab_out hv)
omit K
theorem r_item (hv : v ∈ vs) : Ctr prog1 w h₀ d os g₀ (aroundL 480) (.call (k_addr% "aL") ⟨[.ref rd, .int v t], []⟩) (R ++ (T ++ Te)) m i gl
  (k_addr% "bk") := by
 walk_at "ag"
 refine (q_getitem w h₀ d os g₀ _ rd er nr R (T ++ Te) m i gl v t _ (getL_app g) D _ (tab_in hv)).mono ?_
 walk_at "af"
 exact ⟨L v, l.row hv, rfl, rfl, rfl, rfl, rfl⟩
theorem r_set (x : Addr) (ps : List (Int × Tok)) (n : Nat) (hv : v ∈ vs) (hz : vs.length ≤ 100) : Ctr prog1 w h₀ d os g₀ (aroundL 480) (.call (k_addr% "aA") ⟨[.ref rd, .int v t, .ref x], []⟩) ((x, listO (ivs ps) n) :: (R ++ (T ++ Te))) m i gl
  (exQ News (fun T' => Rz w T' rd vs (upd r v (ps.map Prod.fst))) (k_addr% "s") (fun T' => R ++ (T' ++ Te)) (fun _ => m) (fun _ => i + 1) (fun _ => gl)) := by
 walk_at "ag"
 intro h RR M hs H
 walk_at "cR"
 have hz' : (tab vs L).length ≤ sizeLine := l100 (by simpa [tab] using hz)
 have ndv : vs.Nodup := by have := D.nd; rwa [tab_keys] at this
 refine q_setitem w h₀ d os g₀ _ rd er nr ((x, listO (ivs ps) n) :: R) (T ++ Te) m i gl v t _ (getL_app g) D (.ref x) hz' h RR M hs ?_
 walk_at "aj"
 rw [putL_app g] at M'
 refine H _ _ _ _ _ h' ⟨(x, listO (ivs ps) n) :: putL T rd (k_addr% "eJ"), ⟨upd L v x, _, _, getL_skip (fr _ _ g) (getL_put_self g), ?_, ?_⟩, rfl, rfl, rfl, rfl, rfl⟩ (by
  walk_at "eU"
  exact this) hs'
 ·have := D.store v t (.ref x)
  have e : stored (tab vs L) v (.ref x) = tab vs (upd L v x) := by
   unfold stored
   rw [if_pos (by rw [List.any_eq_true]; exact ⟨(v, .ref (L v)), List.mem_map.mpr ⟨v, hv, rfl⟩, by simp⟩)]
   unfold tab
   rw [List.map_map]
   refine List.map_congr_left fun z hz => ?_
   show (if z = v then (z, Value.ref x) else (z, .ref (L z))) = (z, .ref (upd L v x z))
   unfold upd
   split <;> rfl
  rwa [e] at this
 ·intro z hz
  walk_at "fc"
  ·rw [upd_self, upd_self]
   exact ⟨ps, n, getL_head _ _ _, rfl⟩
  ·rw [upd_ne _ _ h, upd_ne _ _ h]
   obtain ⟨pz, nz, gz, ez⟩ := l z hz
   refine ⟨pz, nz, getL_skip (fr _ _ gz) (getL_put_ne (fun e => ?_) gz), ez⟩
   rw [e, gz] at g
   simp at g
end
section
variable (A : Around) (R T Te : News) (m i : Nat) (gl : List GenState) (l : Addr) (row : List Int) (E : Lrow T l row) (x : Int) (tx : Tok)
include E
theorem r_in (hx : x ∈ row) : Ctr prog1 w h₀ d os g₀ A (k_addr% "bC") (R ++ (T ++ Te)) m i gl (oneQ (.bool true) (R ++ (T ++ Te)) m i gl) := by
 obtain ⟨ps, n, g, e⟩ := E
 exact q_lcontains w h₀ d os g₀ A R (T ++ Te) m i gl l n ps x tx true (getL_app g) (by rw [e]; simpa using hx)
theorem r_in0 (hx : x ∉ row) : Ctr prog1 w h₀ d os g₀ A (k_addr% "bC") (R ++ (T ++ Te)) m i gl (oneQ (.bool false) (R ++ (T ++ Te)) m i gl) := by
 obtain ⟨ps, n, g, e⟩ := E
 exact q_lcontains w h₀ d os g₀ A R (T ++ Te) m i gl l n ps x tx false (getL_app g) (by rw [e]; simpa using hx)
end
theorem k_in_nil (w : World) (h₀ : Heap) (d : Drawn) (os : OsState) (g₀ : List GenState) (A : Around) (R : News) (m i : Nat) (gl : List GenState) (l : Addr) (n : Nat) (x : Int) (tx : Tok) :
 Ctr prog1 w h₀ d os g₀ A (k_addr% "bC") ((l, listO [] n) :: R) m i gl (oneQ (.bool false) ((l, listO [] n) :: R) m i gl) :=
 k_lcontains w h₀ d os g₀ A R m i gl l n [] x tx false rfl
end Mine
end
namespace Mine
open PySem PySem.Spec PySem.Calls PyProof.Rows PySem.W PySem.W.X
section
variable {prog : Program} {w : World} {A : Around} {E : Value → Shared → Prop} {s : Shared} {a : Addr} {es : List DictEntry} {n : Nat} {k : Int} {t : Tok} {v : Value}
theorem dflt_new {Q : Value → Shared → Prop} (ho : s.heap.get? a = some (dictO es n)) (hk : KeysOf (intKind prog w) ⟨es⟩) (hz : es.length ≤ sizeLine) (hi : placeE es k = none)
  (hQ : ∀ h', h'.get? a = some (k_addr% "en") → Heap.SameBut a s.heap h' → Q v { s with heap := h', toks := s.toks + 1 }) :
  wpAny (model prog w) A (dictSetDefault a (.int k t) v) Q E s := by
 walk_at "dc"
 unfold dictSetDefault
 walk_at "ex"
 walk_at "eM"
 walk_at "bx"
 rw [placeE_eq, hi]
 refine wpAny_bind (wpAny_rule (wpAny_bind (wpAny_updateDictKeys (hz := by simpa using hz) (s := { s with toks := s.toks + 1 }) ho rfl (wpAny_pure (hQ _ ?_ (Heap.SameBut.update ..))))))
 rw [Heap.get?_update_self _ ho rfl]
 simp [Obj.mapDictKeys, storeE, storeN, hi, intKind]
theorem dflt_old {Q : Value → Shared → Prop} {i : Nat} {e : DictEntry} (ho : s.heap.get? a = some (dictO es n)) (hk : KeysOf (intKind prog w) ⟨es⟩) (hi : placeE es k = some i) (he : es[i]? = some e)
  (hQ : Q e.val { s with toks := s.toks + 1 }) :
  wpAny (model prog w) A (dictSetDefault a (.int k t) v) Q E s := by
 walk_at "dc"
 unfold dictSetDefault
 walk_at "ex"
 walk_at "eM"
 walk_at "bx"
 rw [placeE_eq, hi]
 refine wpAny_bind (wpAny_dictEntries (s := { s with toks := s.toks + 1 }) ho rfl ?_)
 have he' : (⟨es⟩ : Array DictEntry)[i]? = some e := by simpa using he
 simp only [he']
 exact wpAny_bind (wpAny_rule (wpAny_pure hQ))
end
section
variable (w : World) (h₀ : Heap) (K : KT.Holds h₀ 1 0 (kt1 w)) (d : Drawn) (os : OsState) (g₀ : List GenState) (A : Around) (R : News) (m i : Nat) (gl : List GenState) (a : Addr) (es : List DictEntry) (n : Nat) (k : Int) (t : Tok) (v : Value) (kvs : List (Int × Value)) (D : DE prog1 w kvs es)
include K D
theorem x_setdef_new (hz : kvs.length ≤ sizeLine) (hv : valueAt kvs k = none) : Ctr prog1 w h₀ d os g₀ A (.call (.builtin "dict.setdefault") ⟨[.ref a, .int k t, v], []⟩) ((a, dictO es n) :: R) m i gl
  (oneQ v ((a, dictO (storeE es k t v) (storeN es k n)) :: R) m (i + 1) gl) := by
 walk_at "cD"
 refine Ctr.some_heap fun h₁ M₁ => ?_
 have hd := M₁.no_sys K (so := _) rfl
 refine Ctr.meets PySem.F.slot_dict_setdefault PySem.F.entry_dict_setdefault (PySem.F.args_dict_setdefault_3 _ _ _) (S := fun _ R s => s.heap.get? a = some (dictO es n) ∧
   ∀ h', h'.get? a = some (k_addr% "en") → Heap.SameBut a s.heap h' → R (.ok (.ret v)) { s with heap := h', toks := s.toks + 1 })
   (.of_wp fun A R s ⟨ho, h⟩ => ?_) (k_addr% "av") fun h RR M hs H => ⟨M.head, fun h' e hb => H _ _ _ _ _ _ ⟨rfl, rfl, rfl, rfl, rfl⟩ (M.change hb e) (hb.1.trans hs)⟩
 unfold Builtin.«dict.setdefault»
 refine wpAny_bind ?_
 unfold Builtin.Dict.keyAndDefault
 walk_at "cb"
 show wpAny _ _ (pure (a, Value.int k t, some v)) _ _ s
 refine wpAny_pure ?_
 show wpAny _ _ (if (a == sysModules) = true then _ else (dictSetDefault a (.int k t) v >>= _)) _ _ s
 rw [if_neg (by rw [hd]; exact Bool.false_ne_true)]
 exact wpAny_bind (dflt_new ho D.keys hz' (place_none D hv) fun h' e hb => wpAny_pure ⟨v, rfl, h h' e hb⟩)
theorem x_setdef_old (u : Value) (hv : valueAt kvs k = some u) : Ctr prog1 w h₀ d os g₀ A (.call (.builtin "dict.setdefault") ⟨[.ref a, .int k t, v], []⟩) ((a, dictO es n) :: R) m i gl
  (oneQ u ((a, dictO es n) :: R) m (i + 1) gl) := by
 obtain ⟨j, e0, hj, he0, hev⟩ := place_some D hv
 refine Ctr.some_heap fun h₁ M₁ => ?_
 have hd := M₁.no_sys K (so := _) rfl
 refine Ctr.meets PySem.F.slot_dict_setdefault PySem.F.entry_dict_setdefault (PySem.F.args_dict_setdefault_3 _ _ _) (S := fun _ R s => s.heap.get? a = some (dictO es n) ∧ R (.ok (.ret u)) { s with toks := s.toks + 1 })
   (.of_wp fun A R s ⟨ho, h⟩ => ?_) (k_addr% "av") fun h RR M hs H => ⟨M.head, H _ _ _ _ _ _ ⟨rfl, rfl, rfl, rfl, rfl⟩ M hs⟩
 unfold Builtin.«dict.setdefault»
 refine wpAny_bind ?_
 unfold Builtin.Dict.keyAndDefault
 walk_at "cb"
 show wpAny _ _ (pure (a, Value.int k t, some v)) _ _ s
 refine wpAny_pure ?_
 show wpAny _ _ (if (a == sysModules) = true then _ else (dictSetDefault a (.int k t) v >>= _)) _ _ s
 rw [if_neg (by rw [hd]; exact Bool.false_ne_true)]
 exact wpAny_bind (dflt_old ho D.keys hj he0 (wpAny_pure ⟨e0.val, rfl, by rw [hev]; exact h⟩))
end
section
variable (w : World) (h₀ : Heap) (K : KT.Holds h₀ 1 0 (kt1 w)) (d : Drawn) (os : OsState) (g₀ : List GenState) (R T Te : News) (m i : Nat) (gl : List GenState) (rd : Addr) (vs : List Int) (r : Int → List Int) (E : Rz w T rd vs r) (v : Int) (t : Tok)
include K E
theorem r_setdef (x : Addr) (O : RowsOk vs r) (hz : vs.length ≤ 100) : Ctr prog1 w h₀ d os g₀ (aroundL 480) (.call (.builtin "dict.setdefault") ⟨[.ref rd, .int v t, .ref x], []⟩) ((x, listO [] 0) :: (R ++ (T ++ Te))) m i gl
  (exQ (News × Addr) (fun y => Rz w y.1 rd (addIf vs v) r) (fun y => .ok (.ret (.ref y.2))) (fun y => R ++ (y.1 ++ Te)) (fun _ => m) (fun _ => i + 1) (fun _ => gl)) := by
 walk_at "ag"
 rcases Classical.em (v ∈ vs) with hv | hv
 ·intro h RR M hs H
  walk_at "cz"
  refine C h RR M hs ?_
  walk_at "aj"
  exact H _ _ _ _ _ h' ⟨(T, L v), by rw [addIf_in hv]; exact ⟨L, er, nr, g, D, l⟩, rfl, rfl, rfl, rfl, rfl⟩ M'.drop1 hs'
 ·intro h RR M hs H
  walk_at "cR"
  have C := Ctr.write (R := (x, listO [] 0) :: R) (T := T ++ Te) (getL_app g) (fun rest => x_setdef_new w h₀ K d os g₀ (aroundL 480) rest m i gl rd er nr v t (.ref x) _ D (l100 (by simpa [tab] using hz)) (tab_out hv))
  refine C h RR M hs ?_
  walk_at "aj"
  rw [putL_app g] at M'
  refine H _ _ _ _ _ h' ⟨((x, listO [] 0) :: putL T rd (k_addr% "eJ"), x), by
   rw [addIf_out hv]
   refine ⟨upd L v x, _, _, getL_skip (fr _ _ g) (getL_put_self g), ?_, ?_⟩
   ·rw [← tab_store (f := L) hv (upd L v x) (fun z hz => upd_ne _ _ (fun e => hv (by rw [← e]; exact hz))) (upd_self _ _ _)]
    exact D.store v t (.ref x)
   ·intro z hz
    walk_at "az"
    ·rw [upd_ne _ _ (fun e => hv (by rw [← e]; exact h))]
     obtain ⟨pz, nz, gz, ez⟩ := l z h
     refine ⟨pz, nz, getL_skip (fr _ _ gz) (getL_put_ne (fun e => ?_) gz), ez⟩
     rw [e, gz] at g
     simp at g
    ·rw [List.mem_singleton.mp h, upd_self, O.out v hv]
     exact ⟨[], 0, getL_head _ _ _, rfl⟩, rfl, rfl, rfl, rfl, rfl⟩ (by
   walk_at "eU"
   exact this) hs'
end
section
variable (w : World) (h₀ : Heap) (K : KT.Holds h₀ 1 0 (kt1 w)) (d : Drawn) (os : OsState) (g₀ : List GenState) (R T Te : News) (m i : Nat) (gl : List GenState) (rd : Addr) (vs : List Int) (r : Int → List Int) (E : Rz w T rd vs r) (v : Int) (t : Tok) (x : Addr)
include K E
theorem r_setdef_in (hv : v ∈ vs) : Ctr prog1 w h₀ d os g₀ (aroundL 480) (.call (.builtin "dict.setdefault") ⟨[.ref rd, .int v t, .ref x], []⟩) ((x, listO [] 0) :: (R ++ (T ++ Te))) m i gl
  (exQ Addr (fun y => True) (fun y => .ok (.ret (.ref y))) (fun y => R ++ (T ++ Te)) (fun _ => m) (fun _ => i + 1) (fun _ => gl)) := by
 walk_at "ag"
 intro h RR M hs H
 walk_at "cz"
 refine C h RR M hs ?_
 walk_at "aj"
 exact H _ _ _ _ _ h' ⟨L v, trivial, rfl, rfl, rfl, rfl, rfl⟩ M'.drop1 hs'
theorem r_getX (ho : v ∉ vs → r v = []) : Ctr prog1 w h₀ d os g₀ (aroundL 480) (.call (.builtin "dict.get") ⟨[.ref rd, .int v t, .ref x], []⟩) ((x, listO [] 0) :: (R ++ (T ++ Te))) m i gl
  (exQ (Addr × News) (fun y => Lrow y.2 y.1 (r v) ∧ Rz w y.2 rd vs r) (fun y => .ok (.ret (.ref y.1))) (fun y => R ++ (y.2 ++ Te)) (fun _ => m) (fun _ => i + 1) (fun _ => gl)) := by
 walk_at "ag"
 intro h RR M hs H
 walk_at "cR"
 have pm : ((x, listO [] 0) :: (R ++ (T ++ Te))).Perm (R ++ (((x, listO [] 0) :: T) ++ Te)) := (List.perm_middle (l₁ := R) (l₂ := T ++ Te)).symm
 have hz : Rz w ((x, listO [] 0) :: T) rd vs r := ⟨L, er, nr, getL_skip (fr _ _ g) g, D, l.skip fr⟩
 rcases Classical.em (v ∈ vs) with hv | hv
 ·refine q_get2_some w h₀ K d os g₀ _ rd er nr ((x, listO [] 0) :: R) (T ++ Te) m i gl v t _ (getL_app g) D (.ref x) _ (tab_in hv) h RR M hs ?_
  walk_at "aj"
  exact H _ _ _ _ _ h' ⟨(L v, (x, listO [] 0) :: T), ⟨(l.skip fr).row hv, hz⟩, rfl, rfl, rfl, rfl, rfl⟩ (M'.perm pm) hs'
 ·refine q_get2_none w h₀ K d os g₀ _ rd er nr ((x, listO [] 0) :: R) (T ++ Te) m i gl v t _ (getL_app g) D (.ref x) (tab_out hv) h RR M hs ?_
  walk_at "aj"
  exact H _ _ _ _ _ h' ⟨(x, (x, listO [] 0) :: T), ⟨by rw [ho hv]; exact ⟨[], 0, getL_head _ _ _, rfl⟩, hz⟩, rfl, rfl, rfl, rfl, rfl⟩ (M'.perm pm) hs'
end
theorem fmod_nat (a : Int) (q : Nat) : ∃ j : Nat, a.fmod (Int.ofNat (q + 1)) = Int.ofNat j ∧ j < q + 1 := by
 have h1 := Int.fmod_nonneg_of_pos a (b := ((q + 1 : Nat) : Int)) (by omega)
 have h2 := Int.fmod_lt_of_pos a (b := ((q + 1 : Nat) : Int)) (by omega)
 refine ⟨(a.fmod ((q + 1 : Nat) : Int)).toNat, ?_, by omega⟩
 show a.fmod ((q + 1 : Nat) : Int) = (((a.fmod ((q + 1 : Nat) : Int)).toNat : Nat) : Int)
 omega
section
variable (w : World) (b1 b2 : Bool) (hpar : w.params = parB w.params b1 b2) (h₀ : Heap) (K : KT.Holds h₀ 1 0 (kt1 w)) (d : Drawn) (os : OsState) (g₀ : List GenState) (R T Te : News) (m i : Nat) (gl : List GenState) (rd : Addr) (vs : List Int) (r : Int → List Int) (E : Rz w T rd vs r)
 (v w' number : Int) (tv tw tn : Tok) (hv : v ∈ vs) (hlr : (r v).length ≤ 300)
include hpar K E hv hlr
theorem r_put : Ctr prog1 w h₀ d os g₀ (aroundL 350) (k_addr% "ak") (R ++ (T ++ Te)) m i gl
 (exQ (Addr × Addr × Addr × Nat × Nat × Value × Value × List (Int × Tok)) (fun c => PlaceOk (r v) w' c.2.2.2.2.2.1 c.2.2.2.2.2.2.1 (c.2.2.2.2.2.2.2.map Prod.fst))
 (k_addr% "cq") (fun c => (k_addr% "cM") :: (c.2.1, listO (ivs c.2.2.2.2.2.2.2) 0) :: (c.2.2.1, tup2 c.2.2.2.2.2.1 c.2.2.2.2.2.2.1) :: (R ++ (T ++ Te))) (fun c => c.2.2.2.1) (fun c => c.2.2.2.2.1) (fun _ => gl)) := by
 walk_at "ag"
 obtain ⟨ps, nl, gp, ep⟩ := l v hv
 have hlen : ps.length ≤ 400 := by rw [← ep, List.length_map] at hlr; omega
 have hne : rd ≠ L v := by
  intro e
  rw [← e, g] at gp
  simp at gp
 rcases hps : ps with _ | ⟨p0, ps0⟩
 ·rw [hps] at gp ep hlen
  refine (put_empty w b1 b2 hpar h₀ K d os g₀ R (T ++ Te) m i gl rd er nr _ D (getL_app g) (L v) v w' number tv tw tn (tab_in hv) [] nl (getL_app gp) hne hlen rfl).2.mono ?_
  walk_at "bV"
  exact ⟨(c.1, c.2.1, c.2.2.1, c.2.2.2.1, c.2.2.2.2, .none, .none, [(w', tw)]), .inl ⟨ep.symm, rfl, rfl, rfl⟩, rfl, rfl, rfl, rfl, rfl⟩
 ·obtain ⟨q, hq⟩ : ∃ q, ps.length = q + 1 := ⟨ps0.length, by rw [hps]; rfl⟩
  have hl : (ivs ps).length = q + 1 := by simpa using hq
  obtain ⟨j, hj, hjl⟩ := fmod_nat (number.fdiv (Int.ofNat 2)) q
  have hjp : j < ps.length := by omega
  obtain ⟨rf, tr, hx⟩ : ∃ rf tr, ps[j] = (rf, tr) := ⟨_, _, rfl⟩
  have hx' : (ivs ps)[j]? = some (.int rf tr) := by simp [hjp, hx]
  have hm : rf ∈ ps.map Prod.fst := List.mem_map.mpr ⟨ps[j], List.getElem_mem hjp, by rw [hx]⟩
  have hjj : (ps.map Prod.fst).idxOf rf < ps.length := by have := List.idxOf_lt_length_of_mem hm; simpa using this
  have hsp : ps.map Prod.fst = (ps.map Prod.fst).take ((ps.map Prod.fst).idxOf rf) ++ rf :: (ps.map Prod.fst).drop ((ps.map Prod.fst).idxOf rf + 1) := by
   have h1 : (ps.map Prod.fst).idxOf rf < (ps.map Prod.fst).length := by simpa using hjj
   have h2 : (ps.map Prod.fst)[(ps.map Prod.fst).idxOf rf] = rf := List.getElem_idxOf h1
   walk_at "fi"
  obtain ⟨j2, hj2, hj2l⟩ := fmod_nat number 1
  generalize hid : (ps.map Prod.fst).idxOf rf = jj at hjj hsp
  have hc2 : j2 = 0 ∨ j2 = 1 := by omega
  rcases hc2 with rfl | rfl
  ·refine (put_even w b1 b2 hpar h₀ K d os g₀ R (T ++ Te) m i gl rd er nr _ D (getL_app g) (L v) v w' number tv tw tn (tab_in hv) ps nl (getL_app gp) hne hlen q hl _ rfl j hj rf tr hx' jj hid hjj hj2).2.mono ?_
   walk_at "bV"
   refine ⟨(c.1, c.2.1, c.2.2.1, c.2.2.2.1, c.2.2.2.2, .none, .int rf tr, ps.take (jj + 1) ++ [(w', tw)] ++ ps.drop (jj + 1)), .inr (.inr ⟨(ps.map Prod.fst).take jj, rf, (ps.map Prod.fst).drop (jj + 1), tr, by rw [← ep]; exact hsp, rfl, rfl, ?_⟩), rfl, by simp [List.map_take, List.map_drop], rfl, rfl, rfl⟩
   have h3 : (ps.map Prod.fst).take (jj + 1) = (ps.map Prod.fst).take jj ++ [rf] := by
    walk_at "dp"
    rw [List.take_succ_eq_append_getElem h1]
    congr 2
    subst hid
    exact List.getElem_idxOf h1
   walk_at "bG"
   rw [h3]; simp
  ·refine (put_odd w b1 b2 hpar h₀ K d os g₀ R (T ++ Te) m i gl rd er nr _ D (getL_app g) (L v) v w' number tv tw tn (tab_in hv) ps nl (getL_app gp) hne hlen q hl _ rfl j hj rf tr hx' jj hid hjj hj2).2.mono ?_
   walk_at "bV"
   refine ⟨(c.1, c.2.1, c.2.2.1, c.2.2.2.1, c.2.2.2.2, .int rf tr, .none, ps.take jj ++ [(w', tw)] ++ ps.drop jj), .inr (.inl ⟨(ps.map Prod.fst).take jj, rf, (ps.map Prod.fst).drop (jj + 1), tr, by rw [← ep]; exact hsp, rfl, rfl, ?_⟩), rfl, by simp [List.map_take, List.map_drop], rfl, rfl, rfl⟩
   walk_at "dp"
   have h2 : (ps.map Prod.fst)[jj] = rf := by subst hid; exact List.getElem_idxOf h1
   walk_at "bG"
   rw [List.drop_eq_getElem_cons h1, h2]; simp
theorem r_put_e (he : r v = []) : Ctr prog1 w h₀ d os g₀ (aroundL 350) (k_addr% "ak") (R ++ (T ++ Te)) m i gl
 (exQ (Addr × Addr × Addr × Nat × Nat × List (Int × Tok)) (fun c => PlaceOk (r v) w' .none .none (c.2.2.2.2.2.map Prod.fst))
 (k_addr% "cq") (fun c => (k_addr% "cM") :: (c.2.1, listO (ivs c.2.2.2.2.2) 0) :: (c.2.2.1, tup2 .none .none) :: (R ++ (T ++ Te))) (fun c => c.2.2.2.1) (fun c => c.2.2.2.2.1) (fun _ => gl)) := by
 refine (r_put w b1 b2 hpar h₀ K d os g₀ R T Te m i gl rd vs r E v w' number tv tw tn hv hlr).mono ?_
 walk_at "bV"
 obtain ⟨c1, c2, c3, c4, c5, p, q, ps⟩ := c
 rcases hc with ⟨h1, h2, h3, h4⟩ | ⟨A, c, B, t, h1, _⟩ | ⟨A, c, B, t, h1, _⟩
 ·simp only at h2 h3
  subst h2 h3
  exact ⟨(c1, c2, c3, c4, c5, ps), .inl ⟨h1, rfl, rfl, h4⟩, rfl, rfl, rfl, rfl, rfl⟩
 ·rw [he] at h1; cases A <;> cases h1
 ·rw [he] at h1; cases A <;> cases h1
end
section
variable (w : World) (b1 b2 : Bool) (hpar : w.params = parB w.params b1 b2) (h₀ : Heap) (K : KT.Holds h₀ 1 0 (kt1 w)) (d : Drawn) (os : OsState) (g₀ : List GenState) (R T Te : News) (m i : Nat) (gl : List GenState) (rd : Addr) (vs : List Int) (r : Int → List Int) (E : Rz w T rd vs r)
 (v w' number : Int) (tv tw tn : Tok) (hv : v ∈ vs) (hlr : (r v).length ≤ 300) (hne : r v ≠ [])
include hpar K E hv hlr hne
theorem r_put_facts : ∃ (L : Int → Addr) (er : List DictEntry) (nr : Nat) (ps : List (Int × Tok)) (nl : Nat) (q j : Nat) (rf : Int) (tr : Tok) (jj : Nat), getL T rd = some (dictO er nr) ∧ DE prog1 w (tab vs L) er ∧ getL T (L v) = some (listO (ivs ps) nl) ∧ ps.map Prod.fst = r v ∧ ps.length ≤ 400 ∧ rd ≠ L v ∧
  (ivs ps).length = q + 1 ∧ (number.fdiv (Int.ofNat 2)).fmod (Int.ofNat (q + 1)) = Int.ofNat j ∧ (ivs ps)[j]? = some (.int rf tr) ∧ (ps.map Prod.fst).idxOf rf = jj ∧ jj < ps.length ∧ ps.map Prod.fst = (ps.map Prod.fst).take jj ++ rf :: (ps.map Prod.fst).drop (jj + 1) := by
 walk_at "ag"
 obtain ⟨ps, nl, gp, ep⟩ := l v hv
 have hlen : ps.length ≤ 400 := by rw [← ep, List.length_map] at hlr; omega
 have hne' : rd ≠ L v := by
  intro e
  rw [← e, g] at gp
  simp at gp
 obtain ⟨q, hq⟩ : ∃ q, ps.length = q + 1 := ⟨ps.length - 1, by
  have : ps ≠ [] := by rintro rfl; exact hne ep.symm
  have := List.length_pos_iff.mpr this
  omega⟩
 have hl : (ivs ps).length = q + 1 := by simpa using hq
 obtain ⟨j, hj, hjl⟩ := fmod_nat (number.fdiv (Int.ofNat 2)) q
 have hjp : j < ps.length := by omega
 obtain ⟨rf, tr, hx⟩ : ∃ rf tr, ps[j] = (rf, tr) := ⟨_, _, rfl⟩
 have hx' : (ivs ps)[j]? = some (.int rf tr) := by simp [hjp, hx]
 have hm : rf ∈ ps.map Prod.fst := List.mem_map.mpr ⟨ps[j], List.getElem_mem hjp, by rw [hx]⟩
 have hjj : (ps.map Prod.fst).idxOf rf < ps.length := by have := List.idxOf_lt_length_of_mem hm; simpa using this
 have hsp : ps.map Prod.fst = (ps.map Prod.fst).take ((ps.map Prod.fst).idxOf rf) ++ rf :: (ps.map Prod.fst).drop ((ps.map Prod.fst).idxOf rf + 1) := by
  have h1 : (ps.map Prod.fst).idxOf rf < (ps.map Prod.fst).length := by simpa using hjj
  have h2 : (ps.map Prod.fst)[(ps.map Prod.fst).idxOf rf] = rf := List.getElem_idxOf h1
  walk_at "fi"
 exact ⟨L, er, nr, ps, nl, q, j, rf, tr, _, g, D, gp, ep, hlen, hne', hl, hj, hx', rfl, hjj, hsp⟩
theorem r_put_v (hp : number.fmod (Int.ofNat 2) = Int.ofNat 0) : Ctr prog1 w h₀ d os g₀ (aroundL 350) (k_addr% "ak") (R ++ (T ++ Te)) m i gl
 (exQ (Addr × Addr × Addr × Nat × Nat × List (Int × Tok) × Int × Tok) (fun c => PlaceOk (r v) w' .none (.int c.2.2.2.2.2.2.1 c.2.2.2.2.2.2.2) (c.2.2.2.2.2.1.map Prod.fst))
 (k_addr% "cq") (fun c => (k_addr% "cM") :: (c.2.1, listO (ivs c.2.2.2.2.2.1) 0) :: (c.2.2.1, tup2 .none (.int c.2.2.2.2.2.2.1 c.2.2.2.2.2.2.2)) :: (R ++ (T ++ Te))) (fun c => c.2.2.2.1) (fun c => c.2.2.2.2.1) (fun _ => gl)) := by
 walk_at "db"
 refine (put_even w b1 b2 hpar h₀ K d os g₀ R (T ++ Te) m i gl rd er nr _ D (getL_app g) (L v) v w' number tv tw tn (tab_in hv) ps nl (getL_app gp) hne' hlen q hl _ rfl j hj rf tr hx' jj hid hjj hp).2.mono ?_
 walk_at "bV"
 refine ⟨(c.1, c.2.1, c.2.2.1, c.2.2.2.1, c.2.2.2.2, ps.take (jj + 1) ++ [(w', tw)] ++ ps.drop (jj + 1), rf, tr), .inr (.inr ⟨(ps.map Prod.fst).take jj, rf, (ps.map Prod.fst).drop (jj + 1), tr, by rw [← ep]; exact hsp, rfl, rfl, ?_⟩), rfl, by simp [List.map_take, List.map_drop], rfl, rfl, rfl⟩
 have h3 : (ps.map Prod.fst).take (jj + 1) = (ps.map Prod.fst).take jj ++ [rf] := by
  walk_at "dp"
  rw [List.take_succ_eq_append_getElem h1]
  congr 2
  subst hid
  exact List.getElem_idxOf h1
 walk_at "bG"
 rw [h3]; simp
theorem r_put_o (hp : number.fmod (Int.ofNat 2) = Int.ofNat 1) : Ctr prog1 w h₀ d os g₀ (aroundL 350) (k_addr% "ak") (R ++ (T ++ Te)) m i gl
 (exQ (Addr × Addr × Addr × Nat × Nat × List (Int × Tok) × Int × Tok) (fun c => PlaceOk (r v) w' (.int c.2.2.2.2.2.2.1 c.2.2.2.2.2.2.2) .none (c.2.2.2.2.2.1.map Prod.fst))
 (k_addr% "cq") (fun c => (k_addr% "cM") :: (c.2.1, listO (ivs c.2.2.2.2.2.1) 0) :: (c.2.2.1, tup2 (.int c.2.2.2.2.2.2.1 c.2.2.2.2.2.2.2) .none) :: (R ++ (T ++ Te))) (fun c => c.2.2.2.1) (fun c => c.2.2.2.2.1) (fun _ => gl)) := by
 walk_at "db"
 refine (put_odd w b1 b2 hpar h₀ K d os g₀ R (T ++ Te) m i gl rd er nr _ D (getL_app g) (L v) v w' number tv tw tn (tab_in hv) ps nl (getL_app gp) hne' hlen q hl _ rfl j hj rf tr hx' jj hid hjj hp).2.mono ?_
 walk_at "bV"
 refine ⟨(c.1, c.2.1, c.2.2.1, c.2.2.2.1, c.2.2.2.2, ps.take jj ++ [(w', tw)] ++ ps.drop jj, rf, tr), .inr (.inl ⟨(ps.map Prod.fst).take jj, rf, (ps.map Prod.fst).drop (jj + 1), tr, by rw [← ep]; exact hsp, rfl, rfl, ?_⟩), rfl, by simp [List.map_take, List.map_drop], rfl, rfl, rfl⟩
 walk_at "dp"
 have h2 : (ps.map Prod.fst)[jj] = rf := by subst hid; exact List.getElem_idxOf h1
 walk_at "bG"
 rw [List.drop_eq_getElem_cons h1, h2]; simp
end
end Mine
section
variable (w : PySem.World) (b1 b2 : Bool) (hpar : w.params = Mine.parB w.params b1 b2) (h₀ : PySem.Heap) (K : PySem.W.X.KT.Holds h₀ 1 0 (Mine.kt1 w)) (d : PySem.Drawn) (os : PySem.OsState) (g₀ : List PySem.GenState)
namespace Mine
open PySem PySem.Spec PySem.Calls PyProof.Rows PySem.W PySem.W.X
section
variable (R T : News) (m i : Nat) (gl : List GenState)
include K
theorem c_int_eq (a b : Int) (ta tb : Tok) (e : a = b) : Ctr prog1 w h₀ d os g₀ (aroundL 480) (.call (.builtin "int.__eq__") ⟨[.int a ta, .int b tb], []⟩) R m i gl (oneQ (.bool true) R m i gl) := by
 walk_at "d"
 walk_at "t"
 walk_at "z"
theorem c_int_eq' (a b : Int) (ta tb : Tok) (e : a ≠ b) : Ctr prog1 w h₀ d os g₀ (aroundL 480) (.call (.builtin "int.__eq__") ⟨[.int a ta, .int b tb], []⟩) R m i gl (oneQ (.bool false) R m i gl) := by
 walk_at "d"
 walk_at "t"
 walk_at "z"
theorem c_int_lt (a b : Int) (ta tb : Tok) (e : a < b) : Ctr prog1 w h₀ d os g₀ (aroundL 480) (.call (.builtin "int.__lt__") ⟨[.int a ta, .int b tb], []⟩) R m i gl (oneQ (.bool true) R m i gl) := by
 walk_at "d"
 walk_at "t"
 walk_at "z"
theorem c_int_lt' (a b : Int) (ta tb : Tok) (e : ¬ a < b) : Ctr prog1 w h₀ d os g₀ (aroundL 480) (.call (.builtin "int.__lt__") ⟨[.int a ta, .int b tb], []⟩) R m i gl (oneQ (.bool false) R m i gl) := by
 walk_at "d"
 walk_at "t"
 walk_at "z"
end
def intNames : List Lean.Name := [``c_int_eq, ``c_int_eq', ``c_int_lt, ``c_int_lt', ``c_int_ne, ``c_int_ne', ``k_fdiv_2, ``k_fdiv_6, ``k_fdiv_36, ``k_fdiv_216, ``k_fdiv_7, ``k_fmod_n, ``k_iadd]
noncomputable abbrev aroundT (n : Nat) (f : Addr) : Around := ⟨none, n + 350, some [lawEnv f], none, n + n⟩
end Mine
namespace Mine
open Lean Meta Elab Tactic PySem PySem.W PySem.W.X
def nameTree (nm : Name) (s : Option Tactic.SavedState := none) (say : Bool := true) : TacticM Unit := do
 let g ← getMainGoal
 let (_, g) ← g.intros
 replaceMainGoal (g :: (← getGoals).tail)
 g.withContext do
  let T ← instantiateMVars (← g.getType)
  unless T.isAppOfArity ``RM 11 do throwError "no goal of the run"
  let tp ← bindTpl
  let e ← closeOff (foldBind tp (normPar (← Core.betaReduce T.getAppArgs[6]!)))
  let fv := (collectFVars {} e).fvarIds
  let xs := ((← getLCtx).decls.toArray.filterMap id).filterMap fun d => if fv.contains d.fvarId then some d.toExpr else none
  let v ← instantiateMVars (← mkLambdaFVars xs e)
  let ty ← inferType v
  if let some s := s then
   let env1 ← getEnv
   s.restore
   bringOver env1 v
  addDecl (k_addr% "cf")
  if say then logInfo m!"{nm} : {ty}"
end Mine
namespace Mine
open PySem PySem.Spec PySem.Calls PyProof.Rows PySem.W PySem.W.X
abbrev cellN : Obj := ⟨.type "cell", none, .cell none, #[]⟩
section
variable (R T : News) (m i : Nat) (gl : List GenState)
 (I ln f l o rd : Addr) (j : Nat) (ns : List (Int × Tok)) (a1 a2 a3 : Int) (c1 c2 c3 : Tok) (vv : Int) (tvv : Tok) (nf : Nat) (num : Int) (tnum : Tok) (he : (⟨ivs ns⟩ : Array Value)[j]? = some (.int num tnum))
 (kd q6 a0 q36 b0 mo : Int) (h1 : num.fmod (Int.ofNat 6) = kd) (h2 : num.fdiv (Int.ofNat 6) = q6) (h3 : q6.fmod (Int.ofNat 6) = a0) (h4 : num.fdiv (Int.ofNat 36) = q36) (h5 : q36.fmod (Int.ofNat 6) = b0) (h6 : num.fdiv (Int.ofNat 216) = mo)
include hpar K he h1 h2 h3 h4 h5 h6
theorem s0_name (hab : a0 ≠ b0) : Ctr prog1 w h₀ d os g₀ ((aroundT 10 f)) (lawLoop (.ref I) f)
 ((I, litO ln j) :: (ln, listO (ivs ns) 0) :: (k_addr% "as") :: (f + 1, cellO (.ref rd)) :: (f + 2, cellN) :: (f + 3, cellN) :: R) m i gl (fun _ _ _ _ _ => True) ∨ True := by
 run_tac do
  let s ← Lean.saveState
  Lean.Elab.Tactic.evalTactic (← `(tactic| left))
  Lean.Elab.Tactic.evalTactic (← `(tactic| refine Ctr.ofQ (Mine.kt1 w) ?_))
  Mine.walk (Mine.intNames ++ [``c_lnext]) [] { stops := ["call int.__eq__"] }
  Mine.walk (Mine.intNames ++ [``c_lnext]) [] { fuel := 2 }
  Mine.nameTree `Mine.bodyT (some s)
 exact Or.inr trivial
end
end Mine
namespace Mine
open Lean Meta Elab Tactic PySem PySem.W PySem.W.X
def atPlace (line col : Nat) : TacticM Bool := do
 let g ← getMainGoal
 g.withContext do
  let T ← instantiateMVars (← g.getType)
  let rec go : Nat → Lean.Expr → MetaM Bool
   | 0, _ => return false
   | n + 1, T => do
     if T.isForall then forallBoundedTelescope T (some 1) fun _ b => go n b
     else
      unless T.isAppOfArity ``RM 11 do return false
      let t ← kw T.getAppArgs[6]!
      unless t.isAppOf ``Sem.at do return false
      let p ← kw t.getAppArgs[1]!
      unless p.getAppNumArgs == 4 do return false
      let l ← kw p.getAppArgs[0]!
      let c ← kw p.getAppArgs[1]!
      return l == mkRawNatLit line && c == mkRawNatLit col
  go 12 T
def walkAt (names : List Name) (line col : Nat) (hyps : List Name := []) (from_ : Nat := 1) (upto : Nat := 60) (say : Bool := false) : TacticM Unit := do
 for F in [from_:upto + 1] do
  let s ← saveState
  let ok ← (try (do walk names hyps { fuel := F }; atPlace line col) catch _ => pure false)
  if ok then
   if say then IO.println s!"walkAt {line} {col}: {F}"
   return
  s.restore
 throwError "walkAt: not found"
end Mine
namespace Mine
open PySem PySem.Spec PySem.Calls PyProof.Rows PySem.W PySem.W.X
noncomputable def slotsL (f : Addr) : Option Value → Array (Option Value)
 | .none => #[]
 | some v => #[some (lawEnv f).code, some (.ref (lawEnv f).globals), none, some v, none, (lawEnv f).func.map Value.ref, some (.ref (lawEnv f).builtins)] ++ ((lawEnv f).cells.map fun c => some (.ref c.2)).toArray
abbrev frS (es : List DictEntry) (n : Nat) (sl : Array (Option Value)) : Obj := ⟨.type "frame", none, .dict ⟨es⟩ n, sl⟩
structure Fl where
 a1 : Int
 a2 : Int
 a3 : Int
 a4 : Int
 a5 : Int
 a6 : Int
 c1 : Tok
 c2 : Tok
 c3 : Tok
 c4 : Tok
 c5 : Tok
 c6 : Tok
 vv : Int
 num : Int
 kd : Int
 mo : Int
 tv : Tok
 tn : Tok
 tk : Tok
 tm : Tok
 rest : List DictEntry
 n : Nat
 sl : Option Value
abbrev Fl.es (F : Fl) (l o : Addr) : List DictEntry := ⟨F.a1, .str "script" F.c1, .ref l⟩ :: ⟨F.a2, .str "embedding" F.c2, .ref o⟩ :: ⟨F.a3, .str "v" F.c3, .int F.vv F.tv⟩ :: ⟨F.a4, .str "number" F.c4, .int F.num F.tn⟩ :: ⟨F.a5, .str "kind" F.c5, .int F.kd F.tk⟩ :: ⟨F.a6, .str "more" F.c6, .int F.mo F.tm⟩ :: F.rest
structure Inv (vs : List Int) (r : Int → List Int) : Prop where
 ok : RowsOk vs r
 six : ∀ v ∈ vs, 0 ≤ v ∧ v < 6
 rv : ∀ v ∈ vs, ∀ u ∈ r v, u ∈ vs
 sym : ∀ v ∈ vs, ∀ u ∈ r v, v ∈ r u
 vn : vs.Nodup
def RestS (rest : List DictEntry) : Prop := rest = [] ∨ ∃ (b1 b2 b3 : Int) (e1 e2 e3 : Tok) (x : Int) (tx : Tok) (y z : Addr), rest = [⟨b1, .str "w" e1, .int x tx⟩, ⟨b2, .str "row" e2, .ref y⟩, ⟨b3, .str "place" e3, .ref z⟩]
def RestOk (gl : List GenState) (rest : List DictEntry) : Prop := GB gl ∧ RestS rest
noncomputable abbrev lawCells (F : Fl) (l o f rd : Addr) (xs : List Value) (nl : Nat) (dI : Addr) (inst : Obj) (rest : News) : News := (l, listO xs nl) :: (k_addr% "cN") :: (f + 1, cellO (.ref rd)) :: (o, selfO dI) :: (dI, inst) :: rest
abbrev LN := Nat × Nat × List GenState × Fl × Addr × News × News × List Int × (Int → List Int) × News
noncomputable abbrev lawQ (w : World) (l o f : Addr) (xs : List Value) (nl : Nat) (dI : Addr) (inst : Obj) (nd sd pd : Addr) (R : News) : Post :=
 exQ LN (fun x => EmbC w x.2.2.2.2.2.2.1 nd sd pd x.2.2.2.2.2.2.2.1 x.2.2.2.2.2.2.2.2.1 ∧ Rz w x.2.2.2.2.2.1 x.2.2.2.2.1 x.2.2.2.2.2.2.2.1 x.2.2.2.2.2.2.2.2.1 ∧ Inv x.2.2.2.2.2.2.2.1 x.2.2.2.2.2.2.2.2.1 ∧ RestOk x.2.2.1 x.2.2.2.1.rest)
  (fun _ => .ok .next) (fun x => lawCells x.2.2.2.1 l o f x.2.2.2.2.1 xs nl dI inst (x.2.2.2.2.2.2.2.2.2 ++ (x.2.2.2.2.2.1 ++ x.2.2.2.2.2.2.1))) (fun x => x.1) (fun x => x.2.1) (fun x => x.2.2.1)
section
variable (R Tr Te : News) (n m i : Nat) (gl : List GenState) (RR : Result → Shared → Prop)
 (I ln f l o rd : Addr) (j : Nat) (ns : List (Int × Tok)) (F : Fl) (xs : List Value) (nl : Nat) (a b : Int) (ta tb : Tok)
 (dI gd nd sd pd : Addr) (t1 t2 t3 t4 t5 n1 : Nat) (h1 h2 h3 h4 h5 : Int) (vs : List Int) (r : Int → List Int) (E : EmbC w Te nd sd pd vs r) (Er : Rz w Tr rd vs r)
include hpar K E Er
theorem s1_name (hk : F.kd = 5) (ha : a ∈ vs) (hb : b ∈ r a) : RM ⟨prog1, w, h₀, 0, kt1 w, [], (aroundT 10 f), RR, d, 0, os⟩ g₀ n (lawLoop (.ref I) f) none .base (bodyT I f)
 (k_addr% "D") m i gl ∨ True := by
 walk_at "dq"
 have k2 : F.kd ≠ 3 := by omega
 have k3 : F.kd ≠ 4 := by omega
 clear hk
 run_tac do
  let s ← Lean.saveState
  Lean.Elab.Tactic.evalTactic (← `(tactic| left))
  Mine.walk (Mine.intNames ++ [``r_get1, ``r_get0, ``r_in, ``r_in0]) [] { stops := ["call list.__contains__"] }
  Mine.walkAt (Mine.intNames ++ [``r_get1, ``r_get0, ``r_in, ``r_in0]) 716 11 [] 1 60 true
  Mine.nameTree `Mine.tailT (some s)
 exact Or.inr trivial
end
section
variable (R Tr T : News) (m i : Nat) (gl : List GenState)
 (o dI gd nd sd pd : Addr) (t1 t2 t3 t4 t5 n1 : Nat) (h1 h2 h3 h4 h5 : Int) (vs : List Int) (r : Int → List Int) (E : EmbC w T nd sd pd vs r)
include hpar K E
theorem sh_allZ : Ctr prog1 w h₀ d os g₀ (aroundL 320) (.call (.ref 906) ⟨[.ref o], []⟩) (k_addr% "P") m i gl
  (exQ (Nat × Nat × Addr × News × List GenState) (fun x => Rz w x.2.2.2.1 x.2.2.1 vs (fun v => turnI (r v)) ∧ (GB gl → GB x.2.2.2.2)) (k_addr% "bv") (fun x => (o, selfO dI) :: (k_addr% "b") :: ((R ++ x.2.2.2.1) ++ (Tr ++ T))) (fun x => x.1) (fun x => x.2.1) (fun x => x.2.2.2.2)) := by
 intro h RR M hs H
 refine sh_all w b1 b2 hpar h₀ K d os g₀ (R ++ Tr) T m i gl o dI gd nd sd pd t1 t2 t3 t4 t5 n1 h1 h2 h3 h4 h5 vs r E h RR (by rw [List.append_assoc]; exact M) hs ?_
 walk_at "bW"
 refine H _ _ _ _ _ h' ⟨x, hx, rfl, rfl, rfl, rfl, rfl⟩ (M'.perm (.cons _ (.cons _ ?_))) hs'
 simp only [List.append_assoc]
 exact (List.perm_append_comm_assoc Tr x.2.2.2.1 T).append_left R
end
theorem pl_allZ (w : World) (b1 b2 : Bool) (hpar : w.params = parB w.params b1 b2) (h₀ : Heap) (K : KT.Holds h₀ 1 0 (kt1 w)) (d : Drawn) (os : OsState) (g₀ : List GenState) (R T Te : News) (m i : Nat) (gl : List GenState)
 (rd : Addr) (vs : List Int) (r : Int → List Int) (E : Rz w T rd vs r) (O : Inv vs r) :
 Ctr prog1 w h₀ d os g₀ (aroundL 340) (.call (.ref 911) ⟨[.ref rd], []⟩) (R ++ (T ++ Te)) m i gl
  (exQ (Nat × Nat × Addr × News) (fun x => Rz w x.2.2.2 x.2.2.1 vs (fun v => turnI (r v))) (k_addr% "bv") (fun x => (R ++ x.2.2.2) ++ (T ++ Te)) (fun x => x.1) (fun x => x.2.1) (fun x => gl)) :=
 pl_all w b1 b2 hpar h₀ K d os g₀ R (T ++ Te) m i gl rd vs r E.app (nodup_le O.vn O.ok.vo) (fun v hv => O.ok.len hv)
section
variable (RR : Result → Shared → Prop)
 (I ln f l o : Addr) (j : Nat) (ns : List (Int × Tok)) (xs : List Value) (nl : Nat) (dI gd nd sd pd : Addr) (t1 t2 t3 t4 t5 n1 : Nat) (h1 h2 h3 h4 h5 : Int)
 (QF : Post) (hR : ∀ n r news' m' i' gl', QF r news' m' i' gl' → RE ⟨prog1, w, h₀, 0, kt1 w, [], (aroundT 10 f), RR, d, 0, os⟩ g₀ n r news' m' i' gl')
 (IH : ∀ (R Tr Te : News) (m i : Nat) (gl : List GenState) (F : Fl) (rd : Addr) (a b : Int) (ta tb : Tok) (vs : List Int) (r : Int → List Int), EmbC w Te nd sd pd vs r → Rz w Tr rd vs r → Inv vs r → RestOk gl F.rest →
  Ctr prog1 w h₀ d os g₀ ((aroundT 10 f)) (lawLoop (.ref I) f) (k_addr% "a") m i gl QF)
 (R Tr Te : News) (n m i : Nat) (gl : List GenState) (F : Fl) (rd : Addr) (a b : Int) (ta tb : Tok) (vs : List Int) (r : Int → List Int) (E : EmbC w Te nd sd pd vs r) (Er : Rz w Tr rd vs r) (O : Inv vs r) (hrest : RestOk gl F.rest)
include hpar K hR IH E Er O hrest
theorem tail_ok : RM ⟨prog1, w, h₀, 0, kt1 w, [], (aroundT 10 f), RR, d, 0, os⟩ g₀ n (lawLoop (.ref I) f) none .base (tailT I f)
 (k_addr% "a") m i gl := by
 run_tac Mine.walk [``sh_allZ, ``pl_allZ] [] { stops := ["stack"] }
 intro x hx y hy
 refine rm_subF (n' := 0) (news' := (o, selfO dI) :: (k_addr% "b") :: (I, litO ln (j + 1)) :: (ln, listO (ivs ns) 0) :: (k_addr% "aG") :: (k_addr% "dj") :: (l, listO xs nl) :: (k_addr% "cN") :: (f + 1, cellO (.ref rd)) :: (R ++ (x.2.2.2.1 ++ (y.2.2.2 ++ (Tr ++ Te)))))
  (P := Rz w (x.2.2.2.1 ++ (y.2.2.2 ++ (Tr ++ Te))) y.2.2.1 vs (fun v => turnI (r v))) (fun h M => ⟨by walk_at "et", ?_⟩) fun hB => ?_
 ·have M1 : Mm h₀ h ((o, selfO dI) :: (k_addr% "b") :: (I, litO ln (j + 1)) :: (ln, listO (ivs ns) 0) :: (k_addr% "aG") :: (k_addr% "dj") :: (l, listO xs nl) :: (k_addr% "cN") :: (f + 1, cellO (.ref rd)) :: (R ++ (x.2.2.2.1 ++ (y.2.2.2 ++ (Tr ++ Te))))) := by
   walk_at "et"
  exact Rz.appN (M1.drop1.drop1.drop1.drop1.drop1.drop1.drop1.drop1.drop1.right).nd hy.app
 have hA : Rz w (x.2.2.2.1 ++ (y.2.2.2 ++ (Tr ++ Te))) x.2.2.1 vs (fun v => turnI (r v)) := hx.1.app
 run_tac Mine.walk [``c_dneT] [] { stops := ["forLoop"], wd := true, lies := true }
 refine rm_sub (n' := 0) (news' := (I, litO ln (j + 1)) :: (ln, listO (ivs ns) 0) :: (k_addr% "aG") :: (k_addr% "dj") :: lawCells F l o f rd xs nl dI (k_addr% "y") (R ++ (Tr ++ Te))) (fun h M => ?_) ?_
 ·have M1 := M.choose [2, 3, 4, 5, 6, 7, 8, 0, 1] 9 rfl
  have M2 := Mm.drop_mid (P := [_, _, _, _, _, _, _, _, _]) M1
  exact Mm.drop_mid (P := [_, _, _, _, _, _, _, _, _]) M2
 ·have zz := rm_againB (n := 0) (c := lawLoop (.ref I) f) (V := ⟨prog1, w, h₀, 0, kt1 w, [], (aroundT 10 f), RR, d, 0, os⟩) (IH R Tr Te y.1 y.2.1 x.2.2.2.2 F rd a b ta tb vs r E Er O ⟨hx.2 hrest.1, hrest.2⟩) rfl (fun r n m i gl q => hR 0 r n m i gl q)
  run_tac Mine.byKernel `zz
end
theorem PlaceOk.perm {row row' : List Int} {v : Int} {p1 p2 : Value} (h : PlaceOk row v p1 p2 row') : row'.Perm (v :: row) := by
 rcases h with ⟨rfl, _, _, rfl⟩ | ⟨A, c, B, t, rfl, _, _, rfl⟩ | ⟨A, c, B, t, rfl, _, _, rfl⟩
 ·exact .refl _
 ·exact List.perm_middle
 ·have : A ++ c :: v :: B = (A ++ [c]) ++ v :: B := by simp
  rw [this]
  refine List.perm_middle.trans ?_
  simp
def allNames : List Lean.Name := [``r_getX, ``r_in, ``r_in0, ``r_setdef_in, ``r_setdef, ``r_set, ``eh_halfZ, ``rz_has, ``rz_has0] ++ intNames
abbrev tupIt (T : Addr) (k : Int) : Obj := ⟨.type "tuple_iterator", none, .fields ⟨[.ref T, .int k 0]⟩, #[]⟩
theorem addIf_ok {vs : List Int} {r : Int → List Int} (O : RowsOk vs r) {u : Int} (hu : Uo u) : RowsOk (addIf vs u) r := by
 refine ⟨fun v hv => ?_, fun v hv => O.out v fun h => hv (mem_addIf.mpr (.inl h)), fun v hv => ?_, fun v hv x hx => ?_⟩
 ·rcases mem_addIf.mp hv with h | rfl
  ·exact O.vo v h
  ·exact hu
 ·walk_at "bY"
  ·exact O.nd v h
  ·rw [O.out v h]; exact List.nodup_nil
 ·walk_at "bY"
  ·exact O.ro v h x hx
  ·rw [O.out v h] at hx; cases hx
theorem addIf_nodup {vs : List Int} (h : vs.Nodup) (u : Int) : (addIf vs u).Nodup := by
 unfold addIf
 split
 ·exact h
 ·rename_i q
  rw [List.nodup_append]
  exact ⟨h, by simp, fun a ha b hb => by rw [List.mem_singleton.mp hb]; exact fun e => q (e ▸ ha)⟩
section
variable (RR : Result → Shared → Prop)
 (I ln f l o : Addr) (j : Nat) (ns : List (Int × Tok)) (xs : List Value) (nl : Nat) (dI gd nd sd pd : Addr) (t1 t2 t3 t4 t5 n1 : Nat) (h1 h2 h3 h4 h5 : Int)
 (R Tr Te : News) (n m i : Nat) (gl : List GenState) (F : Fl) (rd : Addr) (a b : Int) (ta tb : Tok) (vs : List Int) (r : Int → List Int) (E : EmbC w Te nd sd pd vs r) (Er : Rz w Tr rd vs r) (O : Inv vs r)
include hpar K E Er O
theorem s3_name (hk : F.kd < 3) (hb : b ∉ r a) : RM ⟨prog1, w, h₀, 0, kt1 w, [], (aroundT 10 f), RR, d, 0, os⟩ g₀ n (lawLoop (.ref I) f) none .base (bodyT I f)
 (k_addr% "a") m i gl ∨ True := by
 have ho := O.ok.out a
 run_tac do
  let s ← Lean.saveState
  Lean.Elab.Tactic.evalTactic (← `(tactic| left))
  Mine.walk Mine.allNames [] { stops := ["forLoop"] }
  Mine.nameCode `Mine.innLoop (some s)
 exact Or.inr trivial
end
abbrev IX := Nat × Nat × News × News × List Int × (Int → List Int) × Fl × News
section
variable (J T0 f l o rd : Addr) (xs : List Value) (nl : Nat) (dI gd nd sd pd : Addr) (t1 t2 t3 t4 t5 n1 : Nat) (h1 h2 h3 h4 h5 : Int) (A0 B0 : Addr) (P : IX → Prop) (gl : List GenState)
include hpar K
theorem inn_end (R Tr Te : News) (m i : Nat) (F : Fl) (vs : List Int) (r : Int → List Int) (hP : ∀ m i, P (m, i, Tr, Te, vs, r, F, R)) :
 Ctr prog1 w h₀ d os g₀ (aroundL 300) (innLoop (.ref J) f) ((J, tupIt T0 2) :: (T0, tupO [.ref A0, .ref B0]) :: (k_addr% "cN") :: (f + 1, cellO (.ref rd)) :: (o, selfO dI) :: (k_addr% "b") :: (R ++ (Tr ++ Te))) m i gl
  (k_addr% "c") := by
 walk_at "d"
 run_tac Mine.walk [] []
 exact re_choose [4, 5, 6, 7] 8 rfl (hR 0 _ _ _ _ _ ⟨(_, _, Tr, Te, vs, r, F, R), hP _ _, rfl, rfl, rfl, rfl, rfl⟩)
theorem inn1_e_A (R Tr Te : News) (m i : Nat) (F : Fl) (vs : List Int) (r : Int → List Int) (u v : Int) (tu tv' : Tok) (E : EmbC w Te nd sd pd vs r) (Er : Rz w Tr rd vs r)
 (huv : u ≠ v) (ou : Uo u) (ov : Uo v) (hun : v ∉ r u) (hlr : (r u).length ≤ 300) (O0 : RowsOk vs r) (vn : vs.Nodup) (he : r u = []) (hrest : F.rest = [])
 (IHc : ∀ (G Tr Te : News) (m i : Nat) (F' : Fl) (p1 p2 : Value) (row : List Int) (hPl : PlaceOk (r u) v p1 p2 row) (B1 B2 B3 : Int) (e1 e2 e3 : Tok) (x0 : Int) (tx0 : Tok) (y0 z0 : Addr) (hrest : F'.rest = [⟨B1, .str "w" e1, .int x0 tx0⟩, ⟨B2, .str "row" e2, .ref y0⟩, ⟨B3, .str "place" e3, .ref z0⟩]) (hmo : F'.mo = F.mo.fdiv (Int.ofNat 7))
  (hE : EmbC w Te nd sd pd (addIf (addIf vs u) v) (upd r u row)) (hEr : Rz w Tr rd (addIf (addIf vs u) v) (upd r u row)),
  Ctr prog1 w h₀ d os g₀ (aroundL 300) (innLoop (.ref J) f) (k_addr% "m") m i gl
   (k_addr% "c")) :
 Ctr prog1 w h₀ d os g₀ (aroundL 300) (innLoop (.ref J) f) (k_addr% "k") m i gl
  (k_addr% "c") := by
 walk_at "h"
 simp only at hrest IHc
 subst hrest
 walk_at "U"
 rw [em] at IHc
 walk_at "an"
 walk_at "ck"
 walk_at "cl"
 walk_at "aD"
 walk_at "N"
 walk_at "g"
 clear IHc
 walk_at "d"
 walk_at "eC"
 intro x hx
 walk_at "E"
theorem inn1_e_B (R Tr Te : News) (m i : Nat) (F : Fl) (vs : List Int) (r : Int → List Int) (u v : Int) (tu tv' : Tok) (E : EmbC w Te nd sd pd vs r) (Er : Rz w Tr rd vs r)
 (huv : u ≠ v) (ou : Uo u) (ov : Uo v) (hun : v ∉ r u) (hlr : (r u).length ≤ 300) (O0 : RowsOk vs r) (vn : vs.Nodup) (he : r u = []) (B1 B2 B3 : Int) (e1 e2 e3 : Tok) (x0 : Int) (tx0 : Tok) (y0 z0 : Addr) (hrest : F.rest = [⟨B1, .str "w" e1, .int x0 tx0⟩, ⟨B2, .str "row" e2, .ref y0⟩, ⟨B3, .str "place" e3, .ref z0⟩])
 (IHc : ∀ (G Tr Te : News) (m i : Nat) (F' : Fl) (p1 p2 : Value) (row : List Int) (hPl : PlaceOk (r u) v p1 p2 row) (B1 B2 B3 : Int) (e1 e2 e3 : Tok) (x0 : Int) (tx0 : Tok) (y0 z0 : Addr) (hrest : F'.rest = [⟨B1, .str "w" e1, .int x0 tx0⟩, ⟨B2, .str "row" e2, .ref y0⟩, ⟨B3, .str "place" e3, .ref z0⟩]) (hmo : F'.mo = F.mo.fdiv (Int.ofNat 7))
  (hE : EmbC w Te nd sd pd (addIf (addIf vs u) v) (upd r u row)) (hEr : Rz w Tr rd (addIf (addIf vs u) v) (upd r u row)),
  Ctr prog1 w h₀ d os g₀ (aroundL 300) (innLoop (.ref J) f) (k_addr% "m") m i gl
   (k_addr% "c")) :
 Ctr prog1 w h₀ d os g₀ (aroundL 300) (innLoop (.ref J) f) (k_addr% "k") m i gl
  (k_addr% "c") := by
 walk_at "h"
 simp only at hrest IHc
 subst hrest
 walk_at "U"
 rw [em] at IHc
 walk_at "an"
 walk_at "ck"
 walk_at "cl"
 walk_at "aD"
 walk_at "N"
 walk_at "g"
 clear IHc
 walk_at "d"
 walk_at "eC"
 intro x hx
 walk_at "E"
theorem inn1_v_A (R Tr Te : News) (m i : Nat) (F : Fl) (vs : List Int) (r : Int → List Int) (u v : Int) (tu tv' : Tok) (E : EmbC w Te nd sd pd vs r) (Er : Rz w Tr rd vs r)
 (huv : u ≠ v) (ou : Uo u) (ov : Uo v) (hun : v ∉ r u) (hlr : (r u).length ≤ 300) (O0 : RowsOk vs r) (vn : vs.Nodup) (hne : r u ≠ []) (hp : F.mo.fmod (Int.ofNat 2) = Int.ofNat 0) (hrest : F.rest = [])
 (IHc : ∀ (G Tr Te : News) (m i : Nat) (F' : Fl) (p1 p2 : Value) (row : List Int) (hPl : PlaceOk (r u) v p1 p2 row) (B1 B2 B3 : Int) (e1 e2 e3 : Tok) (x0 : Int) (tx0 : Tok) (y0 z0 : Addr) (hrest : F'.rest = [⟨B1, .str "w" e1, .int x0 tx0⟩, ⟨B2, .str "row" e2, .ref y0⟩, ⟨B3, .str "place" e3, .ref z0⟩]) (hmo : F'.mo = F.mo.fdiv (Int.ofNat 7))
  (hE : EmbC w Te nd sd pd (addIf (addIf vs u) v) (upd r u row)) (hEr : Rz w Tr rd (addIf (addIf vs u) v) (upd r u row)),
  Ctr prog1 w h₀ d os g₀ (aroundL 300) (innLoop (.ref J) f) (k_addr% "m") m i gl
   (k_addr% "c")) :
 Ctr prog1 w h₀ d os g₀ (aroundL 300) (innLoop (.ref J) f) (k_addr% "k") m i gl
  (k_addr% "c") := by
 walk_at "h"
 simp only at hrest IHc hp
 subst hrest
 walk_at "U"
 rw [em] at IHc
 walk_at "an"
 walk_at "ck"
 walk_at "cl"
 walk_at "aD"
 walk_at "N"
 walk_at "g"
 clear IHc
 walk_at "d"
 walk_at "eD"
 intro x hx
 walk_at "E"
theorem inn1_v_B (R Tr Te : News) (m i : Nat) (F : Fl) (vs : List Int) (r : Int → List Int) (u v : Int) (tu tv' : Tok) (E : EmbC w Te nd sd pd vs r) (Er : Rz w Tr rd vs r)
 (huv : u ≠ v) (ou : Uo u) (ov : Uo v) (hun : v ∉ r u) (hlr : (r u).length ≤ 300) (O0 : RowsOk vs r) (vn : vs.Nodup) (hne : r u ≠ []) (hp : F.mo.fmod (Int.ofNat 2) = Int.ofNat 0) (B1 B2 B3 : Int) (e1 e2 e3 : Tok) (x0 : Int) (tx0 : Tok) (y0 z0 : Addr) (hrest : F.rest = [⟨B1, .str "w" e1, .int x0 tx0⟩, ⟨B2, .str "row" e2, .ref y0⟩, ⟨B3, .str "place" e3, .ref z0⟩])
 (IHc : ∀ (G Tr Te : News) (m i : Nat) (F' : Fl) (p1 p2 : Value) (row : List Int) (hPl : PlaceOk (r u) v p1 p2 row) (B1 B2 B3 : Int) (e1 e2 e3 : Tok) (x0 : Int) (tx0 : Tok) (y0 z0 : Addr) (hrest : F'.rest = [⟨B1, .str "w" e1, .int x0 tx0⟩, ⟨B2, .str "row" e2, .ref y0⟩, ⟨B3, .str "place" e3, .ref z0⟩]) (hmo : F'.mo = F.mo.fdiv (Int.ofNat 7))
  (hE : EmbC w Te nd sd pd (addIf (addIf vs u) v) (upd r u row)) (hEr : Rz w Tr rd (addIf (addIf vs u) v) (upd r u row)),
  Ctr prog1 w h₀ d os g₀ (aroundL 300) (innLoop (.ref J) f) (k_addr% "m") m i gl
   (k_addr% "c")) :
 Ctr prog1 w h₀ d os g₀ (aroundL 300) (innLoop (.ref J) f) (k_addr% "k") m i gl
  (k_addr% "c") := by
 walk_at "h"
 simp only at hrest IHc hp
 subst hrest
 walk_at "U"
 rw [em] at IHc
 walk_at "an"
 walk_at "ck"
 walk_at "cl"
 walk_at "aD"
 walk_at "N"
 walk_at "g"
 clear IHc
 walk_at "d"
 walk_at "eD"
 intro x hx
 walk_at "E"
theorem inn1_o_A (R Tr Te : News) (m i : Nat) (F : Fl) (vs : List Int) (r : Int → List Int) (u v : Int) (tu tv' : Tok) (E : EmbC w Te nd sd pd vs r) (Er : Rz w Tr rd vs r)
 (huv : u ≠ v) (ou : Uo u) (ov : Uo v) (hun : v ∉ r u) (hlr : (r u).length ≤ 300) (O0 : RowsOk vs r) (vn : vs.Nodup) (hne : r u ≠ []) (hp : F.mo.fmod (Int.ofNat 2) = Int.ofNat 1) (hrest : F.rest = [])
 (IHc : ∀ (G Tr Te : News) (m i : Nat) (F' : Fl) (p1 p2 : Value) (row : List Int) (hPl : PlaceOk (r u) v p1 p2 row) (B1 B2 B3 : Int) (e1 e2 e3 : Tok) (x0 : Int) (tx0 : Tok) (y0 z0 : Addr) (hrest : F'.rest = [⟨B1, .str "w" e1, .int x0 tx0⟩, ⟨B2, .str "row" e2, .ref y0⟩, ⟨B3, .str "place" e3, .ref z0⟩]) (hmo : F'.mo = F.mo.fdiv (Int.ofNat 7))
  (hE : EmbC w Te nd sd pd (addIf (addIf vs u) v) (upd r u row)) (hEr : Rz w Tr rd (addIf (addIf vs u) v) (upd r u row)),
  Ctr prog1 w h₀ d os g₀ (aroundL 300) (innLoop (.ref J) f) (k_addr% "m") m i gl
   (k_addr% "c")) :
 Ctr prog1 w h₀ d os g₀ (aroundL 300) (innLoop (.ref J) f) (k_addr% "k") m i gl
  (k_addr% "c") := by
 walk_at "h"
 simp only at hrest IHc hp
 subst hrest
 walk_at "U"
 rw [em] at IHc
 walk_at "an"
 walk_at "ck"
 walk_at "cl"
 walk_at "aD"
 walk_at "N"
 walk_at "g"
 clear IHc
 walk_at "d"
 walk_at "eE"
 intro x hx
 walk_at "E"
theorem inn1_o_B (R Tr Te : News) (m i : Nat) (F : Fl) (vs : List Int) (r : Int → List Int) (u v : Int) (tu tv' : Tok) (E : EmbC w Te nd sd pd vs r) (Er : Rz w Tr rd vs r)
 (huv : u ≠ v) (ou : Uo u) (ov : Uo v) (hun : v ∉ r u) (hlr : (r u).length ≤ 300) (O0 : RowsOk vs r) (vn : vs.Nodup) (hne : r u ≠ []) (hp : F.mo.fmod (Int.ofNat 2) = Int.ofNat 1) (B1 B2 B3 : Int) (e1 e2 e3 : Tok) (x0 : Int) (tx0 : Tok) (y0 z0 : Addr) (hrest : F.rest = [⟨B1, .str "w" e1, .int x0 tx0⟩, ⟨B2, .str "row" e2, .ref y0⟩, ⟨B3, .str "place" e3, .ref z0⟩])
 (IHc : ∀ (G Tr Te : News) (m i : Nat) (F' : Fl) (p1 p2 : Value) (row : List Int) (hPl : PlaceOk (r u) v p1 p2 row) (B1 B2 B3 : Int) (e1 e2 e3 : Tok) (x0 : Int) (tx0 : Tok) (y0 z0 : Addr) (hrest : F'.rest = [⟨B1, .str "w" e1, .int x0 tx0⟩, ⟨B2, .str "row" e2, .ref y0⟩, ⟨B3, .str "place" e3, .ref z0⟩]) (hmo : F'.mo = F.mo.fdiv (Int.ofNat 7))
  (hE : EmbC w Te nd sd pd (addIf (addIf vs u) v) (upd r u row)) (hEr : Rz w Tr rd (addIf (addIf vs u) v) (upd r u row)),
  Ctr prog1 w h₀ d os g₀ (aroundL 300) (innLoop (.ref J) f) (k_addr% "m") m i gl
   (k_addr% "c")) :
 Ctr prog1 w h₀ d os g₀ (aroundL 300) (innLoop (.ref J) f) (k_addr% "k") m i gl
  (k_addr% "c") := by
 walk_at "h"
 simp only at hrest IHc hp
 subst hrest
 walk_at "U"
 rw [em] at IHc
 walk_at "an"
 walk_at "ck"
 walk_at "cl"
 walk_at "aD"
 walk_at "N"
 walk_at "g"
 clear IHc
 walk_at "d"
 walk_at "eE"
 intro x hx
 walk_at "E"
theorem inn2_e_B (R Tr Te : News) (m i : Nat) (F : Fl) (vs : List Int) (r : Int → List Int) (u v : Int) (tu tv' : Tok) (E : EmbC w Te nd sd pd vs r) (Er : Rz w Tr rd vs r)
 (huv : u ≠ v) (ou : Uo u) (ov : Uo v) (hun : v ∉ r u) (hlr : (r u).length ≤ 300) (mu : u ∈ vs) (mv : v ∈ vs) (he : r u = []) (B1 B2 B3 : Int) (e1 e2 e3 : Tok) (x0 : Int) (tx0 : Tok) (y0 z0 : Addr) (hrest : F.rest = [⟨B1, .str "w" e1, .int x0 tx0⟩, ⟨B2, .str "row" e2, .ref y0⟩, ⟨B3, .str "place" e3, .ref z0⟩])
 (IHc : ∀ (G Tr Te : News) (m i : Nat) (F' : Fl) (p1 p2 : Value) (row : List Int) (hPl : PlaceOk (r u) v p1 p2 row) (B1 B2 B3 : Int) (e1 e2 e3 : Tok) (x0 : Int) (tx0 : Tok) (y0 z0 : Addr) (hrest : F'.rest = [⟨B1, .str "w" e1, .int x0 tx0⟩, ⟨B2, .str "row" e2, .ref y0⟩, ⟨B3, .str "place" e3, .ref z0⟩]) (hmo : F'.mo = F.mo.fdiv (Int.ofNat 7))
  (hE : EmbC w Te nd sd pd (addIf (addIf vs u) v) (upd r u row)) (hEr : Rz w Tr rd vs (upd r u row)),
  Ctr prog1 w h₀ d os g₀ (aroundL 300) (innLoop (.ref J) f) (k_addr% "Z") m i gl
   (k_addr% "c")) :
 Ctr prog1 w h₀ d os g₀ (aroundL 300) (innLoop (.ref J) f) (k_addr% "Q") m i gl
  (k_addr% "c") := by
 walk_at "h"
 simp only at hrest IHc
 subst hrest
 walk_at "U"
 rw [em] at IHc
 have z2 : vs.length ≤ 100 := by
  obtain ⟨A, G, _, H⟩ := E
  exact nodup_le H.vn H.vo
 walk_at "g"
 clear IHc
 walk_at "d"
 walk_at "eC"
 intro x hx
 walk_at "E"
theorem inn2_v_B (R Tr Te : News) (m i : Nat) (F : Fl) (vs : List Int) (r : Int → List Int) (u v : Int) (tu tv' : Tok) (E : EmbC w Te nd sd pd vs r) (Er : Rz w Tr rd vs r)
 (huv : u ≠ v) (ou : Uo u) (ov : Uo v) (hun : v ∉ r u) (hlr : (r u).length ≤ 300) (mu : u ∈ vs) (mv : v ∈ vs) (hne : r u ≠ []) (hp : F.mo.fmod (Int.ofNat 2) = Int.ofNat 0) (B1 B2 B3 : Int) (e1 e2 e3 : Tok) (x0 : Int) (tx0 : Tok) (y0 z0 : Addr) (hrest : F.rest = [⟨B1, .str "w" e1, .int x0 tx0⟩, ⟨B2, .str "row" e2, .ref y0⟩, ⟨B3, .str "place" e3, .ref z0⟩])
 (IHc : ∀ (G Tr Te : News) (m i : Nat) (F' : Fl) (p1 p2 : Value) (row : List Int) (hPl : PlaceOk (r u) v p1 p2 row) (B1 B2 B3 : Int) (e1 e2 e3 : Tok) (x0 : Int) (tx0 : Tok) (y0 z0 : Addr) (hrest : F'.rest = [⟨B1, .str "w" e1, .int x0 tx0⟩, ⟨B2, .str "row" e2, .ref y0⟩, ⟨B3, .str "place" e3, .ref z0⟩]) (hmo : F'.mo = F.mo.fdiv (Int.ofNat 7))
  (hE : EmbC w Te nd sd pd (addIf (addIf vs u) v) (upd r u row)) (hEr : Rz w Tr rd vs (upd r u row)),
  Ctr prog1 w h₀ d os g₀ (aroundL 300) (innLoop (.ref J) f) (k_addr% "Z") m i gl
   (k_addr% "c")) :
 Ctr prog1 w h₀ d os g₀ (aroundL 300) (innLoop (.ref J) f) (k_addr% "Q") m i gl
  (k_addr% "c") := by
 walk_at "h"
 simp only at hrest IHc hp
 subst hrest
 walk_at "U"
 rw [em] at IHc
 have z2 : vs.length ≤ 100 := by
  obtain ⟨A, G, _, H⟩ := E
  exact nodup_le H.vn H.vo
 walk_at "g"
 clear IHc
 walk_at "d"
 walk_at "eD"
 intro x hx
 walk_at "E"
theorem inn2_o_B (R Tr Te : News) (m i : Nat) (F : Fl) (vs : List Int) (r : Int → List Int) (u v : Int) (tu tv' : Tok) (E : EmbC w Te nd sd pd vs r) (Er : Rz w Tr rd vs r)
 (huv : u ≠ v) (ou : Uo u) (ov : Uo v) (hun : v ∉ r u) (hlr : (r u).length ≤ 300) (mu : u ∈ vs) (mv : v ∈ vs) (hne : r u ≠ []) (hp : F.mo.fmod (Int.ofNat 2) = Int.ofNat 1) (B1 B2 B3 : Int) (e1 e2 e3 : Tok) (x0 : Int) (tx0 : Tok) (y0 z0 : Addr) (hrest : F.rest = [⟨B1, .str "w" e1, .int x0 tx0⟩, ⟨B2, .str "row" e2, .ref y0⟩, ⟨B3, .str "place" e3, .ref z0⟩])
 (IHc : ∀ (G Tr Te : News) (m i : Nat) (F' : Fl) (p1 p2 : Value) (row : List Int) (hPl : PlaceOk (r u) v p1 p2 row) (B1 B2 B3 : Int) (e1 e2 e3 : Tok) (x0 : Int) (tx0 : Tok) (y0 z0 : Addr) (hrest : F'.rest = [⟨B1, .str "w" e1, .int x0 tx0⟩, ⟨B2, .str "row" e2, .ref y0⟩, ⟨B3, .str "place" e3, .ref z0⟩]) (hmo : F'.mo = F.mo.fdiv (Int.ofNat 7))
  (hE : EmbC w Te nd sd pd (addIf (addIf vs u) v) (upd r u row)) (hEr : Rz w Tr rd vs (upd r u row)),
  Ctr prog1 w h₀ d os g₀ (aroundL 300) (innLoop (.ref J) f) (k_addr% "Z") m i gl
   (k_addr% "c")) :
 Ctr prog1 w h₀ d os g₀ (aroundL 300) (innLoop (.ref J) f) (k_addr% "Q") m i gl
  (k_addr% "c") := by
 walk_at "h"
 simp only at hrest IHc hp
 subst hrest
 walk_at "U"
 rw [em] at IHc
 have z2 : vs.length ≤ 100 := by
  obtain ⟨A, G, _, H⟩ := E
  exact nodup_le H.vn H.vo
 walk_at "g"
 clear IHc
 walk_at "d"
 walk_at "eE"
 intro x hx
 walk_at "E"
end
theorem par2 (a : Int) : a.fmod (Int.ofNat 2) = Int.ofNat 0 ∨ a.fmod (Int.ofNat 2) = Int.ofNat 1 := by
 obtain ⟨j, h, hj⟩ := fmod_nat a 1
 have : j = 0 ∨ j = 1 := by omega
 rcases this with rfl | rfl
 ·exact .inl h
 ·exact .inr h
theorem inv_add {vs : List Int} {r : Int → List Int} (O : Inv vs r) {a b : Int} {row row2 : List Int} (hab : a ≠ b) (ha6 : 0 ≤ a ∧ a < 6) (hb6 : 0 ≤ b ∧ b < 6) (hna : b ∉ r a) (hnb : a ∉ r b) (p1 : row.Perm (b :: r a)) (p2 : row2.Perm (a :: r b)) :
  Inv (addIf (addIf vs a) b) (upd (upd r a row) b row2) := by
 have hba : b ≠ a := fun e => hab e.symm
 have ms : ∀ z, z ∈ addIf (addIf vs a) b ↔ z ∈ vs ∨ z = a ∨ z = b := fun z => by rw [mem_addIf, mem_addIf, or_assoc]
 have six : ∀ v ∈ addIf (addIf vs a) b, 0 ≤ v ∧ v < 6 := fun v hv => by
  rcases (ms v).mp hv with h | rfl | rfl
  ·exact O.six v h
  ·exact ha6
  ·exact hb6
 have ra : upd (upd r a row) b row2 a = row := by rw [upd_ne _ _ hab, upd_self]
 have rb : upd (upd r a row) b row2 b = row2 := upd_self _ _ _
 have ro : ∀ z, z ≠ a → z ≠ b → upd (upd r a row) b row2 z = r z := fun z h1 h2 => by rw [upd_ne _ _ h2, upd_ne _ _ h1]
 have m1 : ∀ z, z ∈ row ↔ z = b ∨ z ∈ r a := fun z => p1.mem_iff.trans List.mem_cons
 have m2 : ∀ z, z ∈ row2 ↔ z = a ∨ z ∈ r b := fun z => p2.mem_iff.trans List.mem_cons
 have inr : ∀ v u, u ∈ r v → v ∈ vs ∧ u ∈ vs := fun v u hu => by
  walk_at "bY"
  ·exact ⟨h, O.rv v h u hu⟩
  ·rw [O.ok.out v h] at hu; cases hu
 have mem : ∀ v u, u ∈ upd (upd r a row) b row2 v ↔ u ∈ r v ∨ (v = a ∧ u = b) ∨ (v = b ∧ u = a) := fun v u => by
  rcases Classical.em (v = a) with rfl | h1
  ·rw [ra, m1]
   constructor
   ·rintro (h | h)
    ·exact .inr (.inl ⟨rfl, h⟩)
    ·exact .inl h
   ·rintro (h | ⟨_, h⟩ | ⟨h, _⟩)
    ·exact .inr h
    ·exact .inl h
    ·exact absurd h hab
  ·rcases Classical.em (v = b) with rfl | h2
   ·rw [rb, m2]
    constructor
    ·rintro (h | h)
     ·exact .inr (.inr ⟨rfl, h⟩)
     ·exact .inl h
    ·rintro (h | ⟨h, _⟩ | ⟨_, h⟩)
     ·exact .inr h
     ·exact absurd h h1
     ·exact .inl h
   ·rw [ro v h1 h2]
    constructor
    ·exact .inl
    ·rintro (h | ⟨h, _⟩ | ⟨h, _⟩)
     ·exact h
     ·exact absurd h h1
     ·exact absurd h h2
 refine ⟨⟨fun v hv => ?_, fun v hv => ?_, fun v hv => ?_, fun v hv u hu => ?_⟩, six, fun v hv u hu => ?_, fun v hv u hu => ?_, addIf_nodup (addIf_nodup O.vn a) b⟩
 ·have := six v hv; exact ⟨this.1, by omega⟩
 ·have h1 : v ≠ a := fun e => hv ((ms v).mpr (.inr (.inl e)))
  have h2 : v ≠ b := fun e => hv ((ms v).mpr (.inr (.inr e)))
  rw [ro v h1 h2]
  exact O.ok.out v fun h => hv ((ms v).mpr (.inl h))
 ·rcases Classical.em (v = a) with rfl | h1
  ·rw [ra]
   refine p1.nodup_iff.mpr (List.nodup_cons.mpr ⟨hna, ?_⟩)
   walk_at "bY"
   ·exact O.ok.nd v h
   ·rw [O.ok.out v h]; exact List.nodup_nil
  ·rcases Classical.em (v = b) with rfl | h2
   ·rw [rb]
    refine p2.nodup_iff.mpr (List.nodup_cons.mpr ⟨hnb, ?_⟩)
    walk_at "bY"
    ·exact O.ok.nd v h
    ·rw [O.ok.out v h]; exact List.nodup_nil
   ·rw [ro v h1 h2]
    have : v ∈ vs := by
     rcases (ms v).mp hv with h | h | h
     ·exact h
     ·exact absurd h h1
     ·exact absurd h h2
    exact O.ok.nd v this
 ·have : u ∈ addIf (addIf vs a) b := by
   rcases (mem v u).mp hu with h | ⟨_, h⟩ | ⟨_, h⟩
   ·exact (ms u).mpr (.inl (inr v u h).2)
   ·exact (ms u).mpr (.inr (.inr h))
   ·exact (ms u).mpr (.inr (.inl h))
  have := six u this
  exact ⟨this.1, by omega⟩
 ·rcases (mem v u).mp hu with h | ⟨_, h⟩ | ⟨_, h⟩
  ·exact (ms u).mpr (.inl (inr v u h).2)
  ·exact (ms u).mpr (.inr (.inr h))
  ·exact (ms u).mpr (.inr (.inl h))
 ·rw [mem]
  rcases (mem v u).mp hu with h | ⟨h1, h2⟩ | ⟨h1, h2⟩
  ·exact .inl (O.sym v (inr v u h).1 u h)
  ·exact .inr (.inr ⟨h2, h1⟩)
  ·exact .inr (.inl ⟨h2, h1⟩)
section
variable (J T0 f l o rd : Addr) (dI gd nd sd pd : Addr) (t1 t2 t3 t4 t5 n1 : Nat) (h1 h2 h3 h4 h5 : Int) (A0 B0 : Addr) (gl : List GenState)
 (R Tr Te : News) (m i : Nat) (F : Fl) (vs : List Int) (r : Int → List Int) (u v : Int) (tu tv' : Tok) (E : EmbC w Te nd sd pd vs r) (Er : Rz w Tr rd vs r) (O : Inv vs r)
 (huv : u ≠ v) (hu6 : 0 ≤ u ∧ u < 6) (hv6 : 0 ≤ v ∧ v < 6) (hun : v ∉ r u) (hrest : RestS F.rest)
include hpar K E Er O huv hu6 hv6 hun hrest
theorem inn_all : Ctr prog1 w h₀ d os g₀ (aroundL 300) (innLoop (.ref J) f) (k_addr% "k") m i gl
  (k_addr% "K") := by
 walk_at "cy"
 have ou : Uo u := ⟨hu6.1, by omega⟩
 have ov : Uo v := ⟨hv6.1, by omega⟩
 have hnv : u ∉ r v := by
  intro q
  walk_at "bY"
  ·exact hun (O.sym v h u q)
  ·rw [O.ok.out v h] at q; cases q
 have len : ∀ z, (r z).length ≤ 300 := fun z => by
  rcases Classical.em (z ∈ vs) with h | h
  ·have := O.ok.len h; omega
  ·rw [O.ok.out z h]; exact Nat.zero_le _
 have mu : u ∈ addIf (addIf vs u) v := mem_addIf.mpr (.inl (mem_addIf.mpr (.inr rfl)))
 have mv : v ∈ addIf (addIf vs u) v := mem_addIf.mpr (.inr rfl)
 have evs : addIf (addIf (addIf (addIf vs u) v) v) u = addIf (addIf vs u) v := by rw [addIf_in mv, addIf_in mu]
 have IHc : ∀ (G Tr Te : News) (m i : Nat) (F' : Fl) (p1 p2 : Value) (row : List Int) (hPl : PlaceOk (r u) v p1 p2 row) (B1 B2 B3 : Int) (e1 e2 e3 : Tok) (x0 : Int) (tx0 : Tok) (y0 z0 : Addr) (hrest : F'.rest = [⟨B1, .str "w" e1, .int x0 tx0⟩, ⟨B2, .str "row" e2, .ref y0⟩, ⟨B3, .str "place" e3, .ref z0⟩]) (hmo : F'.mo = F.mo.fdiv (Int.ofNat 7))
   (hE : EmbC w Te nd sd pd (addIf (addIf vs u) v) (upd r u row)) (hEr : Rz w Tr rd (addIf (addIf vs u) v) (upd r u row)),
   Ctr prog1 w h₀ d os g₀ (aroundL 300) (innLoop (.ref J) f) (k_addr% "m") m i gl
    (k_addr% "K") := by
  intro G Tr Te m i F' p1 p2 row hPl B1 B2 B3 e1 e2 e3 x0 tx0 y0 z0 hrest' hmo hE hEr
  have hr1 : upd r u row v = r v := upd_ne _ _ hvu
  have IH2 := fun (G2 Tr Te : News) (m i : Nat) (F2 : Fl) (q1 q2 : Value) (row2 : List Int) (hPl2 : PlaceOk (upd r u row v) u q1 q2 row2) (B1 B2 B3 : Int) (e1 e2 e3 : Tok) (x0 : Int) (tx0 : Tok) (y0 z0 : Addr) (hrest2 : F2.rest = [⟨B1, .str "w" e1, .int x0 tx0⟩, ⟨B2, .str "row" e2, .ref y0⟩, ⟨B3, .str "place" e3, .ref z0⟩]) (_ : F2.mo = F'.mo.fdiv (Int.ofNat 7))
   (hE2 : EmbC w Te nd sd pd (addIf (addIf (addIf (addIf vs u) v) v) u) (upd (upd r u row) v row2)) (hEr2 : Rz w Tr rd (addIf (addIf vs u) v) (upd (upd r u row) v row2)) => inn_end w b1 b2 hpar h₀ K d os g₀ J T0 f l o rd dI gd nd sd pd t1 t2 t3 t4 t5 n1 h1 h2 h3 h4 h5 A0 B0 (k_addr% "bQ") gl (G2 ++ (G ++ R)) Tr Te m i F2 (addIf (addIf vs u) v) (upd (upd r u row) v row2)
    (fun m i => ⟨by rw [evs] at hE2; exact hE2, hEr2, inv_add O huv hu6 hv6 hun hnv hPl.perm (by rw [hr1] at hPl2; exact hPl2.perm), .inr ⟨B1, B2, B3, e1, e2, e3, x0, tx0, y0, z0, hrest2⟩, G2 ++ G, (List.append_assoc _ _ _).symm⟩)
  have hun2 : u ∉ upd r u row v := by rw [hr1]; exact hnv
  have hl2 : (upd r u row v).length ≤ 300 := by rw [hr1]; exact len v
  rcases Classical.em (upd r u row v = []) with he | hne
  ·exact inn2_e_B w b1 b2 hpar h₀ K d os g₀ J T0 f l o rd dI gd nd sd pd t1 t2 t3 t4 t5 n1 h1 h2 h3 h4 h5 A0 B0 _ gl (G ++ R) Tr Te m i F' _ _ v u tv' tu hE hEr hvu ov ou hun2 hl2 mv mu he B1 B2 B3 e1 e2 e3 x0 tx0 y0 z0 hrest' IH2
  ·rcases par2 F'.mo with hp | hp
   ·exact inn2_v_B w b1 b2 hpar h₀ K d os g₀ J T0 f l o rd dI gd nd sd pd t1 t2 t3 t4 t5 n1 h1 h2 h3 h4 h5 A0 B0 _ gl (G ++ R) Tr Te m i F' _ _ v u tv' tu hE hEr hvu ov ou hun2 hl2 mv mu hne hp B1 B2 B3 e1 e2 e3 x0 tx0 y0 z0 hrest' IH2
   ·exact inn2_o_B w b1 b2 hpar h₀ K d os g₀ J T0 f l o rd dI gd nd sd pd t1 t2 t3 t4 t5 n1 h1 h2 h3 h4 h5 A0 B0 _ gl (G ++ R) Tr Te m i F' _ _ v u tv' tu hE hEr hvu ov ou hun2 hl2 mv mu hne hp B1 B2 B3 e1 e2 e3 x0 tx0 y0 z0 hrest' IH2
 rcases hrest with hA | ⟨B1, B2, B3, e1, e2, e3, x0, tx0, y0, z0, hB⟩
 ·rcases Classical.em (r u = []) with he | hne
  ·exact inn1_e_A w b1 b2 hpar h₀ K d os g₀ J T0 f l o rd dI gd nd sd pd t1 t2 t3 t4 t5 n1 h1 h2 h3 h4 h5 A0 B0 _ gl R Tr Te m i F vs r u v tu tv' E Er huv ou ov hun (len u) O.ok O.vn he hA IHc
  ·rcases par2 F.mo with hp | hp
   ·exact inn1_v_A w b1 b2 hpar h₀ K d os g₀ J T0 f l o rd dI gd nd sd pd t1 t2 t3 t4 t5 n1 h1 h2 h3 h4 h5 A0 B0 _ gl R Tr Te m i F vs r u v tu tv' E Er huv ou ov hun (len u) O.ok O.vn hne hp hA IHc
   ·exact inn1_o_A w b1 b2 hpar h₀ K d os g₀ J T0 f l o rd dI gd nd sd pd t1 t2 t3 t4 t5 n1 h1 h2 h3 h4 h5 A0 B0 _ gl R Tr Te m i F vs r u v tu tv' E Er huv ou ov hun (len u) O.ok O.vn hne hp hA IHc
 ·rcases Classical.em (r u = []) with he | hne
  ·exact inn1_e_B w b1 b2 hpar h₀ K d os g₀ J T0 f l o rd dI gd nd sd pd t1 t2 t3 t4 t5 n1 h1 h2 h3 h4 h5 A0 B0 _ gl R Tr Te m i F vs r u v tu tv' E Er huv ou ov hun (len u) O.ok O.vn he B1 B2 B3 e1 e2 e3 x0 tx0 y0 z0 hB IHc
  ·rcases par2 F.mo with hp | hp
   ·exact inn1_v_B w b1 b2 hpar h₀ K d os g₀ J T0 f l o rd dI gd nd sd pd t1 t2 t3 t4 t5 n1 h1 h2 h3 h4 h5 A0 B0 _ gl R Tr Te m i F vs r u v tu tv' E Er huv ou ov hun (len u) O.ok O.vn hne hp B1 B2 B3 e1 e2 e3 x0 tx0 y0 z0 hB IHc
   ·exact inn1_o_B w b1 b2 hpar h₀ K d os g₀ J T0 f l o rd dI gd nd sd pd t1 t2 t3 t4 t5 n1 h1 h2 h3 h4 h5 A0 B0 _ gl R Tr Te m i F vs r u v tu tv' E Er huv ou ov hun (len u) O.ok O.vn hne hp B1 B2 B3 e1 e2 e3 x0 tx0 y0 z0 hB IHc
end
theorem Mm.dropG {h₀ h : Heap} {P G X T : News} (M : Mm h₀ h (P ++ ((G ++ X) ++ T))) : Mm h₀ h (P ++ (X ++ T)) := by
 rw [List.append_assoc G X T] at M
 exact (M.perm (List.perm_append_comm_assoc P G (X ++ T))).right
section
variable (RR : Result → Shared → Prop)
 (I ln f l o : Addr) (j : Nat) (ns : List (Int × Tok)) (xs : List Value) (nl : Nat) (dI gd nd sd pd : Addr) (t1 t2 t3 t4 t5 n1 : Nat) (h1 h2 h3 h4 h5 : Int)
 (QF : Post) (hR : ∀ n r news' m' i' gl', QF r news' m' i' gl' → RE ⟨prog1, w, h₀, 0, kt1 w, [], (aroundT 10 f), RR, d, 0, os⟩ g₀ n r news' m' i' gl')
 (IH : ∀ (R Tr Te : News) (m i : Nat) (gl : List GenState) (F : Fl) (rd : Addr) (a b : Int) (ta tb : Tok) (vs : List Int) (r : Int → List Int), EmbC w Te nd sd pd vs r → Rz w Tr rd vs r → Inv vs r → RestOk gl F.rest →
  Ctr prog1 w h₀ d os g₀ ((aroundT 10 f)) (lawLoop (.ref I) f) (k_addr% "a") m i gl QF)
 (R Tr Te : News) (n m i : Nat) (gl : List GenState) (F : Fl) (rd : Addr) (a b : Int) (ta tb : Tok) (vs : List Int) (r : Int → List Int) (E : EmbC w Te nd sd pd vs r) (Er : Rz w Tr rd vs r) (O : Inv vs r) (hrest : RestOk gl F.rest)
 (hab : a ≠ b) (ha6 : 0 ≤ a ∧ a < 6) (hb6 : 0 ≤ b ∧ b < 6)
include hpar K hR IH E Er O hab ha6 hb6 hrest
theorem p1_ok (hk : F.kd < 3) (hb : b ∉ r a) : RM ⟨prog1, w, h₀, 0, kt1 w, [], (aroundT 10 f), RR, d, 0, os⟩ g₀ n (lawLoop (.ref I) f) none .base (bodyT I f)
 (k_addr% "a") m i gl := by
 have ho := O.ok.out a
 walk_at "o"
 clear IH
 have hrs := hrest.2
 run_tac Mine.walk ([``inn_all] ++ Mine.allNames) [] { stops := ["forLoop"] }
 intro x hx
 obtain ⟨hx1, hx2⟩ := hx
 run_tac Mine.walkAt ([``inn_all] ++ Mine.allNames) 716 11 [] 1 60 true
 rintro ⟨m1, i1, Tr1, Te1, vs1, r1, F1, R1⟩ ⟨y1, y2, y3, y4, G, hG⟩
 simp only at hG
 subst hG
 refine rm_sub (n' := 0) (news' := (I, litO ln (j + 1)) :: (ln, listO (ivs ns) 0) :: (k_addr% "aG") :: (k_addr% "dj") :: lawCells F1 l o f rd xs nl dI (k_addr% "y") (R ++ (Tr1 ++ Te1))) (fun h M => ?_) ?_
 ·have M1 := Mm.dropG (P := [_, _, _, _]) M
  exact M1.choose [4, 5, 6, 7, 8, 0, 1, 2, 3] 9 rfl
 ·have zz := TT 0 R Tr1 Te1 m1 i1 gl F1 rd ta tb vs1 r1 y1 y2 y3 ⟨hrest.1, y4⟩
  run_tac Mine.byKernel `zz
end
abbrev Gr.cut (G : Gr) (u v : Int) : Gr := (((G.offK u v).offQ v u).offK v u).offQ u v
abbrev Gr.join (G : Gr) (u c r : Int) : Gr := (G.setY u c r).setX u r c
theorem cut_ks1 {G : Gr} {u v : Int} (h : u ≠ v) : (G.cut u v).ks u = offI (G.ks u) v := by
 show upd (upd G.ks u (offI (G.ks u) v)) v _ u = _
 rw [upd_ne _ _ h, upd_self]
theorem cut_ks2 {G : Gr} {u v : Int} (h : u ≠ v) : (G.cut u v).ks v = offI (G.ks v) u := by
 show upd (upd G.ks u (offI (G.ks u) v)) v (offI (upd G.ks u (offI (G.ks u) v) v) u) v = _
 rw [upd_self, upd_ne _ _ (fun e => h e.symm)]
section
variable (R T : News) (m i : Nat) (gl : List GenState)
 (o dI gd nd sd pd : Addr) (t1 t2 t3 t4 t5 n1 : Nat) (h1 h2 h3 h4 h5 : Int) (A : Ad) (G : Gr) (E : Emb w T nd sd pd A G)
 (u v : Int) (tu tv : Tok) (huv : u ≠ v) (hu : u ∈ G.sv) (hv : v ∈ G.sv) (hup : u ∈ G.pv) (hvp : v ∈ G.pv) (kuv : v ∈ G.ks u) (kvu : u ∈ G.ks v) (quv : u ∈ G.ps v) (qvu : v ∈ G.ps u)
include hpar K E huv hu hv hup hvp kuv kvu quv qvu
theorem er_ss (s1 : v = G.x u v) (s2 : u = G.x v u) :
 Ctr prog1 w h₀ d os g₀ (aroundL 350) (k_addr% "bw") (k_addr% "i") m i gl
  (exQ (Nat × Nat × News) (fun x => Emb w x.2.2 nd sd pd A (G.cut u v)) (k_addr% "s") (k_addr% "v") (fun x => x.1) (fun x => x.2.1) (fun _ => gl)) := by
 walk_at "cy"
 walk_at "bt"
 walk_at "aC"
 walk_at "d"
 walk_at "cH"
 run_tac Mine.done
 run_tac Mine.ands
 assumption
theorem er_sd (s1 : v = G.x u v) (s2 : u ≠ G.x v u) (k4 : G.x v u ∈ G.ks v) (k5 : G.y v u ∈ G.ks v) (k6 : u ≠ G.y v u) :
 Ctr prog1 w h₀ d os g₀ (aroundL 350) (k_addr% "bw") (k_addr% "i") m i gl
  (exQ (Nat × Nat × News) (fun x => Emb w x.2.2 nd sd pd A ((G.cut u v).join v (G.x v u) (G.y v u))) (k_addr% "s") (k_addr% "v") (fun x => x.1) (fun x => x.2.1) (fun _ => gl)) := by
 walk_at "cy"
 walk_at "bt"
 walk_at "aC"
 have f5 : G.x v u ∈ (G.cut u v).ks v := by rw [cut_ks2 huv]; exact mem_offI.mpr ⟨k4, fun e => s2 e.symm⟩
 have f6 : G.y v u ∈ (G.cut u v).ks v := by rw [cut_ks2 huv]; exact mem_offI.mpr ⟨k5, fun e => k6 e.symm⟩
 walk_at "d"
 walk_at "cH"
 run_tac Mine.done
 run_tac Mine.ands
 assumption
theorem er_ds (s1 : v ≠ G.x u v) (k1 : G.x u v ∈ G.ks u) (k2 : G.y u v ∈ G.ks u) (k3 : v ≠ G.y u v) (s2 : u = G.x v u) :
 Ctr prog1 w h₀ d os g₀ (aroundL 350) (k_addr% "bw") (k_addr% "i") m i gl
  (exQ (Nat × Nat × News) (fun x => Emb w x.2.2 nd sd pd A ((G.cut u v).join u (G.x u v) (G.y u v))) (k_addr% "s") (k_addr% "v") (fun x => x.1) (fun x => x.2.1) (fun _ => gl)) := by
 walk_at "cy"
 walk_at "bt"
 walk_at "aC"
 have f3 : G.x u v ∈ (G.cut u v).ks u := by rw [cut_ks1 huv]; exact mem_offI.mpr ⟨k1, fun e => s1 e.symm⟩
 have f4 : G.y u v ∈ (G.cut u v).ks u := by rw [cut_ks1 huv]; exact mem_offI.mpr ⟨k2, fun e => k3 e.symm⟩
 walk_at "d"
 walk_at "cH"
 run_tac Mine.done
 run_tac Mine.ands
 assumption
theorem er_dd (s1 : v ≠ G.x u v) (k1 : G.x u v ∈ G.ks u) (k2 : G.y u v ∈ G.ks u) (k3 : v ≠ G.y u v) (s2 : u ≠ G.x v u) (k4 : G.x v u ∈ G.ks v) (k5 : G.y v u ∈ G.ks v) (k6 : u ≠ G.y v u) :
 Ctr prog1 w h₀ d os g₀ (aroundL 350) (k_addr% "bw") (k_addr% "i") m i gl
  (exQ (Nat × Nat × News) (fun x => Emb w x.2.2 nd sd pd A (((G.cut u v).join u (G.x u v) (G.y u v)).join v (G.x v u) (G.y v u))) (k_addr% "s") (k_addr% "v") (fun x => x.1) (fun x => x.2.1) (fun _ => gl)) := by
 walk_at "cy"
 walk_at "bt"
 walk_at "aC"
 have f3 : G.x u v ∈ (G.cut u v).ks u := by rw [cut_ks1 huv]; exact mem_offI.mpr ⟨k1, fun e => s1 e.symm⟩
 have f4 : G.y u v ∈ (G.cut u v).ks u := by rw [cut_ks1 huv]; exact mem_offI.mpr ⟨k2, fun e => k3 e.symm⟩
 have f5 : G.x v u ∈ (G.cut u v).ks v := by rw [cut_ks2 huv]; exact mem_offI.mpr ⟨k4, fun e => s2 e.symm⟩
 have f6 : G.y v u ∈ (G.cut u v).ks v := by rw [cut_ks2 huv]; exact mem_offI.mpr ⟨k5, fun e => k6 e.symm⟩
 walk_at "d"
 walk_at "cH"
 run_tac Mine.done
 run_tac Mine.ands
 assumption
end
theorem offI_split {A B : List Int} {v : Int} (nd : (A ++ v :: B).Nodup) : offI (A ++ v :: B) v = A ++ B := by
 have h := nd
 rw [List.nodup_append, List.nodup_cons] at h
 have ha : ∀ z ∈ A, z ≠ v := fun z hz e => h.2.2 z hz v (by simp) e
 have hb : ∀ z ∈ B, z ≠ v := fun z hz e => h.2.1.1 (by rw [← e]; exact hz)
 unfold offI
 rw [List.filter_append, List.filter_cons, if_neg (by simp)]
 congr 1
 ·exact List.filter_eq_self.mpr fun z hz => by simpa using ha z hz
 ·exact List.filter_eq_self.mpr fun z hz => by simpa using hb z hz
theorem offI_perm {l m : List Int} (h : l.Perm m) (v : Int) : (offI l v).Perm (offI m v) := h.filter _
theorem offI_nodup {l : List Int} (h : l.Nodup) (v : Int) : (offI l v).Nodup := h.sublist List.filter_sublist
theorem Cyc.off {x y : Int → Int} {l : List Int} {v : Int} (h : Cyc x y l) (nd : l.Nodup) (hv : v ∈ l) :
  (v = x v ∧ offI l v = []) ∨ (v ≠ x v ∧ v ≠ y v ∧ x v ∈ l ∧ y v ∈ l ∧ Cyc (updI x (y v) (x v)) (updI y (x v) (y v)) (offI l v)) := by
 obtain ⟨A, B, rfl⟩ := List.append_of_mem hv
 rw [offI_split nd]
 have hr : Cyc x y (v :: B ++ A) := Cyc.rot h
 have nd' : (v :: (B ++ A)).Nodup := (List.perm_append_comm (l₁ := A) (l₂ := v :: B)).nodup_iff.mp nd
 rcases hD : B ++ A with _ | ⟨d, D⟩
 ·left
  have e : B = [] ∧ A = [] := by simpa using hD
  rw [e.1, e.2] at hr ⊢
  exact ⟨(Cyc.one hr).1.symm, rfl⟩
 ·right
  rw [List.cons_append] at hr
  obtain ⟨c1, c2, c3⟩ := hr.del nd' (by rw [hD]; simp)
  have pm : ∀ z, z ∈ B ++ A → z ∈ A ++ v :: B := fun z hz => by
   rcases List.mem_append.mp hz with q | q
   ·exact List.mem_append.mpr (.inr (.tail _ q))
   ·exact List.mem_append.mpr (.inl q)
  have hn := (List.nodup_cons.mp nd').1
  exact ⟨fun e => hn (by rw [e]; exact c2), fun e => hn (by rw [e]; exact c3), pm _ c2, pm _ c3, Cyc.rot c1⟩
section
variable {G G' : Gr} {vs : List Int} {r : Int → List Int}
abbrev cutR (r : Int → List Int) (u v : Int) : Int → List Int := upd (upd r u (offI (r u) v)) v (offI (r v) u)
theorem Good.rem (H : Good G vs r) {u v : Int} (hu : u ∈ vs) (hv : v ∈ vs) (huv : u ≠ v) (e1 : G'.sv = G.sv) (e2 : G'.pv = G.pv) (e3 : G'.nv = G.nv)
  (ku : G'.ks u = offI (G.ks u) v) (kv : G'.ks v = offI (G.ks v) u) (ko : ∀ z, z ≠ u → z ≠ v → G'.ks z = G.ks z) (pu : G'.ps u = offI (G.ps u) v) (pv : G'.ps v = offI (G.ps v) u) (po : ∀ z, z ≠ u → z ≠ v → G'.ps z = G.ps z)
  (cu : Cyc (G'.x u) (G'.y u) (offI (r u) v)) (cv : Cyc (G'.x v) (G'.y v) (offI (r v) u)) (co : ∀ z, z ≠ u → z ≠ v → G'.x z = G.x z ∧ G'.y z = G.y z) : Good G' vs (cutR r u v) := by
 walk_at "cy"
 have ru : cutR r u v u = offI (r u) v := by show upd (upd r u _) v _ u = _; rw [upd_ne _ _ huv, upd_self]
 have rv : cutR r u v v = offI (r v) u := upd_self _ _ _
 have ro : ∀ z, z ≠ u → z ≠ v → cutR r u v z = r z := fun z q1 q2 => by show upd (upd r u _) v _ z = _; rw [upd_ne _ _ q2, upd_ne _ _ q1]
 have cases3 : ∀ z : Int, z = u ∨ z = v ∨ (z ≠ u ∧ z ≠ v) := fun z => by
  rcases Classical.em (z = u) with h | h
  ·exact .inl h
  ·rcases Classical.em (z = v) with h' | h'
   ·exact .inr (.inl h')
   ·exact .inr (.inr ⟨h, h'⟩)
 have mem : ∀ z y, y ∈ cutR r u v z ↔ y ∈ r z ∧ ¬ (z = u ∧ y = v) ∧ ¬ (z = v ∧ y = u) := fun z y => by
  rcases cases3 z with rfl | rfl | ⟨q1, q2⟩
  ·rw [ru, mem_offI]; simp [huv]
  ·rw [rv, mem_offI]; simp [hvu]
  ·rw [ro z q1 q2]; simp [q1, q2]
 refine ⟨e1.trans H.sv, e2.trans H.pv, e3.trans H.nv, H.vn, H.vo, fun z hz => ?_, fun z hz => ?_, fun z hz => ?_, fun z hz => ?_, fun z hz y hy => ?_, fun z hz q => ?_, fun z hz y => ?_⟩
 ·rw [ro z (fun e => hz (by rw [e]; exact hu)) (fun e => hz (by rw [e]; exact hv))]; exact H.out z hz
 ·rcases cases3 z with rfl | rfl | ⟨q1, q2⟩
  ·rw [ru, ku]; exact offI_perm (H.kp z hz) v
  ·rw [rv, kv]; exact offI_perm (H.kp z hz) u
  ·rw [ro z q1 q2, ko z q1 q2]; exact H.kp z hz
 ·rcases cases3 z with rfl | rfl | ⟨q1, q2⟩
  ·rw [ru]; exact cu
  ·rw [rv]; exact cv
  ·rw [ro z q1 q2, (co z q1 q2).1, (co z q1 q2).2]; exact H.cy z hz
 ·rcases cases3 z with rfl | rfl | ⟨q1, q2⟩
  ·rw [ru]; exact offI_nodup (H.nd z hz) v
  ·rw [rv]; exact offI_nodup (H.nd z hz) u
  ·rw [ro z q1 q2]; exact H.nd z hz
 ·exact H.rv z hz y ((mem z y).mp hy).1
 ·exact H.nl z hz ((mem z z).mp q).1
 ·rcases cases3 z with h | h | ⟨q1, q2⟩
  ·rw [h, pu, mem_offI, H.qp u hu y, mem]
   constructor
   ·rintro ⟨⟨s1, s2⟩, s3⟩; exact ⟨s1, s2, fun s => huv s.2, fun s => s3 s.1⟩
   ·rintro ⟨s1, s2, s3, s4⟩; exact ⟨⟨s1, s2⟩, fun e => s4 ⟨e, rfl⟩⟩
  ·rw [h, pv, mem_offI, H.qp v hv y, mem]
   constructor
   ·rintro ⟨⟨s1, s2⟩, s3⟩; exact ⟨s1, s2, fun s => s3 s.1, fun s => hvu s.2⟩
   ·rintro ⟨s1, s2, s3, s4⟩; exact ⟨⟨s1, s2⟩, fun e => s3 ⟨e, rfl⟩⟩
  ·rw [po z q1 q2, H.qp z hz y, mem]
   constructor
   ·rintro ⟨s1, s2⟩; exact ⟨s1, s2, fun s => q2 s.2, fun s => q1 s.2⟩
   ·rintro ⟨s1, s2, _⟩; exact ⟨s1, s2⟩
theorem cut_ps1 {G : Gr} {u v : Int} (h : u ≠ v) : (G.cut u v).ps u = offI (G.ps u) v := by
 show upd (upd G.ps v (offI (G.ps v) u)) u (offI (upd G.ps v (offI (G.ps v) u) u) v) u = _
 rw [upd_self, upd_ne _ _ h]
theorem cut_ps2 {G : Gr} {u v : Int} (h : u ≠ v) : (G.cut u v).ps v = offI (G.ps v) u := by
 show upd (upd G.ps v (offI (G.ps v) u)) u _ v = _
 rw [upd_ne _ _ (fun e => h e.symm), upd_self]
theorem cut_kso {G : Gr} {u v z : Int} (h1 : z ≠ u) (h2 : z ≠ v) : (G.cut u v).ks z = G.ks z := by
 show upd (upd G.ks u _) v _ z = _
 rw [upd_ne _ _ h2, upd_ne _ _ h1]
theorem cut_pso {G : Gr} {u v z : Int} (h1 : z ≠ u) (h2 : z ≠ v) : (G.cut u v).ps z = G.ps z := by
 show upd (upd G.ps v _) u _ z = _
 rw [upd_ne _ _ h1, upd_ne _ _ h2]
theorem join_x (G : Gr) (u c r : Int) : (G.join u c r).x u = updI (G.x u) r c := upd2_rowI _ _ _ _
theorem join_y (G : Gr) (u c r : Int) : (G.join u c r).y u = updI (G.y u) c r := upd2_rowI _ _ _ _
theorem join_xo (G : Gr) {u z : Int} (c r : Int) (h : z ≠ u) : (G.join u c r).x z = G.x z := upd2_other _ _ h
theorem join_yo (G : Gr) {u z : Int} (c r : Int) (h : z ≠ u) : (G.join u c r).y z = G.y z := upd2_other _ _ h
end
section
variable (R T : News) (m i : Nat) (gl : List GenState)
 (o dI gd nd sd pd : Addr) (t1 t2 t3 t4 t5 n1 : Nat) (h1 h2 h3 h4 h5 : Int) (vs : List Int) (r : Int → List Int) (E : EmbC w T nd sd pd vs r)
 (u v : Int) (tu tv : Tok) (hu : u ∈ vs) (hv : v ∈ vs) (hvu : v ∈ r u) (huv' : u ∈ r v)
include hpar K E hu hv hvu huv'
theorem er_all : Ctr prog1 w h₀ d os g₀ (aroundL 350) (k_addr% "bw") (k_addr% "i") m i gl
  (k_addr% "br") := by
 obtain ⟨A, G, E, H⟩ := E
 have huv : u ≠ v := fun e => H.nl u hu (by rw [← e] at hvu; exact hvu)
 have hvu0 : v ≠ u := fun e => huv e.symm
 have fin : ∀ {Q : Gr}, Good Q vs (cutR r u v) → (∀ {c : Code} (x : Ctr prog1 w h₀ d os g₀ (aroundL 350) c (k_addr% "i") m i gl
   (exQ (Nat × Nat × News) (fun x => Emb w x.2.2 nd sd pd A Q) (k_addr% "s") (k_addr% "v") (fun x => x.1) (fun x => x.2.1) (fun _ => gl))),
   Ctr prog1 w h₀ d os g₀ (aroundL 350) c (k_addr% "i") m i gl
   (k_addr% "br")) := by
  intro Q HQ c x
  refine x.mono ?_
  walk_at "em"
  exact ⟨y, ⟨A, Q, hy, HQ⟩, rfl, rfl, rfl, rfl, rfl⟩
 have us : u ∈ G.sv := by rw [H.sv]; exact hu
 have vs' : v ∈ G.sv := by rw [H.sv]; exact hv
 have up : u ∈ G.pv := by rw [H.pv]; exact hu
 have vp : v ∈ G.pv := by rw [H.pv]; exact hv
 have ku := H.kp u hu
 have kv := H.kp v hv
 have kuv := ku.mem_iff.mpr hvu
 have kvu := kv.mem_iff.mpr huv'
 have quv : u ∈ G.ps v := (H.qp v hv u).mpr ⟨hu, hvu⟩
 have qvu : v ∈ G.ps u := (H.qp u hu v).mpr ⟨hv, huv'⟩
 rcases Cyc.off (H.cy u hu) (H.nd u hu) hvu with ⟨s1, o1⟩ | ⟨s1, s1', k1, k2, c1⟩ <;> rcases Cyc.off (H.cy v hv) (H.nd v hv) huv' with ⟨s2, o2⟩ | ⟨s2, s2', k4, k5, c2⟩
 ·refine fin (H.rem (G' := (G.cut u v)) hu hv huv rfl rfl rfl (cut_ks1 huv) (cut_ks2 huv) (fun z q1 q2 => cut_kso q1 q2) (cut_ps1 huv) (cut_ps2 huv) (fun z q1 q2 => cut_pso q1 q2) (by rw [o1]; trivial) (by rw [o2]; trivial) (fun z q1 q2 => ⟨rfl, rfl⟩))
   (er_ss w b1 b2 hpar h₀ K d os g₀ R T m i gl o dI gd nd sd pd t1 t2 t3 t4 t5 n1 h1 h2 h3 h4 h5 A G E u v tu tv huv us vs' up vp kuv kvu quv qvu s1 s2)
 ·refine fin (H.rem (G' := ((G.cut u v).join v (G.x v u) (G.y v u))) hu hv huv rfl rfl rfl (cut_ks1 huv) (cut_ks2 huv) (fun z q1 q2 => cut_kso q1 q2) (cut_ps1 huv) (cut_ps2 huv) (fun z q1 q2 => cut_pso q1 q2) (by rw [o1]; trivial) (by rw [join_x, join_y]; exact c2) (fun z q1 q2 => ⟨join_xo _ _ _ q2, join_yo _ _ _ q2⟩))
   (er_sd w b1 b2 hpar h₀ K d os g₀ R T m i gl o dI gd nd sd pd t1 t2 t3 t4 t5 n1 h1 h2 h3 h4 h5 A G E u v tu tv huv us vs' up vp kuv kvu quv qvu s1 s2 (kv.mem_iff.mpr k4) (kv.mem_iff.mpr k5) s2')
 ·refine fin (H.rem (G' := ((G.cut u v).join u (G.x u v) (G.y u v))) hu hv huv rfl rfl rfl (cut_ks1 huv) (cut_ks2 huv) (fun z q1 q2 => cut_kso q1 q2) (cut_ps1 huv) (cut_ps2 huv) (fun z q1 q2 => cut_pso q1 q2) (by rw [join_x, join_y]; exact c1) (by rw [o2]; trivial) (fun z q1 q2 => ⟨join_xo _ _ _ q1, join_yo _ _ _ q1⟩))
   (er_ds w b1 b2 hpar h₀ K d os g₀ R T m i gl o dI gd nd sd pd t1 t2 t3 t4 t5 n1 h1 h2 h3 h4 h5 A G E u v tu tv huv us vs' up vp kuv kvu quv qvu s1 (ku.mem_iff.mpr k1) (ku.mem_iff.mpr k2) s1' s2)
 ·refine fin (H.rem (G' := (((G.cut u v).join u (G.x u v) (G.y u v)).join v (G.x v u) (G.y v u))) hu hv huv rfl rfl rfl (cut_ks1 huv) (cut_ks2 huv) (fun z q1 q2 => cut_kso q1 q2) (cut_ps1 huv) (cut_ps2 huv) (fun z q1 q2 => cut_pso q1 q2) (by rw [join_xo _ _ _ huv, join_yo _ _ _ huv, join_x, join_y]; exact c1) (by rw [join_x, join_y, join_xo _ _ _ hvu0, join_yo _ _ _ hvu0]; exact c2) (fun z q1 q2 => ⟨(join_xo _ _ _ q2).trans (join_xo _ _ _ q1), (join_yo _ _ _ q2).trans (join_yo _ _ _ q1)⟩))
   (er_dd w b1 b2 hpar h₀ K d os g₀ R T m i gl o dI gd nd sd pd t1 t2 t3 t4 t5 n1 h1 h2 h3 h4 h5 A G E u v tu tv huv us vs' up vp kuv kvu quv qvu s1 (ku.mem_iff.mpr k1) (ku.mem_iff.mpr k2) s1' s2 (kv.mem_iff.mpr k4) (kv.mem_iff.mpr k5) s2')
end
theorem er_allZ (w : World) (b1 b2 : Bool) (hpar : w.params = parB w.params b1 b2) (h₀ : Heap) (K : KT.Holds h₀ 1 0 (kt1 w)) (d : Drawn) (os : OsState) (g₀ : List GenState) (R Tr T : News) (m i : Nat) (gl : List GenState)
 (o dI gd nd sd pd : Addr) (t1 t2 t3 t4 t5 n1 : Nat) (h1 h2 h3 h4 h5 : Int) (vs : List Int) (r : Int → List Int) (E : EmbC w T nd sd pd vs r)
 (u v : Int) (tu tv : Tok) (hu : u ∈ vs) (hv : v ∈ vs) (hvu : v ∈ r u) (huv' : u ∈ r v) :
 Ctr prog1 w h₀ d os g₀ (aroundL 350) (k_addr% "bw") (k_addr% "P") m i gl
  (exQ (Nat × Nat × News) (fun x => EmbC w x.2.2 nd sd pd vs (cutR r u v)) (k_addr% "s") (k_addr% "R") (fun x => x.1) (fun x => x.2.1) (fun _ => gl)) := by
 have := er_all w b1 b2 hpar h₀ K d os g₀ (R ++ Tr) T m i gl o dI gd nd sd pd t1 t2 t3 t4 t5 n1 h1 h2 h3 h4 h5 vs r E u v tu tv hu hv hvu huv'
 simpa only [List.append_assoc] using this
end Mine
namespace Mine
open Lean Meta Elab Tactic PySem PySem.W PySem.W.X
def byKernelM (nm : Name) : TacticM Unit := do
 let g ← getMainGoal
 g.withContext do
  let some d := (← getLCtx).findFromUserName? nm | throwError "no {nm}"
  let T ← whnfR (← instantiateMVars (← g.getType))
  unless T.isAppOfArity ``RM 11 do throwError "no run: {T}"
  let a := T.getAppArgs
  g.assign (mkApp3 d.toExpr a[8]! a[9]! a[10]!)
  replaceMainGoal (← getGoals).tail
end Mine
namespace Mine
open PySem PySem.Spec PySem.Calls PyProof.Rows PySem.W PySem.W.X
section
variable (RR : Result → Shared → Prop)
 (I ln f l o : Addr) (j : Nat) (ns : List (Int × Tok)) (xs : List Value) (nl : Nat) (dI gd nd sd pd : Addr) (t1 t2 t3 t4 t5 n1 : Nat) (h1 h2 h3 h4 h5 : Int)
 (QF : Post) (hR : ∀ n r news' m' i' gl', QF r news' m' i' gl' → RE ⟨prog1, w, h₀, 0, kt1 w, [], (aroundT 10 f), RR, d, 0, os⟩ g₀ n r news' m' i' gl')
 (IH : ∀ (R Tr Te : News) (m i : Nat) (gl : List GenState) (F : Fl) (rd : Addr) (a b : Int) (ta tb : Tok) (vs : List Int) (r : Int → List Int), EmbC w Te nd sd pd vs r → Rz w Tr rd vs r → Inv vs r → RestOk gl F.rest →
  Ctr prog1 w h₀ d os g₀ ((aroundT 10 f)) (lawLoop (.ref I) f) (k_addr% "a") m i gl QF)
 (R Tr Te : News) (n m i : Nat) (gl : List GenState) (F : Fl) (rd : Addr) (a b : Int) (ta tb : Tok) (vs : List Int) (r : Int → List Int) (E : EmbC w Te nd sd pd vs r) (Er : Rz w Tr rd vs r) (O : Inv vs r) (hrest : RestOk gl F.rest)
 (hab : a ≠ b) (ha6 : 0 ≤ a ∧ a < 6) (hb6 : 0 ≤ b ∧ b < 6)
include hpar K hR IH E Er O hrest
theorem p4_ok_5 (hk5 : F.kd = 5) (hb : b ∈ r a) : RM ⟨prog1, w, h₀, 0, kt1 w, [], (aroundT 10 f), RR, d, 0, os⟩ g₀ n (lawLoop (.ref I) f) none .base (bodyT I f)
 (k_addr% "a") m i gl := by
 walk_at "ah"
 walk_at "dq"
 have k2 : F.kd ≠ 3 := by omega
 have k3 : F.kd ≠ 4 := by omega
 clear hk5
 have ho := O.ok.out a
 walk_at "o"
 clear IH
 run_tac Mine.walkAt Mine.allNames 716 11 [] 43 90
 rintro ⟨l1, Tr1⟩ ⟨hx1, hx2⟩
 simp only at hx1 hx2 ⊢
 walk_at "O"
 ·exact M
 ·walk_at "cY"
  walk_at "ae"
theorem p4_ok_4 (hk4 : F.kd = 4) (hm : F.num.fmod (Int.ofNat 5) ≠ 0) (hb : b ∈ r a) : RM ⟨prog1, w, h₀, 0, kt1 w, [], (aroundT 10 f), RR, d, 0, os⟩ g₀ n (lawLoop (.ref I) f) none .base (bodyT I f)
 (k_addr% "a") m i gl := by
 walk_at "ah"
 walk_at "dq"
 have k2 : F.kd ≠ 3 := by omega
 obtain ⟨q5, hq5⟩ : ∃ q, F.num.fmod (Int.ofNat 5) = q := ⟨_, rfl⟩
 rw [hq5] at hm
 have hm0 : q5 ≠ Int.ofNat 0 := hm
 have ho := O.ok.out a
 walk_at "o"
 clear IH
 run_tac Mine.walkAt Mine.allNames 716 11 [] 52 90
 rintro ⟨l1, Tr1⟩ ⟨hx1, hx2⟩
 simp only at hx1 hx2 ⊢
 walk_at "O"
 ·exact M
 ·walk_at "cY"
  walk_at "ae"
theorem p4_ok_lt (hk : F.kd < 3) (hb : b ∈ r a) : RM ⟨prog1, w, h₀, 0, kt1 w, [], (aroundT 10 f), RR, d, 0, os⟩ g₀ n (lawLoop (.ref I) f) none .base (bodyT I f)
 (k_addr% "a") m i gl := by
 walk_at "ah"
 have k2 : F.kd ≠ 3 := by omega
 have k3 : F.kd ≠ 4 := by omega
 have ho := O.ok.out a
 walk_at "o"
 clear IH
 run_tac Mine.walkAt Mine.allNames 716 11 [] 64 90
 rintro ⟨l1, Tr1⟩ ⟨hx1, hx2⟩
 simp only at hx1 hx2 ⊢
 walk_at "O"
 ·exact M
 ·walk_at "cY"
  walk_at "ae"
end
section
variable (RR : Result → Shared → Prop)
 (I ln f l o : Addr) (j : Nat) (ns : List (Int × Tok)) (xs : List Value) (nl : Nat) (dI gd nd sd pd : Addr) (t1 t2 t3 t4 t5 n1 : Nat) (h1 h2 h3 h4 h5 : Int)
 (QF : Post) (hR : ∀ n r news' m' i' gl', QF r news' m' i' gl' → RE ⟨prog1, w, h₀, 0, kt1 w, [], (aroundT 10 f), RR, d, 0, os⟩ g₀ n r news' m' i' gl')
 (IH : ∀ (R Tr Te : News) (m i : Nat) (gl : List GenState) (F : Fl) (rd : Addr) (a b : Int) (ta tb : Tok) (vs : List Int) (r : Int → List Int), EmbC w Te nd sd pd vs r → Rz w Tr rd vs r → Inv vs r → RestOk gl F.rest →
  Ctr prog1 w h₀ d os g₀ ((aroundT 10 f)) (lawLoop (.ref I) f) (k_addr% "a") m i gl QF)
 (R Tr Te : News) (n m i : Nat) (gl : List GenState) (F : Fl) (rd : Addr) (a b : Int) (ta tb : Tok) (vs : List Int) (r : Int → List Int) (E : EmbC w Te nd sd pd vs r) (Er : Rz w Tr rd vs r) (O : Inv vs r) (hrest : RestOk gl F.rest)
 (hab : a ≠ b) (ha6 : 0 ≤ a ∧ a < 6) (hb6 : 0 ≤ b ∧ b < 6)
include hpar K hR IH E Er O hrest hab ha6 hb6
theorem c1_name (hk3 : F.kd = 3) (hb : b ∈ r a) : RM ⟨prog1, w, h₀, 0, kt1 w, [], (aroundT 10 f), RR, d, 0, os⟩ g₀ n (lawLoop (.ref I) f) none .base (bodyT I f)
 (k_addr% "a") m i gl ∨ True := by
 walk_at "ah"
 have hbv : b ∈ vs := O.rv a ha b hb
 have hab' : a ∈ r b := O.sym a ha b hb
 walk_at "dq"
 have ho := O.ok.out a
 clear IH
 run_tac do
  let s ← Lean.saveState
  Lean.Elab.Tactic.evalTactic (← `(tactic| left))
  Mine.walk ([``er_allZ, ``r_item] ++ Mine.allNames) [] { stops := ["compStart"] }
  Mine.nameCode `Mine.c1Start (some s)
 exact Or.inr trivial
end
noncomputable abbrev c1Loop (it acc : Value) (f : Addr) (x : Nat × Nat × News) : Code := match c1Start it acc f x with
 | .compStart e d it acc env => .compLoop e d it acc env
 | c => c
section
variable (l I acc f : Addr) (x : Nat × Nat × News) (T : News) (ps : List (Int × Tok)) (n : Nat) (e : getL T l = some (listO (ivs ps) n)) (hps : ps.length ≤ 100) (z : Int) (tz : Tok) (a3 : Int) (c3 : Tok) (nf : Nat)
include hpar K e hps
theorem c1_loop : ∀ (q j : Nat) (R : News) (m i : Nat) (gl : List GenState) (qs : List (Int × Tok)) (na : Nat) (v0 : Int) (tv0 : Tok), j + q = ps.length → qs.length ≤ 400 - q →
 Ctr prog1 w h₀ d os g₀ (aroundL 360) (c1Loop (.ref I) (.ref acc) f x)
  ((I, litO l j) :: (acc, listO (ivs qs) na) :: (x.1 + 1 + 1 + 1, dictO [⟨a3, .str "v" c3, .int v0 tv0⟩] nf) :: (f + 3, cellO (.int z tz)) :: (R ++ T)) m i gl
  (exQ (k_addr% "dR") (k_addr% "cP") (fun _ => .ok .next) (fun y => (acc, listO (ivs y.2.2.2.2.2) y.2.2.2.2.1) :: (x.1 + 1 + 1 + 1, dictO [⟨a3, .str "v" c3, .int y.2.2.1 y.2.2.2.1⟩] nf) :: (f + 3, cellO (.int z tz)) :: (R ++ T)) (fun y => y.1) (fun y => y.2.1) (fun _ => gl))
 | 0, j, R, m, i, gl, qs, na, v0, tv0, hj, hk => by
   walk_at "bI"
   walk_at "cd"
   rw [hd]
   walk_at "d"
   run_tac Mine.walk [``q_lnext_end]
   walk_at "bL"
 | q + 1, j, R, m, i, gl, qs, na, v0, tv0, hj, hk => by
   walk_at "eA"
   walk_at "bB"
   walk_at "aR"
   walk_at "ax"
   walk_at "ff"
   rw [hd]
   walk_at "dC"
   ·have IH := fun R m i gl na => c1_loop q (j + 1) R m i gl qs na v tv (by omega) (by omega)
    walk_at "d"
    clear hd hjl hpe hj hk hps
    walk_at "aV"
    intro y hy
    walk_at "Y"
    simpa [offI, hv] using hy
   ·have hv2 : v ≠ z := hv
    have IH := fun R m i gl na => c1_loop q (j + 1) R m i gl (qs ++ [(v, tv)]) na v tv (by omega) (by simp; omega)
    walk_at "d"
    clear hd hjl hpe hj hk hps
    walk_at "aV"
    intro y hy
    walk_at "Y"
    simpa [offI, hv] using hy
end
section
variable (l I acc f : Addr) (x : Nat × Nat × News) (R T Te : News) (m i : Nat) (gl : List GenState) (row : List Int) (E : Lrow T l row) (hne : row ≠ []) (hln : row.length ≤ 100) (z : Int) (tz : Tok) (na nf : Nat)
include hpar K E hne hln
theorem c1_start :
 Ctr prog1 w h₀ d os g₀ (aroundL 350) (c1Start (.ref I) (.ref acc) f x)
  ((I, litO l 0) :: (acc, listO [] na) :: (x.1 + 1 + 1 + 1, dictO [] nf) :: (f + 3, cellO (.int z tz)) :: (R ++ (T ++ Te))) m i gl
  (exQ (k_addr% "bj") (fun y => y.2.2.2.1.map Prod.fst = offI row z) (fun _ => .ok .next) (fun y => (acc, listO (ivs y.2.2.2.1) y.2.2.1) :: (x.1 + 1 + 1 + 1, dictO [⟨y.2.2.2.2.1, .str "v" y.2.2.2.2.2.1, .int y.2.2.2.2.2.2.1 y.2.2.2.2.2.2.2.1⟩] y.2.2.2.2.2.2.2.2) :: (f + 3, cellO (.int z tz)) :: (R ++ (T ++ Te))) (fun y => y.1) (fun y => y.2.1) (fun _ => gl)) := by
 obtain ⟨ps, n, g, rfl⟩ := E
 have e : getL (T ++ Te) l = some (listO (ivs ps) n) := getL_app g
 walk_at "dB"
 ·cases hne rfl
 ·walk_at "aU"
  walk_at "dC"
  ·have IH := fun a3 c3 nf R m i gl na => c1_loop w b1 b2 hpar h₀ K d os g₀ l I acc f x (T ++ Te) ((v, tv) :: ps) n e (by simpa using hln) z tz a3 c3 nf ps.length 1 R m i gl [] na v tv (by simp; omega) (by simp)
   simp only [ivs, List.map_nil] at IH
   clear hln hne
   cases b2
   all_goals
    walk_at "d"
    walk_at "aW"
    intro y hy
    walk_at "A"
    simpa [offI, hv] using hy
  ·have hv2 : v ≠ z := hv
   have IH := fun a3 c3 nf R m i gl na => c1_loop w b1 b2 hpar h₀ K d os g₀ l I acc f x (T ++ Te) ((v, tv) :: ps) n e (by simpa using hln) z tz a3 c3 nf ps.length 1 R m i gl [(v, tv)] na v tv (by simp; omega) (by simp at hln ⊢; omega)
   clear hln hne
   cases b2
   all_goals
    walk_at "d"
    walk_at "aW"
    intro y hy
    walk_at "A"
    simpa [offI, hv] using hy
end
section
variable (RR : Result → Shared → Prop)
 (I ln f l o : Addr) (j : Nat) (ns : List (Int × Tok)) (xs : List Value) (nl : Nat) (dI gd nd sd pd : Addr) (t1 t2 t3 t4 t5 n1 : Nat) (h1 h2 h3 h4 h5 : Int)
 (QF : Post) (hR : ∀ n r news' m' i' gl', QF r news' m' i' gl' → RE ⟨prog1, w, h₀, 0, kt1 w, [], (aroundT 10 f), RR, d, 0, os⟩ g₀ n r news' m' i' gl')
 (IH : ∀ (R Tr Te : News) (m i : Nat) (gl : List GenState) (F : Fl) (rd : Addr) (a b : Int) (ta tb : Tok) (vs : List Int) (r : Int → List Int), EmbC w Te nd sd pd vs r → Rz w Tr rd vs r → Inv vs r → RestOk gl F.rest →
  Ctr prog1 w h₀ d os g₀ ((aroundT 10 f)) (lawLoop (.ref I) f) (k_addr% "a") m i gl QF)
 (R Tr Te : News) (n m i : Nat) (gl : List GenState) (F : Fl) (rd : Addr) (a b : Int) (ta tb : Tok) (vs : List Int) (r : Int → List Int) (E : EmbC w Te nd sd pd vs r) (Er : Rz w Tr rd vs r) (O : Inv vs r) (hrest : RestOk gl F.rest)
 (hab : a ≠ b) (ha6 : 0 ≤ a ∧ a < 6) (hb6 : 0 ≤ b ∧ b < 6)
include hpar K hR IH E Er O hrest hab ha6 hb6
theorem c2_name (hk3 : F.kd = 3) (hb : b ∈ r a) : RM ⟨prog1, w, h₀, 0, kt1 w, [], (aroundT 10 f), RR, d, 0, os⟩ g₀ n (lawLoop (.ref I) f) none .base (bodyT I f)
 (k_addr% "a") m i gl ∨ True := by
 walk_at "ah"
 have hbv : b ∈ vs := O.rv a ha b hb
 have hab' : a ∈ r b := O.sym a ha b hb
 have hba : b ≠ a := fun q => hab q.symm
 walk_at "dq"
 have ho := O.ok.out a
 have la := O.ok.len ha
 have na0 : r a ≠ [] := fun q => by rw [q] at hb; cases hb
 have nb0 : r b ≠ [] := fun q => by rw [q] at hab'; cases hab'
 have lb := O.ok.len hbv
 have hz : vs.length ≤ 100 := nodup_le O.vn O.ok.vo
 walk_at "o"
 clear IH
 run_tac do
  let s ← Lean.saveState
  Lean.Elab.Tactic.evalTactic (← `(tactic| left))
  Mine.walk ([``er_allZ, ``r_item] ++ Mine.allNames) [] { stops := ["compStart"] }
  Mine.walk [``c1_start] [] { fuel := 1, say := true }
  Lean.Elab.Tactic.evalTactic (← `(tactic| intros))
  Mine.ands
  Mine.walk ([``r_item] ++ Mine.allNames) [] { stops := ["compStart"], say := true }
  Mine.nameCode `Mine.c2Start (some s)
 exact Or.inr trivial
end
noncomputable abbrev c2Loop (it acc : Value) (f : Addr) (x : Nat × Nat × Nat × List (Int × Tok) × Int × Tok × Int × Tok × Nat) : Code := match c2Start it acc f x with
 | .compStart e d it acc env => .compLoop e d it acc env
 | c => c
section
variable (l I acc f : Addr) (x : Nat × Nat × Nat × List (Int × Tok) × Int × Tok × Int × Tok × Nat) (T : News) (ps : List (Int × Tok)) (n : Nat) (e : getL T l = some (listO (ivs ps) n)) (hps : ps.length ≤ 100) (z : Int) (tz : Tok) (a3 : Int) (c3 : Tok) (nf : Nat)
include hpar K e hps
theorem c2_loop : ∀ (q j : Nat) (R : News) (m i : Nat) (gl : List GenState) (qs : List (Int × Tok)) (na : Nat) (v0 : Int) (tv0 : Tok), j + q = ps.length → qs.length ≤ 400 - q →
 Ctr prog1 w h₀ d os g₀ (aroundL 360) (c2Loop (.ref I) (.ref acc) f x)
  ((I, litO l j) :: (acc, listO (ivs qs) na) :: (x.1 + 1 + 1, dictO [⟨a3, .str "v" c3, .int v0 tv0⟩] nf) :: (k_addr% "eh") :: (R ++ T)) m i gl
  (exQ (k_addr% "dR") (k_addr% "cP") (fun _ => .ok .next) (fun y => (acc, listO (ivs y.2.2.2.2.2) y.2.2.2.2.1) :: (x.1 + 1 + 1, dictO [⟨a3, .str "v" c3, .int y.2.2.1 y.2.2.2.1⟩] nf) :: (k_addr% "eh") :: (R ++ T)) (fun y => y.1) (fun y => y.2.1) (fun _ => gl))
 | 0, j, R, m, i, gl, qs, na, v0, tv0, hj, hk => by
   walk_at "bI"
   walk_at "cd"
   rw [hd]
   walk_at "d"
   run_tac Mine.walk [``q_lnext_end]
   walk_at "bL"
 | q + 1, j, R, m, i, gl, qs, na, v0, tv0, hj, hk => by
   walk_at "eA"
   walk_at "bB"
   walk_at "aR"
   walk_at "ax"
   walk_at "ff"
   rw [hd]
   walk_at "dC"
   ·have IH := fun R m i gl na => c2_loop q (j + 1) R m i gl qs na v tv (by omega) (by omega)
    walk_at "d"
    clear hd hjl hpe hj hk hps
    walk_at "aV"
    intro y hy
    walk_at "Y"
    simpa [offI, hv] using hy
   ·have hv2 : v ≠ z := hv
    have IH := fun R m i gl na => c2_loop q (j + 1) R m i gl (qs ++ [(v, tv)]) na v tv (by omega) (by simp; omega)
    walk_at "d"
    clear hd hjl hpe hj hk hps
    walk_at "aV"
    intro y hy
    walk_at "Y"
    simpa [offI, hv] using hy
end
section
variable (l I acc f : Addr) (x : Nat × Nat × Nat × List (Int × Tok) × Int × Tok × Int × Tok × Nat) (R T Te : News) (m i : Nat) (gl : List GenState) (row : List Int) (E : Lrow T l row) (hne : row ≠ []) (hln : row.length ≤ 100) (z : Int) (tz : Tok) (na nf : Nat)
include hpar K E hne hln
theorem c2_start :
 Ctr prog1 w h₀ d os g₀ (aroundL 350) (c2Start (.ref I) (.ref acc) f x)
  ((I, litO l 0) :: (acc, listO [] na) :: (x.1 + 1 + 1, dictO [] nf) :: (k_addr% "eh") :: (R ++ (T ++ Te))) m i gl
  (exQ (k_addr% "bj") (fun y => y.2.2.2.1.map Prod.fst = offI row z) (fun _ => .ok .next) (fun y => (acc, listO (ivs y.2.2.2.1) y.2.2.1) :: (x.1 + 1 + 1, dictO [⟨y.2.2.2.2.1, .str "v" y.2.2.2.2.2.1, .int y.2.2.2.2.2.2.1 y.2.2.2.2.2.2.2.1⟩] y.2.2.2.2.2.2.2.2) :: (k_addr% "eh") :: (R ++ (T ++ Te))) (fun y => y.1) (fun y => y.2.1) (fun _ => gl)) := by
 obtain ⟨ps, n, g, rfl⟩ := E
 have e : getL (T ++ Te) l = some (listO (ivs ps) n) := getL_app g
 walk_at "dB"
 ·cases hne rfl
 ·walk_at "aU"
  walk_at "dC"
  ·have IH := fun a3 c3 nf R m i gl na => c2_loop w b1 b2 hpar h₀ K d os g₀ l I acc f x (T ++ Te) ((v, tv) :: ps) n e (by simpa using hln) z tz a3 c3 nf ps.length 1 R m i gl [] na v tv (by simp; omega) (by simp)
   simp only [ivs, List.map_nil] at IH
   clear hln hne
   cases b2
   all_goals
    walk_at "d"
    walk_at "aW"
    intro y hy
    walk_at "A"
    simpa [offI, hv] using hy
  ·have hv2 : v ≠ z := hv
   have IH := fun a3 c3 nf R m i gl na => c2_loop w b1 b2 hpar h₀ K d os g₀ l I acc f x (T ++ Te) ((v, tv) :: ps) n e (by simpa using hln) z tz a3 c3 nf ps.length 1 R m i gl [(v, tv)] na v tv (by simp; omega) (by simp at hln ⊢; omega)
   clear hln hne
   cases b2
   all_goals
    walk_at "d"
    walk_at "aW"
    intro y hy
    walk_at "A"
    simpa [offI, hv] using hy
end
theorem cut_mem {r : Int → List Int} {a b : Int} (hab : a ≠ b) (z y : Int) : y ∈ cutR r a b z ↔ y ∈ r z ∧ ¬ (z = a ∧ y = b) ∧ ¬ (z = b ∧ y = a) := by
 unfold cutR upd
 split
 ·next q =>
  subst q
  rw [mem_offI]
  exact ⟨fun h => ⟨h.1, fun e => hab e.1.symm, fun e => h.2 e.2⟩, fun h => ⟨h.1, fun e => h.2.2 ⟨rfl, e⟩⟩⟩
 ·split
  ·next q1 q2 =>
   subst q2
   rw [mem_offI]
   exact ⟨fun h => ⟨h.1, fun e => h.2 e.2, fun e => hab e.1⟩, fun h => ⟨h.1, fun e => h.2.1 ⟨rfl, e⟩⟩⟩
  ·next q1 q2 => exact ⟨fun h => ⟨h, fun e => q2 e.1, fun e => q1 e.1⟩, fun h => h.1⟩
theorem inv_cut {vs : List Int} {r : Int → List Int} {a b : Int} (O : Inv vs r) (hab : a ≠ b) : Inv vs (cutR r a b) := by
 have mem := cut_mem (r := r) hab
 refine ⟨⟨O.ok.vo, fun v hv => ?_, fun v hv => ?_, fun v hv u hu => O.ok.ro v hv u ((mem v u).mp hu).1⟩, O.six, fun v hv u hu => O.rv v hv u ((mem v u).mp hu).1, fun v hv u hu => ?_, O.vn⟩
 ·apply List.eq_nil_iff_forall_not_mem.mpr
  intro y hy
  have := ((mem v y).mp hy).1
  rw [O.ok.out v hv] at this; cases this
 ·have h1 : ∀ z ∈ vs, (cutR r a b z).Nodup := fun z hz => by
   unfold cutR upd offI
   split
   ·next q => subst q; exact (O.ok.nd _ hz).filter _
   ·split
    ·next q1 q2 => subst q2; exact (O.ok.nd _ hz).filter _
    ·exact O.ok.nd _ hz
  exact h1 v hv
 ·obtain ⟨h1, h2, h3⟩ := (mem v u).mp hu
  exact (mem u v).mpr ⟨O.sym v hv u h1, fun q => h3 ⟨q.2, q.1⟩, fun q => h2 ⟨q.2, q.1⟩⟩
section
variable (RR : Result → Shared → Prop)
 (I ln f l o : Addr) (j : Nat) (ns : List (Int × Tok)) (xs : List Value) (nl : Nat) (dI gd nd sd pd : Addr) (t1 t2 t3 t4 t5 n1 : Nat) (h1 h2 h3 h4 h5 : Int)
 (QF : Post) (hR : ∀ n r news' m' i' gl', QF r news' m' i' gl' → RE ⟨prog1, w, h₀, 0, kt1 w, [], (aroundT 10 f), RR, d, 0, os⟩ g₀ n r news' m' i' gl')
 (IH : ∀ (R Tr Te : News) (m i : Nat) (gl : List GenState) (F : Fl) (rd : Addr) (a b : Int) (ta tb : Tok) (vs : List Int) (r : Int → List Int), EmbC w Te nd sd pd vs r → Rz w Tr rd vs r → Inv vs r → RestOk gl F.rest →
  Ctr prog1 w h₀ d os g₀ ((aroundT 10 f)) (lawLoop (.ref I) f) (k_addr% "a") m i gl QF)
 (R Tr Te : News) (n m i : Nat) (gl : List GenState) (F : Fl) (rd : Addr) (a b : Int) (ta tb : Tok) (vs : List Int) (r : Int → List Int) (E : EmbC w Te nd sd pd vs r) (Er : Rz w Tr rd vs r) (O : Inv vs r) (hrest : RestOk gl F.rest)
 (hab : a ≠ b) (ha6 : 0 ≤ a ∧ a < 6) (hb6 : 0 ≤ b ∧ b < 6)
include hpar K hR IH E Er O hrest hab ha6 hb6
theorem p2_ok (hk3 : F.kd = 3) (hb : b ∈ r a) : RM ⟨prog1, w, h₀, 0, kt1 w, [], (aroundT 10 f), RR, d, 0, os⟩ g₀ n (lawLoop (.ref I) f) none .base (bodyT I f)
 (k_addr% "a") m i gl := by
 walk_at "ah"
 have hbv : b ∈ vs := O.rv a ha b hb
 have hab' : a ∈ r b := O.sym a ha b hb
 have hba : b ≠ a := fun q => hab q.symm
 walk_at "dq"
 have ho := O.ok.out a
 have la := O.ok.len ha
 have na0 : r a ≠ [] := fun q => by rw [q] at hb; cases hb
 have nb0 : r b ≠ [] := fun q => by rw [q] at hab'; cases hab'
 have lb := O.ok.len hbv
 have hz : vs.length ≤ 100 := nodup_le O.vn O.ok.vo
 walk_at "o"
 clear IH
 run_tac Mine.walk ([``er_allZ, ``r_item] ++ Mine.allNames) [] { stops := ["compStart"] }
 intro x hE y hy z hz
 obtain ⟨hy1, hy2⟩ := hy
 run_tac Mine.walk [``c1_start] [] { fuel := 1 }
 intro u hu
 run_tac Mine.walk ([``r_item] ++ Mine.allNames) [] { stops := ["compStart"] }
 intro T2 hT2 l2 hl2
 rw [upd_ne _ _ hba] at hl2
 run_tac Mine.walk [``c2_start] [] { fuel := 1 }
 intro v hv
 run_tac Mine.walkAt Mine.allNames 716 11 [] 15 30
 intro T3 hT3
 refine rm_sub (n' := 0) (news' := (I, litO ln (j + 1)) :: (ln, listO (ivs ns) 0) :: (k_addr% "aG") :: (k_addr% "dj") :: lawCells F l o f rd xs nl dI (k_addr% "y") (R ++ (T3 ++ x.2.2))) (fun h M => ?_) ?_
 ·exact M.choose [6, 7, 1, 3, 8, 9, 10, 4, 5] 11 rfl
 ·rw [hu, hv] at hT3
  have zz := fun m i (_ : List GenState) => TT 0 R T3 x.2.2 m i gl F rd ta tb vs (cutR r a b) hE hT3 (inv_cut O hab) hrest
  walk_at "ae"
end
def Kept (T : News) (a : Addr) (o : Obj) : Prop := getL T a = some o
theorem Kept.put {T : News} {a b : Addr} {o o' : Obj} (h : Kept T b o) (e : a ≠ b) : Kept (putL T a o') b o := getL_put_ne e h
section
variable (R T : News) (m i : Nat) (gl : List GenState) (nd sd pd : Addr) (A : Ad) (G : Gr) (E : Emb w T nd sd pd A G) (a b x : Addr) (u v : Int) (t : Tok)
 (n0 : Int) (es0 : List DictEntry) (q0 : Nat) (Kp : Kept T (A.p n0) (dictO es0 q0)) (hn0 : n0 ∈ G.pv)
include E Kp hn0
theorem k_del_k (ha : a = A.s u) (hu : u ∈ G.sv) (hv : v ∈ G.ks u) : Ctr prog1 w h₀ d os g₀ (aroundL 480) (.call (k_addr% "dD") ⟨[.ref a, .int v t], []⟩) (R ++ T) m i gl
  (exQ News (fun T' => Emb w T' nd sd pd A (G.offK u v) ∧ Kept T' (A.p n0) (dictO es0 q0)) (k_addr% "s") (fun T' => R ++ T') (fun _ => m) (fun _ => i + 1) (fun _ => gl)) := by
 have hne : A.s u ≠ A.p n0 := fun e => by have := E.inj (.s u) (.p n0) hu hn0 e; cases this
 walk_at "W"
 subst ha
 refine Ctr.eW0 (q_delitem w h₀ d os g₀ _ _ es n R T m i gl v t _ g D (.ref (A.d u v)) (l100 (E.len_k hu)) (tab_in hv)) ⟨?_, Kp.put hne⟩
 walk_at "dP"
 ·show DF w _ (tab (upd G.ks u (offI (G.ks u) v) u) _)
  rw [upd_self]
  exact DF.drop D
 ·cases b with
  | s z =>
    show DF w o (tab (upd G.ks u (offI (G.ks u) v) z) _)
    walk_at "cx"; exact f
  | _ => exact f
theorem k_del_q (ha : a = A.p v) (hv : v ∈ G.pv) (hu : u ∈ G.ps v) (hvn : v ≠ n0) : Ctr prog1 w h₀ d os g₀ (aroundL 480) (.call (k_addr% "dD") ⟨[.ref a, .int u t], []⟩) (R ++ T) m i gl
  (exQ News (fun T' => Emb w T' nd sd pd A (G.offQ v u) ∧ Kept T' (A.p n0) (dictO es0 q0)) (k_addr% "s") (fun T' => R ++ T') (fun _ => m) (fun _ => i + 1) (fun _ => gl)) := by
 have hne : A.p v ≠ A.p n0 := fun e => by have := E.inj (.p v) (.p n0) hv hn0 e; cases this; exact hvn rfl
 obtain ⟨o, g, es, n, rfl, D⟩ := E.cel (.p v) hv
 subst ha
 refine Ctr.eW0 (k_addr% "ec") ⟨?_, Kp.put hne⟩
 refine E.wr (.p v) hv _ _ (fun b hb => hb) E.ok.offQ ?_ (fun b h1 hb o f => ?_)
 ·show DF w _ (tab (upd G.ps v (offI (G.ps v) u) v) _)
  rw [upd_self]
  exact DF.drop D
 ·cases b with
  | p z =>
    show DF w o (tab (upd G.ps v (offI (G.ps v) u) z) _)
    walk_at "cx"; exact f
  | _ => exact f
include K
theorem k_cw_set (c : Int) (tc : Tok) (ha : a = A.d u v) (hu : u ∈ G.sv) (hv : v ∈ G.ks u) : Ctr prog1 w h₀ d os g₀ (aroundL 480) (.call (k_addr% "aA") ⟨[.ref a, .str "cw" t, .int c tc], []⟩) (R ++ T) m i gl
  (exQ News (fun T' => Emb w T' nd sd pd A (G.setX u v c) ∧ Kept T' (A.p n0) (dictO es0 q0)) (k_addr% "s") (fun T' => R ++ T') (fun _ => m) (fun _ => i + 1) (fun _ => gl)) := by
 have hne : A.d u v ≠ A.p n0 := fun e => by have := E.inj (.d u v) (.p n0) (E.ok.kh u v hu hv) hn0 e; cases this
 walk_at "aN"
 subst ha
 refine Ctr.eW0 (q_cw_set w h₀ K d os g₀ R m i gl _ t D T g c tc) ⟨?_, Kp.put hne⟩
 walk_at "ef"
 cases b with
 | d z y =>
   obtain ⟨D', q1, q2, q3⟩ := f
   exact ⟨D', q1, q2.trans (upd2_ne _ _ (fun e => h1 (by rw [e.1, e.2]))).symm, q3⟩
 | _ => exact f
theorem k_ccw_set (c : Int) (tc : Tok) (ha : a = A.d u v) (hu : u ∈ G.sv) (hv : v ∈ G.ks u) : Ctr prog1 w h₀ d os g₀ (aroundL 480) (.call (k_addr% "aA") ⟨[.ref a, .str "ccw" t, .int c tc], []⟩) (R ++ T) m i gl
  (exQ News (fun T' => Emb w T' nd sd pd A (G.setY u v c) ∧ Kept T' (A.p n0) (dictO es0 q0)) (k_addr% "s") (fun T' => R ++ T') (fun _ => m) (fun _ => i + 1) (fun _ => gl)) := by
 have hne : A.d u v ≠ A.p n0 := fun e => by have := E.inj (.d u v) (.p n0) (E.ok.kh u v hu hv) hn0 e; cases this
 walk_at "aN"
 subst ha
 refine Ctr.eW0 (q_ccw_set w h₀ K d os g₀ R m i gl _ t D T g c tc) ⟨?_, Kp.put hne⟩
 walk_at "eg"
 cases b with
 | d z y =>
   obtain ⟨D', q1, q2, q3⟩ := f
   exact ⟨D', q1, q2, q3.trans (upd2_ne _ _ (fun e => h1 (by rw [e.1, e.2]))).symm⟩
 | _ => exact f
end
section
variable (R T : News) (m i : Nat) (gl : List GenState) (a I : Addr) (es : List DictEntry) (n : Nat) (e : Kept T a (dictO es n))
include K e
theorem k_pnext (j : Nat) (hs : Int) (k : Int) (t : Tok) (b : Addr) (he : (⟨es⟩ : Array DictEntry)[j]? = some ⟨hs, .int k t, .ref b⟩) : Ctr prog1 w h₀ d os g₀ (aroundL 480) (k_addr% "aZ") ((I, keyIt a j es.length n) :: (R ++ T)) m i gl
 (oneQ (.int k t) ((I, keyIt a (j + 1) es.length n) :: (R ++ T)) m i gl) :=
 q_keynext w h₀ K d os g₀ R T m i gl a I es n e j hs k t b he
theorem k_pnext_end (j : Nat) (he : (⟨es⟩ : Array DictEntry)[j]? = none) : Ctr prog1 w h₀ d os g₀ (aroundL 480) (k_addr% "aZ") ((I, keyIt a j es.length n) :: (R ++ T)) m i gl
 (k_addr% "eH") :=
 q_keynext_end w h₀ K d os g₀ R T m i gl a I es n e j he
end
section
variable (R T : News) (m i : Nat) (gl : List GenState)
 (o dI gd nd sd pd : Addr) (t1 t2 t3 t4 t5 n1 : Nat) (h1 h2 h3 h4 h5 : Int) (A : Ad) (G : Gr) (E : Emb w T nd sd pd A G)
 (u : Int) (tu : Tok) (hu : u ∈ G.pv) (es : List DictEntry) (q0 : Nat) (g : getL T (A.p u) = some (dictO es q0))
include hpar K E hu g
theorem rn_name : Ctr prog1 w h₀ d os g₀ (aroundL 350) (.call (.ref 788) ⟨[.ref o, .int u tu], []⟩) (k_addr% "i") m i gl (fun _ _ _ _ _ => True) ∨ True := by
 run_tac do
  let s ← Lean.saveState
  Lean.Elab.Tactic.evalTactic (← `(tactic| left))
  Lean.Elab.Tactic.evalTactic (← `(tactic| refine Ctr.ofQ (Mine.kt1 w) ?_))
  Mine.walk ([``q_diter] ++ Mine.embNames) [] { stops := ["forLoop"] }
  Mine.nameCode `Mine.rnLoop (some s)
 exact Or.inr trivial
end
structure Mid (G : Gr) (vs : List Int) (r : Int → List Int) (n : Int) (done : List Int) : Prop where
 sv : G.sv = vs
 pv : G.pv = vs
 nv : G.nv = vs
 kp : ∀ v ∈ vs, (G.ks v).Perm (if v ∈ done then offI (r v) n else r v)
 cy : ∀ v ∈ vs, Cyc (G.x v) (G.y v) (if v ∈ done then offI (r v) n else r v)
 qp : ∀ v ∈ vs, ∀ u, u ∈ G.ps v ↔ (u ∈ vs ∧ v ∈ r u) ∧ ¬ (v ∈ done ∧ u = n)
theorem Mid.start {G : Gr} {vs : List Int} {r : Int → List Int} (H : Good G vs r) (n : Int) : Mid G vs r n [] :=
 ⟨H.sv, H.pv, H.nv, fun v hv => by simpa using H.kp v hv, fun v hv => by simpa using H.cy v hv, fun v hv u => by simpa using H.qp v hv u⟩
theorem Mid.step {G G' : Gr} {vs : List Int} {r : Int → List Int} {n : Int} {done : List Int} (H : Mid G vs r n done) {u : Int} (hu : u ∉ done) (e1 : G'.sv = G.sv) (e2 : G'.pv = G.pv) (e3 : G'.nv = G.nv)
  (ku : G'.ks u = offI (G.ks u) n) (ko : ∀ z, z ≠ u → G'.ks z = G.ks z) (pu : G'.ps u = offI (G.ps u) n) (po : ∀ z, z ≠ u → G'.ps z = G.ps z)
  (cu : Cyc (G'.x u) (G'.y u) (offI (r u) n)) (co : ∀ z, z ≠ u → G'.x z = G.x z ∧ G'.y z = G.y z) : Mid G' vs r n (done ++ [u]) := by
 have c2 : ∀ z, z ≠ u → (z ∈ done ++ [u] ↔ z ∈ done) := fun z hz => by simp [hz]
 have c1 : u ∈ done ++ [u] := by simp
 refine ⟨e1.trans H.sv, e2.trans H.pv, e3.trans H.nv, fun z hz => ?_, fun z hz => ?_, fun z hz y => ?_⟩
 ·rcases Classical.em (z = u) with rfl | q
  ·rw [if_pos c1, ku]
   have := H.kp z hz
   rw [if_neg hu] at this
   exact offI_perm this n
  ·simp only [ko z q, propext (c2 z q)]; exact H.kp z hz
 ·rcases Classical.em (z = u) with rfl | q
  ·rw [if_pos c1]; exact cu
  ·simp only [(co z q).1, (co z q).2, propext (c2 z q)]; exact H.cy z hz
 ·rcases Classical.em (z = u) with rfl | q
  ·rw [pu, mem_offI, H.qp z hz y]
   constructor
   ·rintro ⟨⟨h1, h2⟩, h3⟩; exact ⟨h1, fun e => h3 e.2⟩
   ·rintro ⟨h1, h2⟩; exact ⟨⟨h1, fun e => hu e.1⟩, fun e => h2 ⟨c1, e⟩⟩
  ·rw [po z q, H.qp z hz y, c2 z q]
abbrev Gr.cut1 (G : Gr) (u n : Int) : Gr := (G.offK u n).offQ u n
section
variable {G : Gr} {vs : List Int} {r : Int → List Int} {n u : Int} {done : List Int} (H : Mid G vs r n done) (hd : u ∉ done) (hu : u ∈ vs) (hn : n ∈ r u) (nd : (r u).Nodup) (hnv : n ∈ vs)
include H hd hu hn nd hnv
theorem Mid.row : (G.ks u).Perm (r u) ∧ Cyc (G.x u) (G.y u) (r u) := by
 have h1 := H.kp u hu
 have h2 := H.cy u hu
 rw [if_neg hd] at h1 h2
 exact ⟨h1, h2⟩
theorem Mid.inps (hs : u ∈ r n) : n ∈ G.ps u := (H.qp u hu n).mpr ⟨⟨hnv, hs⟩, fun e => hd e.1⟩
theorem Mid.one (s : offI (r u) n = []) : Mid (G.cut1 u n) vs r n (done ++ [u]) :=
 H.step hd rfl rfl rfl (upd_self _ _ _) (fun z q => upd_ne _ _ q) (upd_self _ _ _) (fun z q => upd_ne _ _ q) (by rw [s]; trivial) (fun z q => ⟨rfl, rfl⟩)
theorem Mid.two (c : Cyc (updI (G.x u) (G.y u n) (G.x u n)) (updI (G.y u) (G.x u n) (G.y u n)) (offI (r u) n)) : Mid ((G.cut1 u n).join u (G.x u n) (G.y u n)) vs r n (done ++ [u]) :=
 H.step hd rfl rfl rfl (upd_self _ _ _) (fun z q => upd_ne _ _ q) (upd_self _ _ _) (fun z q => upd_ne _ _ q) (by rw [join_x, join_y]; exact c) (fun z q => ⟨join_xo _ _ _ q, join_yo _ _ _ q⟩)
end
abbrev RN := Nat × Nat × (Int × Tok) × Addr × (Int × Tok) × (Int × Tok) × News × Gr
section
variable (o dI gd nd sd pd : Addr) (t1 t2 t3 t4 t5 n1 : Nat) (h1 h2 h3 h4 h5 : Int) (A : Ad) (vs : List Int) (r : Int → List Int) (O : Inv vs r) (n : Int) (tn : Tok) (hn : n ∈ vs) (hnn : n ∉ r n)
 (P : List Int) (hP : ∀ z ∈ P, z ∈ vs ∧ n ∈ r z) (hPn : P.Nodup) (es : List DictEntry) (q0 : Nat) (hlen : es.length = P.length) (hen : ∀ (j : Nat) (k : Int), P[j]? = some k → ∃ (hs : Int) (t : Tok) (b : Addr), (⟨es⟩ : Array DictEntry)[j]? = some ⟨hs, .int k t, .ref b⟩)
 (J f : Addr) (a1 a2 a3 a4 a5 a6 : Int) (c1 c2 c3 c4 c5 c6 : Tok) (nf : Nat)
include hpar K O hn hnn hP hPn hlen hen
theorem rn_loop : ∀ (q j : Nat) (R T : News) (m i : Nat) (gl : List GenState) (G : Gr) (z0 : Int) (tz0 : Tok) (s0 : Addr) (w0 : Int) (tw0 : Tok) (y0 : Int) (ty0 : Tok), j + q = P.length → Emb w T nd sd pd A G → Kept T (A.p n) (dictO es q0) → Mid G vs r n (P.take j) →
 Ctr prog1 w h₀ d os g₀ (aroundL 360) (rnLoop (.ref J) f) ((J, keyIt (A.p n) j es.length q0) :: (f, frO [⟨a1, .str "self" c1, .ref o⟩, ⟨a2, .str "n" c2, .int n tn⟩, ⟨a3, .str "u" c3, .int z0 tz0⟩, ⟨a4, .str "succs_u" c4, .ref s0⟩, ⟨a5, .str "un_cw" c5, .int w0 tw0⟩, ⟨a6, .str "un_ccw" c6, .int y0 ty0⟩] nf) :: (o, selfO dI) :: (k_addr% "b") :: (R ++ T)) m i gl
  (exQ RN (fun x => Emb w x.2.2.2.2.2.2.1 nd sd pd A x.2.2.2.2.2.2.2 ∧ Mid x.2.2.2.2.2.2.2 vs r n P) (fun _ => .ok .next) (fun x => (f, frO [⟨a1, .str "self" c1, .ref o⟩, ⟨a2, .str "n" c2, .int n tn⟩, ⟨a3, .str "u" c3, .int x.2.2.1.1 x.2.2.1.2⟩, ⟨a4, .str "succs_u" c4, .ref x.2.2.2.1⟩, ⟨a5, .str "un_cw" c5, .int x.2.2.2.2.1.1 x.2.2.2.2.1.2⟩, ⟨a6, .str "un_ccw" c6, .int x.2.2.2.2.2.1.1 x.2.2.2.2.2.1.2⟩] nf) :: (o, selfO dI) :: (k_addr% "b") :: (R ++ x.2.2.2.2.2.2.1)) (fun x => x.1) (fun x => x.2.1) (fun _ => gl))
 | 0, j, R, T, m, i, gl, G, z0, tz0, s0, w0, tw0, y0, ty0, hj, E, Kp, H => by
   have he : (⟨es⟩ : Array DictEntry)[j]? = none := by simp; omega
   have hd : P.take j = P := List.take_of_length_le (by omega)
   rw [hd] at H
   walk_at "d"
   run_tac Mine.walk [``k_pnext_end]
   exact re_choose [3, 4, 5] 6 rfl (hR 0 _ _ _ _ _ ⟨(_, _, (z0, tz0), s0, (w0, tw0), (y0, ty0), T, G), ⟨E, H⟩, rfl, rfl, rfl, rfl, rfl⟩)
 | q + 1, j, R, T, m, i, gl, G, z0, tz0, s0, w0, tw0, y0, ty0, hj, E, Kp, H => by
   have hjl : j < P.length := by omega
   obtain ⟨u, hu⟩ : ∃ u, P[j]? = some u := ⟨_, List.getElem?_eq_getElem hjl⟩
   obtain ⟨hs, tk, b, he⟩ := hen j u hu
   have htk : P.take (j + 1) = P.take j ++ [u] := by rw [List.take_add_one, hu]; rfl
   have hmem : u ∈ P := List.mem_of_getElem? hu
   obtain ⟨huv, hnu⟩ := hP u hmem
   have hud : u ∉ P.take j := by
    intro q
    have h1 := hPn
    rw [← List.take_append_drop (j + 1) P, htk, List.nodup_append, List.nodup_append] at h1
    exact h1.1.2.2 u q u (by simp) rfl
   have hun : u ≠ n := fun e => hnn (by rw [e] at hnu; exact hnu)
   have hus : u ∈ G.sv := by rw [H.sv]; exact huv
   have hup : u ∈ G.pv := by rw [H.pv]; exact huv
   have hnp : n ∈ G.pv := by rw [H.pv]; exact hn
   have ndu := O.ok.nd u huv
   obtain ⟨kp, cy⟩ := H.row hud huv hnu ndu hn
   have kun : n ∈ G.ks u := kp.mem_iff.mpr hnu
   have qun : n ∈ G.ps u := H.inps hud huv hnu ndu hn (O.sym u huv n hnu)
   rcases Cyc.off cy ndu hnu with ⟨s1, o1⟩ | ⟨s1, s1', k1, k2, cc⟩
   ·have H' := H.one hud huv hnu ndu hn o1
    rw [← htk] at H'
    have IH := fun R T m i gl z0 tz0 s0 w0 tw0 y0 ty0 E Kp => rn_loop q (j + 1) R T m i gl (G.cut1 u n) z0 tz0 s0 w0 tw0 y0 ty0 (by omega) E Kp H'
    walk_at "d"
    clear htk hjl hj hen hmem hud hu cy kp
    walk_at "eN"
    run_tac Mine.done
    run_tac Mine.ands
    constructor <;> assumption
   ·have H' := H.two hud huv hnu ndu hn cc
    rw [← htk] at H'
    walk_at "dO"
    walk_at "dI"
    have IH := fun R T m i gl z0 tz0 s0 w0 tw0 y0 ty0 E Kp => rn_loop q (j + 1) R T m i gl ((G.cut1 u n).join u (G.x u n) (G.y u n)) z0 tz0 s0 w0 tw0 y0 ty0 (by omega) E Kp H'
    walk_at "d"
    clear htk hjl hj hen hmem hud hu cy kp cc
    walk_at "dx"
    run_tac Mine.done
    run_tac Mine.ands
    constructor <;> assumption
end
section
variable (o dI gd nd sd pd : Addr) (t1 t2 t3 t4 t5 n1 : Nat) (h1 h2 h3 h4 h5 : Int) (A : Ad) (vs : List Int) (r : Int → List Int) (O : Inv vs r) (n : Int) (tn : Tok) (hn : n ∈ vs) (hnn : n ∉ r n)
 (P : List Int) (hP : ∀ z ∈ P, z ∈ vs ∧ n ∈ r z) (hPn : P.Nodup) (es : List DictEntry) (q0 : Nat) (hlen : es.length = P.length) (hen : ∀ (j : Nat) (k : Int), P[j]? = some k → ∃ (hs : Int) (t : Tok) (b : Addr), (⟨es⟩ : Array DictEntry)[j]? = some ⟨hs, .int k t, .ref b⟩)
 (J f : Addr) (a1 a2 : Int) (c1 c2 : Tok) (nf : Nat)
include hpar K O hn hnn hP hPn hlen hen
theorem rn_first (hp1 : 1 ≤ P.length) (R T : News) (m i : Nat) (gl : List GenState) (G : Gr) (E : Emb w T nd sd pd A G) (Kp : Kept T (A.p n) (dictO es q0)) (H : Mid G vs r n []) :
 Ctr prog1 w h₀ d os g₀ (aroundL 358) (rnLoop (.ref J) f) ((J, keyIt (A.p n) 0 es.length q0) :: (f, frO [⟨a1, .str "self" c1, .ref o⟩, ⟨a2, .str "n" c2, .int n tn⟩] nf) :: (o, selfO dI) :: (k_addr% "b") :: (R ++ T)) m i gl
  (exQ (RN × ((Int × Tok) × (Int × Tok) × (Int × Tok) × (Int × Tok)) × Nat) (fun x => Emb w x.1.2.2.2.2.2.2.1 nd sd pd A x.1.2.2.2.2.2.2.2 ∧ Mid x.1.2.2.2.2.2.2.2 vs r n P) (fun _ => .ok .next) (fun x => (f, frO [⟨a1, .str "self" c1, .ref o⟩, ⟨a2, .str "n" c2, .int n tn⟩, ⟨x.2.1.1.1, .str "u" x.2.1.1.2, .int x.1.2.2.1.1 x.1.2.2.1.2⟩, ⟨x.2.1.2.1.1, .str "succs_u" x.2.1.2.1.2, .ref x.1.2.2.2.1⟩, ⟨x.2.1.2.2.1.1, .str "un_cw" x.2.1.2.2.1.2, .int x.1.2.2.2.2.1.1 x.1.2.2.2.2.1.2⟩, ⟨x.2.1.2.2.2.1, .str "un_ccw" x.2.1.2.2.2.2, .int x.1.2.2.2.2.2.1.1 x.1.2.2.2.2.2.1.2⟩] x.2.2) :: (o, selfO dI) :: (k_addr% "b") :: (R ++ x.1.2.2.2.2.2.2.1)) (fun x => x.1.1) (fun x => x.1.2.1) (fun _ => gl)) := by
  have H : Mid G vs r n (P.take 0) := by simpa using H
  have hj : 0 + (P.length - 1) + 1 = P.length := by omega
  have hjl : 0 < P.length := by omega
  obtain ⟨u, hu⟩ : ∃ u, P[0]? = some u := ⟨_, List.getElem?_eq_getElem hjl⟩
  obtain ⟨hs, tk, b, he⟩ := hen 0 u hu
  have htk : P.take (0 + 1) = P.take 0 ++ [u] := by rw [List.take_add_one, hu]; rfl
  have hmem : u ∈ P := List.mem_of_getElem? hu
  obtain ⟨huv, hnu⟩ := hP u hmem
  have hud : u ∉ P.take 0 := by
   intro q
   have h1 := hPn
   rw [← List.take_append_drop (0 + 1) P, htk, List.nodup_append, List.nodup_append] at h1
   exact h1.1.2.2 u q u (by simp) rfl
  have hun : u ≠ n := fun e => hnn (by rw [e] at hnu; exact hnu)
  have hus : u ∈ G.sv := by rw [H.sv]; exact huv
  have hup : u ∈ G.pv := by rw [H.pv]; exact huv
  have hnp : n ∈ G.pv := by rw [H.pv]; exact hn
  have ndu := O.ok.nd u huv
  obtain ⟨kp, cy⟩ := H.row hud huv hnu ndu hn
  have kun : n ∈ G.ks u := kp.mem_iff.mpr hnu
  have qun : n ∈ G.ps u := H.inps hud huv hnu ndu hn (O.sym u huv n hnu)
  rcases Cyc.off cy ndu hnu with ⟨s1, o1⟩ | ⟨s1, s1', k1, k2, cc⟩
  ·have H' := H.one hud huv hnu ndu hn o1
   rw [← htk] at H'
   have IH := fun a3 a4 a5 a6 c3 c4 c5 c6 nf R T m i gl z0 tz0 s0 w0 tw0 y0 ty0 E Kp => rn_loop w b1 b2 hpar h₀ K d os g₀ o dI gd nd sd pd t1 t2 t3 t4 t5 n1 h1 h2 h3 h4 h5 A vs r O n tn hn hnn P hP hPn es q0 hlen hen J f a1 a2 a3 a4 a5 a6 c1 c2 c3 c4 c5 c6 nf (P.length - 1) (0 + 1) R T m i gl (G.cut1 u n) z0 tz0 s0 w0 tw0 y0 ty0 (by omega) E Kp H'
   walk_at "d"
   clear htk hjl hj hen hmem hud hu cy kp
   walk_at "eN"
   intro x hx
   walk_at "fj"
  ·have H' := H.two hud huv hnu ndu hn cc
   rw [← htk] at H'
   walk_at "dO"
   walk_at "dI"
   have IH := fun a3 a4 a5 a6 c3 c4 c5 c6 nf R T m i gl z0 tz0 s0 w0 tw0 y0 ty0 E Kp => rn_loop w b1 b2 hpar h₀ K d os g₀ o dI gd nd sd pd t1 t2 t3 t4 t5 n1 h1 h2 h3 h4 h5 A vs r O n tn hn hnn P hP hPn es q0 hlen hen J f a1 a2 a3 a4 a5 a6 c1 c2 c3 c4 c5 c6 nf (P.length - 1) (0 + 1) R T m i gl ((G.cut1 u n).join u (G.x u n) (G.y u n)) z0 tz0 s0 w0 tw0 y0 ty0 (by omega) E Kp H'
   walk_at "d"
   clear htk hjl hj hen hmem hud hu cy kp cc
   walk_at "dx"
   intro x hx
   walk_at "fj"
end
abbrev cutN (r : Int → List Int) (n : Int) : Int → List Int := fun z => if z = n then [] else offI (r z) n
theorem offI_none {l : List Int} {n : Int} (h : n ∉ l) : offI l n = l := by
 unfold offI
 exact List.filter_eq_self.mpr fun z hz => by simpa using fun e : z = n => h (e ▸ hz)
abbrev Gr.gone (G : Gr) (n : Int) : Gr := ((G.offN n).offS n).offP n
theorem Good.gone {G0 G : Gr} {vs : List Int} {r : Int → List Int} {n : Int} {P : List Int} (H0 : Good G0 vs r) (sym : ∀ v ∈ vs, ∀ u ∈ r v, v ∈ r u) (H : Mid G vs r n P) (hP : ∀ z, z ∈ P ↔ z ∈ vs ∧ n ∈ r z) (hn : n ∈ vs) : Good (G.gone n) (offI vs n) (cutN r n) := by
 have row : ∀ z ∈ vs, (if z ∈ P then offI (r z) n else r z) = offI (r z) n := fun z hz => by
  split
  ·rfl
  ·next q => rw [offI_none fun e => q ((hP z).mpr ⟨hz, e⟩)]
 have cr : ∀ z, z ≠ n → cutN r n z = offI (r z) n := fun z q => if_neg q
 refine ⟨by show offI G.sv n = _; rw [H.sv], by show offI G.pv n = _; rw [H.pv], by show offI G.nv n = _; rw [H.nv], offI_nodup H0.vn n, fun v hv => H0.vo v (mem_offI.mp hv).1, fun v hv => ?_, fun v hv => ?_, fun v hv => ?_, fun v hv => ?_, fun v hv u hu => ?_, fun v hv q => ?_, fun v hv u => ?_⟩
 ·rcases Classical.em (v = n) with q | q
  ·exact if_pos q
  ·rw [cr v q, H0.out v fun e => hv (mem_offI.mpr ⟨e, q⟩)]; rfl
 ·walk_at "bE"
  rw [cr v h2, ← row v h1]; exact H.kp v h1
 ·walk_at "bE"
  rw [cr v h2, ← row v h1]; exact H.cy v h1
 ·walk_at "bE"
  rw [cr v h2]; exact offI_nodup (H0.nd v h1) n
 ·walk_at "bE"
  rw [cr v h2] at hu
  obtain ⟨h3, h4⟩ := mem_offI.mp hu
  exact mem_offI.mpr ⟨H0.rv v h1 u h3, h4⟩
 ·walk_at "bE"
  rw [cr v h2] at q
  exact H0.nl v h1 (mem_offI.mp q).1
 ·walk_at "bE"
  refine (H.qp v h1 u).trans ?_
  rw [mem_offI]
  constructor
  ·rintro ⟨⟨q1, q2⟩, q3⟩
   have q4 : u ≠ n := fun e => q3 ⟨(hP v).mpr ⟨h1, e ▸ sym u q1 v q2⟩, e⟩
   exact ⟨⟨q1, q4⟩, by rw [cr u q4]; exact mem_offI.mpr ⟨q2, h2⟩⟩
  ·rintro ⟨⟨q1, q2⟩, q3⟩
   rw [cr u q2] at q3
   exact ⟨⟨q1, (mem_offI.mp q3).1⟩, fun e => q2 e.2⟩
section
variable (R T : News) (m i : Nat) (gl : List GenState)
 (o dI gd nd sd pd : Addr) (t1 t2 t3 t4 t5 n1 : Nat) (h1 h2 h3 h4 h5 : Int) (vs : List Int) (r : Int → List Int) (E : EmbC w T nd sd pd vs r) (O : Inv vs r)
 (n : Int) (tn : Tok) (hn : n ∈ vs)
include hpar K E O hn
theorem rn_all : Ctr prog1 w h₀ d os g₀ (aroundL 350) (.call (.ref 788) ⟨[.ref o, .int n tn], []⟩) (k_addr% "i") m i gl
  (exQ (Nat × Nat × News) (fun x => EmbC w x.2.2 nd sd pd (offI vs n) (cutN r n)) (k_addr% "s") (k_addr% "v") (fun x => x.1) (fun x => x.2.1) (fun _ => gl)) := by
 obtain ⟨A, G, E, H⟩ := E
 have hnp : n ∈ G.pv := by rw [H.pv]; exact hn
 have hnn := H.nl n hn
 obtain ⟨ob, g, es, q0, rfl, D⟩ := E.cel (.p n) hnp
 have D : DE prog1 w (tab (G.ps n) fun z => A.d z n) es := D
 have g : getL T (A.p n) = some (dictO es q0) := g
 have Kp : Kept T (A.p n) (dictO es q0) := g
 have hPn : (G.ps n).Nodup := DF.nodup ⟨es, q0, rfl, D⟩
 walk_at "ad"
 have hlen : es.length = (G.ps n).length := by have := D.pairs.length; simpa [tab] using this
 obtain ⟨ps, hk1, hk2⟩ := keys_of D
 have hen : ∀ (j : Nat) (k : Int), (G.ps n)[j]? = some k → ∃ (hs : Int) (t : Tok) (b : Addr), (⟨es⟩ : Array DictEntry)[j]? = some ⟨hs, .int k t, .ref b⟩ := fun j k hj => by
  have hjl : j < es.length := by
   rw [hlen]
   exact (List.getElem?_eq_some_iff.mp hj).1
  obtain ⟨hs, k', t, b, he⟩ := hr es[j] (List.getElem_mem hjl)
  refine ⟨hs, t, b, ?_⟩
  have h1 : es[j]? = some ⟨hs, .int k' t, .ref b⟩ := by rw [List.getElem?_eq_getElem hjl, he]
  have h2 : (es.map (·.key))[j]? = some (.int k' t) := by rw [List.getElem?_map, h1]; rfl
  rw [hk1, List.getElem?_map] at h2
  rw [← hk2, List.getElem?_map] at hj
  cases q : ps[j]? with
  | none => rw [q] at hj; cases hj
  | some p =>
    rw [q] at hj h2
    simp only [Option.map_some, Option.some.injEq, Value.int.injEq] at hj h2
    rw [← hj, h2.1, ← h1]
    simp
 have hP : ∀ z, z ∈ G.ps n ↔ z ∈ vs ∧ n ∈ r z := fun z => H.qp n hn z
 have Md := Mid.start H n
 have fin := fun (T' : News) (G' : Gr) (e : Emb w T' nd sd pd A (G'.gone n)) (q : Mid G' vs r n (G.ps n)) => (⟨A, _, e, H.gone O.sym q hP hn⟩ : EmbC w T' nd sd pd (offI vs n) (cutN r n))
 rcases hq : G.ps n with _ | ⟨p, P⟩
 ·rw [hq] at hlen
  have he : (⟨es⟩ : Array DictEntry)[0]? = none := by simp at hlen ⊢; exact hlen
  rw [hq] at fin
  walk_at "d"
  have hns : n ∈ G.sv := by rw [H.sv]; exact hn
  have hnn' : n ∈ G.nv := by rw [H.nv]; exact hn
  clear hP hen hk1 hk2 hr hPn
  run_tac Mine.walk ([``q_diter, ``k_pnext_end] ++ Mine.embNames) [] {}
  intro x hx
  exact re_choose [4, 5] 6 rfl (hR 0 _ _ _ _ _ ⟨(_, _, x), fin _ _ hx Md, rfl, rfl, rfl, rfl, rfl⟩)
 ·have hp1 : 1 ≤ (G.ps n).length := by rw [hq]; simp
  have FST := fun J f a1 a2 c1 c2 nf R m i gl => rn_first w b1 b2 hpar h₀ K d os g₀ o dI gd nd sd pd t1 t2 t3 t4 t5 n1 h1 h2 h3 h4 h5 A vs r O n tn hn hnn (G.ps n) (fun z hz => (hP z).mp hz) hPn es q0 hlen hen J f a1 a2 c1 c2 nf hp1 R T m i gl G E Kp Md
  walk_at "d"
  clear hP hen hk1 hk2 hr hPn hq
  run_tac Mine.walk ([``q_diter] ++ Mine.embNames) [`FST] { stops := ["call dict.__delitem__"] }
  intro x hx
  obtain ⟨hx1, hx2⟩ := hx
  have g1 : n ∈ x.1.2.2.2.2.2.2.2.sv := by rw [hx2.sv]; exact hn
  have g2 : n ∈ x.1.2.2.2.2.2.2.2.pv := by rw [hx2.pv]; exact hn
  have g3 : n ∈ x.1.2.2.2.2.2.2.2.nv := by rw [hx2.nv]; exact hn
  run_tac Mine.walk (Mine.embNames) [] {}
  intro y hy
  exact re_choose [1, 2] 3 rfl (hR 0 _ _ _ _ _ ⟨(_, _, y), fin _ _ hy hx2, rfl, rfl, rfl, rfl, rfl⟩)
theorem rn_allZ (Tr : News) : Ctr prog1 w h₀ d os g₀ (aroundL 350) (.call (.ref 788) ⟨[.ref o, .int n tn], []⟩) (k_addr% "P") m i gl
  (exQ (Nat × Nat × News) (fun x => EmbC w x.2.2 nd sd pd (offI vs n) (cutN r n)) (k_addr% "s") (k_addr% "R") (fun x => x.1) (fun x => x.2.1) (fun _ => gl)) := by
 have := rn_all w b1 b2 hpar h₀ K d os g₀ (R ++ Tr) T m i gl o dI gd nd sd pd t1 t2 t3 t4 t5 n1 h1 h2 h3 h4 h5 vs r E O n tn hn
 simpa only [List.append_assoc] using this
end
section
variable (R T Te : News) (m i : Nat) (gl : List GenState) (rd : Addr) (vs : List Int) (r : Int → List Int) (E : Rz w T rd vs r)
include K E
theorem r_diterZ : Ctr prog1 w h₀ d os g₀ (aroundL 470) (.call (.builtin "dict.__iter__") ⟨[.ref rd], []⟩) (R ++ (T ++ Te)) m i gl (oneQ (.ref m) ((m, keyIt rd 0 (esOf T rd).length (nOf T rd)) :: (R ++ (T ++ Te))) (m + 1) i gl) :=
 q_diter w h₀ K d os g₀ R (T ++ Te) m i gl rd (esOf T rd) (nOf T rd) (getL_app (ld_w1 w T rd vs r E))
end
section
variable (RR : Result → Shared → Prop)
 (I ln f l o : Addr) (j : Nat) (ns : List (Int × Tok)) (xs : List Value) (nl : Nat) (dI gd nd sd pd : Addr) (t1 t2 t3 t4 t5 n1 : Nat) (h1 h2 h3 h4 h5 : Int)
 (QF : Post) (hR : ∀ n r news' m' i' gl', QF r news' m' i' gl' → RE ⟨prog1, w, h₀, 0, kt1 w, [], (aroundT 10 f), RR, d, 0, os⟩ g₀ n r news' m' i' gl')
 (IH : ∀ (R Tr Te : News) (m i : Nat) (gl : List GenState) (F : Fl) (rd : Addr) (a b : Int) (ta tb : Tok) (vs : List Int) (r : Int → List Int), EmbC w Te nd sd pd vs r → Rz w Tr rd vs r → Inv vs r → RestOk gl F.rest →
  Ctr prog1 w h₀ d os g₀ ((aroundT 10 f)) (lawLoop (.ref I) f) (k_addr% "a") m i gl QF)
 (R Tr Te : News) (n m i : Nat) (gl : List GenState) (F : Fl) (rd : Addr) (a b : Int) (ta tb : Tok) (vs : List Int) (r : Int → List Int) (E : EmbC w Te nd sd pd vs r) (Er : Rz w Tr rd vs r) (O : Inv vs r) (hrest : RestOk gl F.rest)
 (hab : a ≠ b) (ha6 : 0 ≤ a ∧ a < 6) (hb6 : 0 ≤ b ∧ b < 6)
include hpar K hR IH E Er O hrest hab ha6 hb6
theorem c3_name (hk4 : F.kd = 4) (hm : F.num.fmod (Int.ofNat 5) = Int.ofNat 0) (ha : a ∈ vs) : RM ⟨prog1, w, h₀, 0, kt1 w, [], (aroundT 10 f), RR, d, 0, os⟩ g₀ n (lawLoop (.ref I) f) none .base (bodyT I f)
 (k_addr% "a") m i gl ∨ True := by
 walk_at "dq"
 have k2 : F.kd ≠ 3 := by omega
 clear IH
 run_tac do
  let s ← Lean.saveState
  Lean.Elab.Tactic.evalTactic (← `(tactic| left))
  Mine.walk ([``rn_allZ, ``r_diterZ] ++ Mine.allNames) [] { stops := ["compStart"], say := true }
  Mine.nameCode `Mine.c3Start (some s)
 exact Or.inr trivial
end
noncomputable abbrev c3Loop (it acc : Value) (f : Addr) (x : Nat × Nat × News) : Code := match c3Start it acc f x with
 | .compStart e d it acc env => .compLoop e d it acc env
 | c => c
section
variable (T : News)
 (rd : Addr) (er : List DictEntry) (nr : Nat) (gr : getL T rd = some (dictO er nr)) (vs : List Int) (L : Int → Addr) (r : Int → List Int) (Dr : DE prog1 w (tab vs L) er) (hL : Lz T L vs r)
 (hvs : vs.length ≤ 100) (hr : ∀ v ∈ vs, (r v).length ≤ 100)
 (I ac f : Addr) (x : Nat × Nat × News) (a : Int) (ta : Tok) (nf : Nat)
include hpar K gr Dr hL hvs hr
theorem c3_try (j : Nat) (R Ts : News) (m i : Nat) (gl : List GenState) (v : Int) (tv : Tok) (eb : List DictEntry) (nb : Nat) (hj : j + 1 < vs.length) (hka' : ∀ k : Int, k ≠ a) (Q : Post) :
 Ctr prog1 w h₀ d os g₀ (aroundL 346) (c3Loop (.ref I) (.ref ac) f x)
  ((I, keyIt rd j er.length nr) :: (x.1 + 1 + 1, dictO [] nf) :: (x.1 + 1 + 1 + 1, cellO (.int v tv)) :: (ac, dictO eb nb) :: (f + 1, cellO (.ref rd)) :: (k_addr% "aG") :: ((R ++ Ts) ++ T)) m i gl Q ∨ True := by
 walk_at "B"
 walk_at "aS"
 walk_at "aB"
 have hka := hka' k
 clear hj hL hkm hkn ht hr hvs hlen
 run_tac do
  let s ← Lean.saveState
  Lean.Elab.Tactic.evalTactic (← `(tactic| left))
  Lean.Elab.Tactic.evalTactic (← `(tactic| refine Ctr.ofQ (Mine.kt1 w) ?_))
  Mine.walk ([``q_keynext] ++ Mine.intNames ++ Mine.dictNames ++ Mine.datNames) [] { stops := ["compStart"] }
  Mine.nameCode `Mine.c4Start (some s)
 exact Or.inr trivial
end
noncomputable abbrev c4Loop (it acc : Value) (f : Addr) (x : Nat × Nat × News) (mm : Nat) : Code := match c4Start it acc f x mm with
 | .compStart e d it acc env => .compLoop e d it acc env
 | c => c
section
variable (l I acc f : Addr) (x : Nat × Nat × News) (mm : Nat) (T : News) (ps : List (Int × Tok)) (n : Nat) (e : getL T l = some (listO (ivs ps) n)) (hps : ps.length ≤ 100) (z : Int) (tz : Tok) (a3 : Int) (c3 : Tok) (nf : Nat)
include hpar K e hps
theorem c4_loop : ∀ (q j : Nat) (R : News) (m i : Nat) (gl : List GenState) (qs : List (Int × Tok)) (na : Nat) (v0 : Int) (tv0 : Tok), j + q = ps.length → qs.length ≤ 400 - q →
 Ctr prog1 w h₀ d os g₀ (aroundL 360) (c4Loop (.ref I) (.ref acc) f x mm)
  ((I, litO l j) :: (acc, listO (ivs qs) na) :: (mm + 1 + 1, dictO [⟨a3, .str "w" c3, .int v0 tv0⟩] nf) :: (k_addr% "eh") :: (R ++ T)) m i gl
  (exQ (k_addr% "dR") (k_addr% "cP") (fun _ => .ok .next) (fun y => (acc, listO (ivs y.2.2.2.2.2) y.2.2.2.2.1) :: (mm + 1 + 1, dictO [⟨a3, .str "w" c3, .int y.2.2.1 y.2.2.2.1⟩] nf) :: (k_addr% "eh") :: (R ++ T)) (fun y => y.1) (fun y => y.2.1) (fun _ => gl))
 | 0, j, R, m, i, gl, qs, na, v0, tv0, hj, hk => by
   walk_at "bI"
   walk_at "cd"
   rw [hd]
   walk_at "d"
   run_tac Mine.walk [``q_lnext_end]
   walk_at "bL"
 | q + 1, j, R, m, i, gl, qs, na, v0, tv0, hj, hk => by
   walk_at "eA"
   walk_at "bB"
   walk_at "aR"
   walk_at "ax"
   walk_at "ff"
   rw [hd]
   walk_at "dC"
   ·have IH := fun R m i gl na => c4_loop q (j + 1) R m i gl qs na v tv (by omega) (by omega)
    walk_at "d"
    clear hd hjl hpe hj hk hps
    walk_at "aV"
    intro y hy
    walk_at "Y"
    simpa [offI, hv] using hy
   ·have hv2 : v ≠ z := hv
    have IH := fun R m i gl na => c4_loop q (j + 1) R m i gl (qs ++ [(v, tv)]) na v tv (by omega) (by simp; omega)
    walk_at "d"
    clear hd hjl hpe hj hk hps
    walk_at "aV"
    intro y hy
    walk_at "Y"
    simpa [offI, hv] using hy
end
section
variable (l I acc f : Addr) (x : Nat × Nat × News) (mm : Nat) (R T : News) (m i : Nat) (gl : List GenState) (ps : List (Int × Tok)) (n : Nat) (e : getL T l = some (listO (ivs ps) n)) (hne : 1 ≤ ps.length) (hln : ps.length ≤ 100) (z : Int) (tz : Tok) (na nf : Nat)
include hpar K e hne hln
theorem c4_start :
 Ctr prog1 w h₀ d os g₀ (aroundL 350) (c4Start (.ref I) (.ref acc) f x mm)
  ((I, litO l 0) :: (acc, listO [] na) :: (mm + 1 + 1, dictO [] nf) :: (k_addr% "eh") :: (R ++ T)) m i gl
  (exQ (k_addr% "bj") (fun y => y.2.2.2.1.map Prod.fst = offI (ps.map Prod.fst) z) (fun _ => .ok .next) (fun y => (acc, listO (ivs y.2.2.2.1) y.2.2.1) :: (mm + 1 + 1, dictO [⟨y.2.2.2.2.1, .str "w" y.2.2.2.2.2.1, .int y.2.2.2.2.2.2.1 y.2.2.2.2.2.2.2.1⟩] y.2.2.2.2.2.2.2.2) :: (k_addr% "eh") :: (R ++ T)) (fun y => y.1) (fun y => y.2.1) (fun _ => gl)) := by
 walk_at "dB"
 ·cases hne
 ·walk_at "aU"
  walk_at "dC"
  ·have IH := fun a3 c3 nf R m i gl na => c4_loop w b1 b2 hpar h₀ K d os g₀ l I acc f x mm T ((v, tv) :: ps) n e hln z tz a3 c3 nf ps.length 1 R m i gl [] na v tv (by simp; omega) (by simp)
   simp only [ivs, List.map_nil] at IH
   clear hln hne
   cases b2
   all_goals
    walk_at "d"
    walk_at "aW"
    intro y hy
    walk_at "A"
    simpa [offI, hv] using hy
  ·have hv2 : v ≠ z := hv
   have IH := fun a3 c3 nf R m i gl na => c4_loop w b1 b2 hpar h₀ K d os g₀ l I acc f x mm T ((v, tv) :: ps) n e hln z tz a3 c3 nf ps.length 1 R m i gl [(v, tv)] na v tv (by simp; omega) (by simp at hln ⊢; omega)
   clear hln hne
   cases b2
   all_goals
    walk_at "d"
    walk_at "aW"
    intro y hy
    walk_at "A"
    simpa [offI, hv] using hy
end
section
variable (l I acc f : Addr) (x : Nat × Nat × News) (mm : Nat) (R T : News) (m i : Nat) (gl : List GenState) (n : Nat) (e : getL T l = some (listO (ivs []) n)) (z : Int) (tz : Tok) (na nf : Nat)
include hpar K e
theorem c4_start0 :
 Ctr prog1 w h₀ d os g₀ (aroundL 350) (c4Start (.ref I) (.ref acc) f x mm)
  ((I, litO l 0) :: (acc, listO [] na) :: (mm + 1 + 1, dictO [] nf) :: (k_addr% "eh") :: (R ++ T)) m i gl
  (exQ (Nat × Nat) (fun _ => True) (fun _ => .ok .next) (fun y => (acc, listO (ivs []) na) :: (mm + 1 + 1, dictO [] nf) :: (k_addr% "eh") :: (R ++ T)) (fun y => y.1) (fun y => y.2) (fun _ => gl)) := by
 have he : (⟨ivs []⟩ : Array Value)[0]? = none := rfl
 cases b2
 all_goals
  walk_at "d"
  run_tac Mine.walk [``q_lnext_end]
  walk_at "cL"
end
theorem dc_newR (Ts : News) (L0 : Int → Addr) (v0 : List Int) (r : Int → List Int) (k : Int) (pk : List (Int × Tok)) (nk : Nat) (ek : pk.map Prod.fst = r k) (l : Addr) (hkn : k ∉ v0) (hL0 : Lz Ts L0 v0 r) (hl : ∀ a o, getL Ts a = some o → l ≠ a) :
  Lz ((l, listO (ivs pk) nk) :: Ts) (upd L0 k l) (v0 ++ [k]) r := by
 intro z hz
 walk_at "az"
 ·rw [upd_ne _ _ (fun e => hkn (by rw [← e]; exact h))]
  exact (hL0.skip hl) z h
 ·rw [List.mem_singleton.mp h, upd_self]
  exact ⟨_, _, getL_head _ _ _, ek⟩
section
variable (T : News)
 (rd : Addr) (er : List DictEntry) (nr : Nat) (gr : getL T rd = some (dictO er nr)) (vs : List Int) (L : Int → Addr) (r : Int → List Int) (Dr : DE prog1 w (tab vs L) er) (hL : Lz T L vs r)
 (hvs : vs.length ≤ 100) (hr : ∀ v ∈ vs, (r v).length ≤ 100)
 (I ac f : Addr) (x : Nat × Nat × News) (a : Int) (ta : Tok) (a3 : Int) (c3 : Tok) (nf : Nat)
include hpar K gr Dr hL hvs hr
theorem c3_loop : ∀ (q j : Nat) (R Ts : News) (m i : Nat) (gl : List GenState) (v : Int) (tv : Tok) (eb : List DictEntry) (nb : Nat) (L0 : Int → Addr), j + q = vs.length → DE prog1 w (tab (offI (vs.take j) a) L0) eb → Lz Ts L0 (offI (vs.take j) a) (fun v => offI (r v) a) →
 Ctr prog1 w h₀ d os g₀ (aroundL 346) (c3Loop (.ref I) (.ref ac) f x)
  ((I, keyIt rd j er.length nr) :: (x.1 + 1 + 1, dictO [⟨a3, .str "v" c3, .int v tv⟩] nf) :: (ac, dictO eb nb) :: (f + 1, cellO (.ref rd)) :: (k_addr% "aG") :: ((R ++ Ts) ++ T)) m i gl
  (k_addr% "u") := by
 walk_at "B"
 intro q
 induction q with
 | zero =>
   walk_at "df"
   have he := keyIt_end er j (by omega)
   walk_at "do"
   rw [ht] at Db hL0
   walk_at "d"
   walk_at "aK"
   exact re_choose [3, 4, 5, 6] 7 rfl (k_addr% "cG")
 | succ q ih =>
   walk_at "df"
   walk_at "aS"
   walk_at "aB"
   have hp2 : pk.length ≤ 100 := by have := hr k hkm; rw [← ek, List.length_map] at this; exact this
   rcases Classical.em (k = a) with hka | hka
   ·have hoff : offI (vs.take (j + 1)) a = offI (vs.take j) a := by rw [ht]; simp [offI, hka]
    have IH := fun R m i gl v tv => ih (j + 1) R Ts m i gl v tv eb nb L0 (by omega) (by rw [hoff]; exact Db) (by rw [hoff]; exact hL0)
    walk_at "d"
    clear hj hL ih hkm hkn ht hL0 hr hvs hlen hoff
    run_tac Mine.walk ([``q_keynext] ++ Mine.intNames ++ Mine.dictNames) [] { stops := ["compLoop"] }
    refine rm_sub (n' := 0) (news' := (I, keyIt rd (j + 1) er.length nr) :: (x.1 + 1 + 1, dictO [⟨a3, .str "v" c3, .int k t⟩] nf) :: (ac, dictO eb nb) :: (f + 1, cellO (.ref rd)) :: (k_addr% "aG") :: ((R ++ Ts) ++ T)) (fun h M => ?_) ?_
    ·exact M
    ·have zz := fun m i (_ : List GenState) => rm_againB (n := 0) (c := c3Loop (.ref I) (.ref ac) f x) (V := ⟨prog1, w, h₀, 0, kt1 w, [], aroundL 346, RR, d, 0, os⟩) (IH R m i gl k t) rfl (fun r n m i gl q => hR 0 r n m i gl q)
     walk_at "ae"
   ·have hka2 : k ≠ a := hka
    have hoff : offI (vs.take (j + 1)) a = offI (vs.take j) a ++ [k] := by rw [ht]; simp [offI, hka]
    have hkn2 : k ∉ offI (vs.take j) a := fun e => hkn (mem_offI.mp e).1
    have hz : (tab (offI (vs.take j) a) L0).length ≤ 500 := by
     have h1 := List.length_filter_le (fun z => decide (z ≠ a)) (vs.take j)
     simp only [tab, List.length_map, offI]
     rw [List.length_take] at h1
     omega
    have IH := fun l R Ts m i gl qs na v tv Lz' => ih (j + 1) R ((l, listO (ivs qs) na) :: Ts) m i gl v tv (storeE eb k t (.ref l)) (storeN eb k nb) (upd L0 k l) (by omega) (by
     rw [hoff, ← tab_store (f := L0) hkn2 (upd L0 k l) (fun z hz => upd_ne _ _ (fun e => hkn2 (by rw [← e]; exact hz))) (upd_self _ _ _)]
     exact Db.store k t (.ref l)) Lz'
    have LN := fun qs na l ek hl => dc_newR Ts L0 (offI (vs.take j) a) (fun v => offI (r v) a) k qs na ek l hkn2 hL0 hl
    rw [← hoff] at LN
    have ek2 : offI (pk.map Prod.fst) a = offI (r k) a := by rw [ek]
    clear hj hL ih hkm hkn ht hL0 hr hvs hlen hoff ek
    rcases pk with _ | ⟨p0, pk⟩
    ·walk_at "d"
     walk_at "aE"
     run_tac Mine.walk [``c4_start0] [] { fuel := 1 }
     intro y
     run_tac Mine.walk [] [] { fuel := 2 }
     intro h D
     have zz := fun hh => cut_setP (hh := hh) (n := 0) (c := c3Loop (.ref I) (.ref ac) f x) (kt := kt1 w) (R₀ := RR) (vs := [.int k t, .ref (m + 1)]) (k := k) (tk := t) (v := .ref (m + 1)) (a := ac) (es := eb) (nn := nb) (c' := c3Loop (.ref I) (.ref ac) f x) (m := y.1) (i := y.2) (gl := gl)
      (R := (m + 1, listO (ivs []) 0) :: (I, keyIt rd (j + 1) er.length nr) :: (x.1 + 1 + 1, dictO [⟨a3, .str "v" c3, .int k t⟩] nf) :: (f + 1, cellO (.ref rd)) :: (k_addr% "aG") :: ((R ++ Ts) ++ T)) Db hz rfl
      (Q := (k_addr% "u"))
      (fun h R' M hs H => by
       have fr := dc_fresh (M.drop1) (Ts := Ts) (fun p hp => by simp [hp])
       have M2 := M.choose [2, 3, 0, 4, 5, 1] 6 rfl
       exact IH (m + 1) R Ts _ _ _ [] 0 k t (LN [] 0 _ ek2 fr) h R' (M2.perm (.cons _ (k_addr% "cU"))) hs H) (by
       walk_at "aq"
       walk_at "ao") h ⟨D.mm.choose [5, 0, 3, 4, 6, 2] 7 rfl, D.size⟩
     run_tac Mine.closeCut `zz
    ·have hp1 : 1 ≤ (p0 :: pk).length := by simp
     walk_at "d"
     walk_at "aE"
     run_tac Mine.walk [``c4_start] [] { fuel := 1 }
     intro y hy
     run_tac Mine.walk [] [] { fuel := 6 }
     intro h D
     have zz := fun hh => cut_setP (hh := hh) (n := 0) (c := c3Loop (.ref I) (.ref ac) f x) (kt := kt1 w) (R₀ := RR) (vs := [.int k t, .ref (m + 1)]) (k := k) (tk := t) (v := .ref (m + 1)) (a := ac) (es := eb) (nn := nb) (c' := c3Loop (.ref I) (.ref ac) f x) (m := y.1) (i := y.2.1) (gl := gl)
      (R := (m + 1, listO (ivs y.2.2.2.1) y.2.2.1) :: (I, keyIt rd (j + 1) er.length nr) :: (x.1 + 1 + 1, dictO [⟨a3, .str "v" c3, .int k t⟩] nf) :: (f + 1, cellO (.ref rd)) :: (k_addr% "aG") :: ((R ++ Ts) ++ T)) Db hz rfl
      (Q := (k_addr% "u"))
      (fun h R' M hs H => by
       have fr := dc_fresh (M.drop1) (Ts := Ts) (fun p hp => by simp [hp])
       have M2 := M.choose [2, 3, 0, 4, 5, 1] 6 rfl
       exact IH (m + 1) R Ts _ _ _ y.2.2.2.1 y.2.2.1 k t (LN y.2.2.2.1 y.2.2.1 _ (hy.trans ek2) fr) h R' (M2.perm (.cons _ (k_addr% "cU"))) hs H) (by
       walk_at "aq"
       walk_at "ao") h ⟨D.mm.choose [5, 0, 3, 4, 6, 2] 7 rfl, D.size⟩
     run_tac Mine.closeCut `zz
end
section
variable (T : News)
 (rd : Addr) (er : List DictEntry) (nr : Nat) (gr : getL T rd = some (dictO er nr)) (vs : List Int) (L : Int → Addr) (r : Int → List Int) (Dr : DE prog1 w (tab vs L) er) (hL : Lz T L vs r)
 (hvs : vs.length ≤ 100) (hr : ∀ v ∈ vs, (r v).length ≤ 100)
 (I ac f : Addr) (x : Nat × Nat × News) (a : Int) (ta : Tok) (nf : Nat)
include hpar K gr Dr hL hvs hr
theorem c3_first (h1v : 1 ≤ vs.length) (R : News) (m i : Nat) (gl : List GenState) :
 Ctr prog1 w h₀ d os g₀ (aroundL 346) (c3Start (.ref I) (.ref ac) f x)
  ((I, keyIt rd 0 er.length nr) :: (x.1 + 1 + 1, dictO [] nf) :: (ac, dictO [] 0) :: (f + 1, cellO (.ref rd)) :: (k_addr% "aG") :: (R ++ T)) m i gl
  (k_addr% "q") := by
 walk_at "B"
 walk_at "ch"
 walk_at "aB"
 have hp2 : pk.length ≤ 100 := by have := hr k hkm; rw [← ek, List.length_map] at this; exact this
 have Db : DE prog1 w [] [] := DE.nil
 walk_at "fh"
 have L00 : Lz ([] : News) L [] (fun v => offI (r v) a) := fun v hv => nomatch hv
 have ht0 : vs.take 0 = [] := rfl
 rw [ht0, List.nil_append] at ht
 rcases Classical.em (k = a) with hka | hka
 ·have hoff : offI (vs.take (0 + 1)) a = [] := by rw [ht]; simp [offI, hka]
  have IH := fun a3 c3 nf R m i gl v tv => c3_loop w b1 b2 hpar h₀ K d os g₀ T rd er nr gr vs L r Dr hL hvs hr I ac f x a ta a3 c3 nf (vs.length - 1) (0 + 1) R [] m i gl v tv [] 0 L (by omega) (by rw [hoff]; exact DE.nil) (by rw [hoff]; exact L00)
  simp only [List.append_nil] at IH
  clear hL hkm hkn ht hr hvs hlen hoff L00 ek
  cases b2
  all_goals
   walk_at "d"
   run_tac Mine.walk ([``q_keynext] ++ Mine.intNames ++ Mine.dictNames) [`IH]
   intro y hy
   exact re_choose [0, 1, 2, 3] 4 rfl (hR 0 _ _ _ _ _ ⟨(y.1, y.2.1, y.2.2.1, y.2.2.2.1, y.2.2.2.2.1, y.2.2.2.2.2.1, y.2.2.2.2.2.2.1, y.2.2.2.2.2.2.2, _, _, _), hy, rfl, rfl, rfl, rfl, rfl⟩)
 ·have hka2 : k ≠ a := hka
  have hoff : offI (vs.take (0 + 1)) a = [k] := by rw [ht]; simp [offI, hka]
  have IH := fun a3 c3 nf l R m i gl qs na v tv Lz' => c3_loop w b1 b2 hpar h₀ K d os g₀ T rd er nr gr vs L r Dr hL hvs hr I ac f x a ta a3 c3 nf (vs.length - 1) (0 + 1) R [(l, listO (ivs qs) na)] m i gl v tv (storeE [] k t (.ref l)) (storeN [] k 0) (upd L k l) (by omega) (by
    have := tab_store (l := []) (f := L) (k := k) (a := l) (by simp) (upd L k l) (fun z hz => nomatch hz) (upd_self _ _ _)
    rw [hoff, show [k] = [] ++ [k] from rfl, ← this]
    exact Db.store k t (.ref l)) Lz'
  have LN := fun qs na l ek hl => dc_newR [] L [] (fun v => offI (r v) a) k qs na ek l (by simp) L00 hl
  rw [List.nil_append, ← hoff] at LN
  have ek2 : offI (pk.map Prod.fst) a = offI (r k) a := by rw [ek]
  clear hL hkm hkn ht hr hvs hlen hoff ek L00
  rcases pk with _ | ⟨p0, pk⟩
  ·cases b2
   all_goals
    walk_at "d"
    walk_at "aE"
    run_tac Mine.walk [``c4_start0] [] { fuel := 1 }
    intro y
    run_tac Mine.walk [] [] { fuel := 2 }
    intro h D
    have zz := fun hh => cut_setP (hh := hh) (n := 0) (c := c3Loop (.ref I) (.ref ac) f x) (kt := kt1 w) (R₀ := RR) (vs := [.int k t, .ref (m + 1)]) (k := k) (tk := t) (v := .ref (m + 1)) (a := ac) (es := []) (nn := 0) (c' := c3Loop (.ref I) (.ref ac) f x) (m := y.1) (i := y.2) (gl := gl)
     (R := (m + 1, listO (ivs []) 0) :: (I, keyIt rd (0 + 1) er.length nr) :: (x.1 + 1 + 1, dictO [⟨_, .str "v" _, .int k t⟩] _) :: (f + 1, cellO (.ref rd)) :: (k_addr% "aG") :: (R ++ T)) Db hz rfl
     (Q := (k_addr% "q"))
     (fun h R' M hs H => by
      have M2 := M.choose [2, 3, 0, 4, 5, 1] 6 rfl
      refine IH _ _ _ (m + 1) R _ _ _ [] 0 k t (LN [] 0 _ ek2 (fun a o g => nomatch g)) h R' (M2.perm (.cons _ (.cons _ (.cons _ (.cons _ (.cons _ ?_)))))) hs ?_
      ·have := (perm_in (m + 1, listO (ivs []) 0) R [] T).symm
       rwa [List.append_nil] at this
      ·walk_at "bX"
       walk_at "X") (by
      walk_at "aq"
      walk_at "ao") h ⟨D.mm.choose [5, 0, 3, 4, 6, 2] 7 rfl, D.size⟩
    run_tac Mine.closeCut `zz
  ·have hp1 : 1 ≤ (p0 :: pk).length := by simp
   cases b2
   all_goals
    walk_at "d"
    walk_at "aE"
    run_tac Mine.walk [``c4_start] [] { fuel := 1 }
    intro y hy
    run_tac Mine.walk [] [] { fuel := 6 }
    intro h D
    have zz := fun hh => cut_setP (hh := hh) (n := 0) (c := c3Loop (.ref I) (.ref ac) f x) (kt := kt1 w) (R₀ := RR) (vs := [.int k t, .ref (m + 1)]) (k := k) (tk := t) (v := .ref (m + 1)) (a := ac) (es := []) (nn := 0) (c' := c3Loop (.ref I) (.ref ac) f x) (m := y.1) (i := y.2.1) (gl := gl)
     (R := (m + 1, listO (ivs y.2.2.2.1) y.2.2.1) :: (I, keyIt rd (0 + 1) er.length nr) :: (x.1 + 1 + 1, dictO [⟨_, .str "v" _, .int k t⟩] _) :: (f + 1, cellO (.ref rd)) :: (k_addr% "aG") :: (R ++ T)) Db hz rfl
     (Q := (k_addr% "q"))
     (fun h R' M hs H => by
      have M2 := M.choose [2, 3, 0, 4, 5, 1] 6 rfl
      refine IH _ _ _ (m + 1) R _ _ _ y.2.2.2.1 y.2.2.1 k t (LN y.2.2.2.1 y.2.2.1 _ (hy.trans ek2) (fun a o g => nomatch g)) h R' (M2.perm (.cons _ (.cons _ (.cons _ (.cons _ (.cons _ ?_)))))) hs ?_
      ·have := (perm_in (m + 1, listO (ivs y.2.2.2.1) y.2.2.1) R [] T).symm
       rwa [List.append_nil] at this
      ·walk_at "bX"
       walk_at "X") (by
      walk_at "aq"
      walk_at "ao") h ⟨D.mm.choose [5, 0, 3, 4, 6, 2] 7 rfl, D.size⟩
    run_tac Mine.closeCut `zz
end
theorem inv_cutN {vs : List Int} {r : Int → List Int} {n : Int} (O : Inv vs r) : Inv (offI vs n) (cutN r n) := by
 have cr : ∀ z, z ≠ n → cutN r n z = offI (r z) n := fun z q => if_neg q
 refine ⟨⟨fun v hv => O.ok.vo v (mem_offI.mp hv).1, fun v hv => ?_, fun v hv => ?_, fun v hv u hu => ?_⟩, fun v hv => O.six v (mem_offI.mp hv).1, fun v hv u hu => ?_, fun v hv u hu => ?_, offI_nodup O.vn n⟩
 ·rcases Classical.em (v = n) with q | q
  ·exact if_pos q
  ·rw [cr v q, O.ok.out v fun e => hv (mem_offI.mpr ⟨e, q⟩)]; rfl
 ·walk_at "bE"
  rw [cr v h2]; exact offI_nodup (O.ok.nd v h1) n
 ·walk_at "bE"
  rw [cr v h2] at hu; exact O.ok.ro v h1 u (mem_offI.mp hu).1
 ·walk_at "bE"
  rw [cr v h2] at hu
  obtain ⟨h3, h4⟩ := mem_offI.mp hu
  exact mem_offI.mpr ⟨O.rv v h1 u h3, h4⟩
 ·walk_at "bE"
  rw [cr v h2] at hu
  obtain ⟨h3, h4⟩ := mem_offI.mp hu
  rw [cr u h4]; exact mem_offI.mpr ⟨O.sym v h1 u h3, h2⟩
section
variable (T Te : News)
 (rd : Addr) (vs : List Int) (r : Int → List Int) (E : Rz w T rd vs r) (O : Inv vs r)
 (I ac f : Addr) (x : Nat × Nat × News) (a : Int) (ta : Tok) (nf : Nat) (h1v : vs ≠ []) (R : News) (m i : Nat) (gl : List GenState)
include hpar K E O h1v
theorem c3_all : Ctr prog1 w h₀ d os g₀ (aroundL 346) (c3Start (.ref I) (.ref ac) f x)
  ((I, keyIt rd 0 (esOf T rd).length (nOf T rd)) :: (x.1 + 1 + 1, dictO [] nf) :: (ac, dictO [] 0) :: (f + 1, cellO (.ref rd)) :: (k_addr% "aG") :: (R ++ (T ++ Te))) m i gl
  (exQ (Nat × Nat × Int × Tok × News × Int × Tok × Nat) (fun y => Rz w y.2.2.2.2.1 ac (offI vs a) (cutN r a)) (fun _ => .ok .next) (fun y => (x.1 + 1 + 1, dictO [⟨y.2.2.2.2.2.1, .str "v" y.2.2.2.2.2.2.1, .int y.2.2.1 y.2.2.2.1⟩] y.2.2.2.2.2.2.2) :: (f + 1, cellO (.ref rd)) :: (k_addr% "aG") :: ((R ++ y.2.2.2.2.1) ++ (T ++ Te))) (fun y => y.1) (fun y => y.2.1) (fun _ => gl)) := by
 walk_at "ag"
 have he : esOf T rd = er := by unfold esOf; rw [g]
 have hn : nOf T rd = nr := by unfold nOf; rw [g]
 rw [he, hn]
 have l2 : Lz (T ++ Te) L vs r := fun v hv => by
  obtain ⟨ps, n, q1, q2⟩ := l v hv
  exact ⟨ps, n, getL_app q1, q2⟩
 have hv1 : 1 ≤ vs.length := by rcases vs with _ | ⟨v, vs⟩; exact absurd rfl h1v; simp
 intro h RR M hs H
 refine c3_first w b1 b2 hpar h₀ K d os g₀ (T ++ Te) rd er nr (getL_app g) vs L r D l2 (nodup_le O.vn O.ok.vo) (fun v hv => O.ok.len hv) I ac f x a ta nf hv1 R m i gl h RR M hs ?_
 walk_at "bX"
 have M2 := M'.choose [1, 0, 2, 3] 4 rfl
 have fr := dc_fresh M2 (Ts := y.2.2.2.2.1) (fun p hp => by simp [hp])
 refine H _ _ _ _ _ h' ⟨(y.1, y.2.1, y.2.2.1, y.2.2.2.1, (ac, dictO y.2.2.2.2.2.2.1 y.2.2.2.2.2.2.2.1) :: y.2.2.2.2.1, y.2.2.2.2.2.2.2.2.1, y.2.2.2.2.2.2.2.2.2.1, y.2.2.2.2.2.2.2.2.2.2), Rz.pack (L := y.2.2.2.2.2.1) (getL_head _ _ _) hy.1 ((hy.2.skip fr).congr fun v hv => (if_neg (mem_offI.mp hv).2).symm), rfl, rfl, rfl, rfl, rfl⟩ ?_ hs'
 have M3 := M'.choose [0, 2, 3, 1] 4 rfl
 exact M3.perm (.cons _ (.cons _ (.cons _ (perm_in _ R _ (T ++ Te)).symm)))
end
section
variable (RR : Result → Shared → Prop)
 (I ln f l o : Addr) (j : Nat) (ns : List (Int × Tok)) (xs : List Value) (nl : Nat) (dI gd nd sd pd : Addr) (t1 t2 t3 t4 t5 n1 : Nat) (h1 h2 h3 h4 h5 : Int)
 (QF : Post) (hR : ∀ n r news' m' i' gl', QF r news' m' i' gl' → RE ⟨prog1, w, h₀, 0, kt1 w, [], (aroundT 10 f), RR, d, 0, os⟩ g₀ n r news' m' i' gl')
 (IH : ∀ (R Tr Te : News) (m i : Nat) (gl : List GenState) (F : Fl) (rd : Addr) (a b : Int) (ta tb : Tok) (vs : List Int) (r : Int → List Int), EmbC w Te nd sd pd vs r → Rz w Tr rd vs r → Inv vs r → RestOk gl F.rest →
  Ctr prog1 w h₀ d os g₀ ((aroundT 10 f)) (lawLoop (.ref I) f) (k_addr% "a") m i gl QF)
 (R Tr Te : News) (n m i : Nat) (gl : List GenState) (F : Fl) (rd : Addr) (a b : Int) (ta tb : Tok) (vs : List Int) (r : Int → List Int) (E : EmbC w Te nd sd pd vs r) (Er : Rz w Tr rd vs r) (O : Inv vs r) (hrest : RestOk gl F.rest)
 (hab : a ≠ b) (ha6 : 0 ≤ a ∧ a < 6) (hb6 : 0 ≤ b ∧ b < 6)
include hpar K hR IH E Er O hrest hab ha6 hb6
theorem p3_ok (hk4 : F.kd = 4) (hm : F.num.fmod (Int.ofNat 5) = Int.ofNat 0) (ha : a ∈ vs) : RM ⟨prog1, w, h₀, 0, kt1 w, [], (aroundT 10 f), RR, d, 0, os⟩ g₀ n (lawLoop (.ref I) f) none .base (bodyT I f)
 (k_addr% "a") m i gl := by
 walk_at "dq"
 have k2 : F.kd ≠ 3 := by omega
 have h1v : vs ≠ [] := fun e => by rw [e] at ha; cases ha
 walk_at "o"
 clear IH
 run_tac Mine.walk ([``rn_allZ, ``r_diterZ] ++ Mine.allNames) [] { stops := ["compStart"] }
 intro x hE
 run_tac Mine.walk [``c3_all] [] { fuel := 1 }
 intro y hy
 run_tac Mine.walkAt Mine.allNames 716 11 [] 11 30
 refine rm_sub (n' := 0) (news' := (I, litO ln (j + 1)) :: (ln, listO (ivs ns) 0) :: (k_addr% "aG") :: (k_addr% "dj") :: lawCells F l o f (x.1 + 1) xs nl dI (k_addr% "y") (R ++ (y.2.2.2.2.1 ++ x.2.2))) (fun h M => ?_) ?_
 ·have M1 := M.choose [5, 6, 2, 7, 8, 9, 1, 3, 4] 10 rfl
  have M2 := Mm.drop_mid (P := [_, _, _, _, _, _, _, _, _]) M1
  rw [List.append_assoc R] at M2
  exact M2
 ·have zz := fun m i (_ : List GenState) => TT 0 R y.2.2.2.2.1 x.2.2 m i gl F (x.1 + 1) ta tb (offI vs a) (cutN r a) hE hy (inv_cutN O) hrest
  walk_at "ae"
end
end Mine
end
namespace PySem
section
variable {α : Type} {M : Model} {A : Around} {E : Value → Shared → Prop} {s : Shared}
theorem Mine.raise_exact {cls : String} {args : List Value} {Q : α → Shared → Prop} (hp : PlainExc cls) (hh : A.handled = none)
  (h : E (.ref (s.heap.objs.size + 1)) { s with heap := (s.heap.push ⟨.type "tuple", none, .seq args.toArray, #[]⟩).push ⟨.type cls, none, .fields #[.ref s.heap.objs.size, .none, .none, .none, .bool false, .none], #[]⟩ })
  (hsz : args.length ≤ sizeLine := by size_fits) :
  wpAny M A (do raiseNew (← newExc (.type cls) args) : Sem α) Q E s := by
 refine wpAny_bind ?_
 unfold newExc newTuple
 refine wpAny_bind (wpAny_newObj_type ?_ (show args.toArray.size ≤ sizeLine by simpa using hsz))
 refine wpAny_bind (m := firstArgMember _ _) (wpAny_of_eq (a := Value.none) (by simp only [firstArgMember, hp.first]; rfl) ?_)
 rw [hp.own]
 refine wpAny_newObj_type ?_ (by size_fits)
 unfold raiseNew
 refine wpAny_bind (wpAny_handled ?_)
 rw [hh]
 have e : (s.heap.push ⟨.type "tuple", none, .seq args.toArray, #[]⟩).objs.size = s.heap.objs.size + 1 := by simp [Heap.push]
 rw [← e] at h
 first
  | exact wpAny_throw h
  | exact wpAny_bind (wpAny_pure (wpAny_throw h))
end
section
variable {prog : Program} {w : World} {K : Type} [DecidableEq K] (knd : KeyKind prog w K) {k : K} {key : Value} (d : Addr)
theorem Mine.meets_getitem_missing (hkey : knd.is k key = true) (hd : (d == sysModules) = false) :
  MeetsIn prog w (Builtin.«dict.__getitem__» ⟨[.ref d, key], []⟩) (fun A R s => A.handled = none ∧ ∃ f, s.heap.MapOf knd d f ∧ f k = none ∧
   R (.error (.ref (s.heap.objs.size + 1))) { s with heap := (s.heap.push ⟨.type "tuple", none, .seq #[key], #[]⟩).push ⟨.type "KeyError", none, .fields #[.ref s.heap.objs.size, .none, .none, .none, .bool false, .none], #[]⟩, toks := s.toks + 1 }) :=
 .of_wp fun A R s ⟨hh, f, hm, hf, h⟩ => by
  show wpAny _ _ (dictGet d key >>= _) _ _ s
  refine wpAny_bind (wpAny_dictGet_of hkey hm ?_)
  rw [hf]
  show wpAny _ _ (Builtin.Dict.missed d key >>= _) _ _ _
  refine wpAny_bind (wpAny_missed_other hd ?_)
  refine wpAny_bind (wpAny_typeOf (s := { s with toks := s.toks + 1 }) hm.typeIs ?_)
  show wpAny _ _ (if (Value.type "dict" != Value.type "dict") = true then _ else _) _ _ _
  rw [if_neg (by decide)]
  exact wpAny_bind (wpAny_rule (Mine.raise_exact (A := A.in1) plainExc_KeyError hh h))
end
end PySem
namespace Mine
open PySem PySem.Spec PySem.Calls PyProof.Rows PySem.W PySem.W.X
abbrev kerrO (a : Addr) : Obj := ⟨.type "KeyError", none, .fields ⟨[.ref a, .none, .none, .none, .bool false, .none]⟩, #[]⟩
section
variable (w : World) (h₀ : Heap) (K : KT.Holds h₀ 1 0 (kt1 w)) (d : Drawn) (os : OsState) (g₀ : List GenState) (A : Around) (hA : A.handled = none) (a : Addr) (es : List DictEntry) (n : Nat) (R T : News) (m i : Nat) (gl : List GenState) (k : Int) (t : Tok) (kvs : List (Int × Value)) (D : DE prog1 w kvs es) (hv : valueAt kvs k = none)
include K hA D hv
theorem k_getitem0 : Ctr prog1 w h₀ d os g₀ A (k_addr% "bF") ((a, dictO es n) :: R) m i gl
  (resQ (.error (.ref (m + 1))) ((m + 1, kerrO m) :: (m, tupO [.int k t]) :: (a, dictO es n) :: R) (m + 2) (i + 1) gl) :=
 Ctr.some_heap fun h₁ M₁ => Ctr.meets F.slot_dict_getitem F.entry_dict_getitem (F.args_dict_getitem_2 _ _) (Mine.meets_getitem_missing (intKind prog1 w) a (isInt_self k t) (M₁.no_sys K rfl))
   (k_addr% "av") fun h RR M hs H => ⟨hA, _, (D.dictOf M.head).mapOf, hv, by
    subst hs
    have M1 := M.alloc (o := ⟨.type "tuple", none, .seq #[.int k t], #[]⟩) rfl
    have e : (h.push ⟨.type "tuple", none, .seq #[.int k t], #[]⟩).objs.size = h.objs.size + 1 := by simp [Heap.push]
    have M2 := M1.alloc (o := ⟨.type "KeyError", none, .fields #[.ref h.objs.size, .none, .none, .none, .bool false, .none], #[]⟩) rfl
    rw [e] at M2
    exact H _ _ _ _ _ _ ⟨rfl, rfl, rfl, rfl, rfl⟩ M2 (by simp [Heap.push])⟩
variable (e : getL T a = some (dictO es n))
include e
theorem q_getitem0 : Ctr prog1 w h₀ d os g₀ A (k_addr% "bF") (R ++ T) m i gl
  (resQ (.error (.ref (m + 1))) ((m + 1, kerrO m) :: (m, tupO [.int k t]) :: (R ++ T)) (m + 2) (i + 1) gl) :=
 Ctr.rd (P := []) (P' := [_, _]) e fun rest => k_getitem0 w h₀ K d os g₀ A hA a es n rest m i gl k t kvs D hv
end
section
variable (w : World) (h₀ : Heap) (K : KT.Holds h₀ 1 0 (kt1 w)) (d : Drawn) (os : OsState) (g₀ : List GenState) (R T : News) (m i : Nat) (gl : List GenState) (nd sd pd : Addr) (Ad : Ad) (G : Gr) (E : Emb w T nd sd pd Ad G) (a : Addr) (u v : Int) (t : Tok)
include E K
theorem e_item_s0 (hu : u ∉ G.sv) : Ctr prog1 w h₀ d os g₀ (aroundL 480) (.call (k_addr% "aL") ⟨[.ref sd, .int u t], []⟩) (R ++ T) m i gl
  (resQ (.error (.ref (m + 1))) ((m + 1, kerrO m) :: (m, tupO [.int u t]) :: (R ++ T)) (m + 2) (i + 1) gl) := by
 walk_at "aw"
 exact q_getitem0 w h₀ K d os g₀ _ rfl sd es n R T m i gl u t _ D (tab_out hu) g
theorem e_item_p0 (hu : u ∉ G.pv) : Ctr prog1 w h₀ d os g₀ (aroundL 480) (.call (k_addr% "aL") ⟨[.ref pd, .int u t], []⟩) (R ++ T) m i gl
  (resQ (.error (.ref (m + 1))) ((m + 1, kerrO m) :: (m, tupO [.int u t]) :: (R ++ T)) (m + 2) (i + 1) gl) := by
 walk_at "cQ"
 exact q_getitem0 w h₀ K d os g₀ _ rfl pd es n R T m i gl u t _ D (tab_out hu) g
theorem e_item_k0 (ha : a = Ad.s u) (hu : u ∈ G.sv) (hv : v ∉ G.ks u) : Ctr prog1 w h₀ d os g₀ (aroundL 480) (.call (k_addr% "aL") ⟨[.ref a, .int v t], []⟩) (R ++ T) m i gl
  (resQ (.error (.ref (m + 1))) ((m + 1, kerrO m) :: (m, tupO [.int v t]) :: (R ++ T)) (m + 2) (i + 1) gl) := by
 walk_at "W"
 subst ha
 exact q_getitem0 w h₀ K d os g₀ _ rfl _ es n R T m i gl v t _ D (tab_out hv) g
end
end Mine
section
variable (w : PySem.World) (b1 b2 : Bool) (hpar : w.params = Mine.parB w.params b1 b2) (h₀ : PySem.Heap) (K : PySem.W.X.KT.Holds h₀ 1 0 (Mine.kt1 w)) (d : PySem.Drawn) (os : PySem.OsState) (g₀ : List PySem.GenState)
namespace Mine
open PySem PySem.Spec PySem.Calls PyProof.Rows PySem.W PySem.W.X
noncomputable abbrev aroundH (hh : Option Value) (n : Nat) : Around := ⟨hh, n, none, none, n + n⟩
def digS (a : Int) : Str := ⟨⟨[a.toNat + 48]⟩⟩
section
variable (R : News) (m i : Nat) (gl : List GenState) (hh : Option Value) (t t2 : Tok)
include K
theorem c_fmt0 : Ctr prog1 w h₀ d os g₀ (aroundH hh 470) (.call (.builtin "int.__format__") ⟨[.int 0 t, .str "" t2], []⟩) R m i gl (oneQ (.str (digS 0) i) R m (i + 1) gl) := by
 walk_at "d"
 walk_at "t"
 walk_at "l"
theorem c_fmt1 : Ctr prog1 w h₀ d os g₀ (aroundH hh 470) (.call (.builtin "int.__format__") ⟨[.int 1 t, .str "" t2], []⟩) R m i gl (oneQ (.str (digS 1) i) R m (i + 1) gl) := by
 walk_at "d"
 walk_at "t"
 walk_at "l"
theorem c_fmt2 : Ctr prog1 w h₀ d os g₀ (aroundH hh 470) (.call (.builtin "int.__format__") ⟨[.int 2 t, .str "" t2], []⟩) R m i gl (oneQ (.str (digS 2) i) R m (i + 1) gl) := by
 walk_at "d"
 walk_at "t"
 walk_at "l"
theorem c_fmt3 : Ctr prog1 w h₀ d os g₀ (aroundH hh 470) (.call (.builtin "int.__format__") ⟨[.int 3 t, .str "" t2], []⟩) R m i gl (oneQ (.str (digS 3) i) R m (i + 1) gl) := by
 walk_at "d"
 walk_at "t"
 walk_at "l"
theorem c_fmt4 : Ctr prog1 w h₀ d os g₀ (aroundH hh 470) (.call (.builtin "int.__format__") ⟨[.int 4 t, .str "" t2], []⟩) R m i gl (oneQ (.str (digS 4) i) R m (i + 1) gl) := by
 walk_at "d"
 walk_at "t"
 walk_at "l"
theorem c_fmt5 : Ctr prog1 w h₀ d os g₀ (aroundH hh 470) (.call (.builtin "int.__format__") ⟨[.int 5 t, .str "" t2], []⟩) R m i gl (oneQ (.str (digS 5) i) R m (i + 1) gl) := by
 walk_at "d"
 walk_at "t"
 walk_at "l"
theorem c_fmt (a : Int) (ha0 : 0 ≤ a) (ha6 : a < 6) : Ctr prog1 w h₀ d os g₀ (aroundH hh 470) (.call (.builtin "int.__format__") ⟨[.int a t, .str "" t2], []⟩) R m i gl (oneQ (.str (digS a) i) R m (i + 1) gl) := by
 have : a = 0 ∨ a = 1 ∨ a = 2 ∨ a = 3 ∨ a = 4 ∨ a = 5 := by omega
 rcases this with rfl | rfl | rfl | rfl | rfl | rfl
 ·exact c_fmt0 w h₀ K d os g₀ R m i gl hh t t2
 ·exact c_fmt1 w h₀ K d os g₀ R m i gl hh t t2
 ·exact c_fmt2 w h₀ K d os g₀ R m i gl hh t t2
 ·exact c_fmt3 w h₀ K d os g₀ R m i gl hh t t2
 ·exact c_fmt4 w h₀ K d os g₀ R m i gl hh t t2
 ·exact c_fmt5 w h₀ K d os g₀ R m i gl hh t t2
end
section
variable (A : Around) (R T Te : News) (m i : Nat) (gl : List GenState) (rd : Addr) (vs : List Int) (r : Int → List Int) (E : Rz w T rd vs r) (v : Int) (t : Tok)
include K E
theorem r_get1A (dflt : Value) (hv : v ∈ vs) : Ctr prog1 w h₀ d os g₀ A (k_addr% "cK") (R ++ (T ++ Te)) m i gl
  (k_addr% "bk") := by
 walk_at "ag"
 refine (q_get2_some w h₀ K d os g₀ _ rd er nr R (T ++ Te) m i gl v t _ (getL_app g) D dflt _ (tab_in hv)).mono ?_
 walk_at "af"
 exact ⟨L v, l.row hv, rfl, rfl, rfl, rfl, rfl⟩
theorem r_get0A (dflt : Value) (hv : v ∉ vs) : Ctr prog1 w h₀ d os g₀ A (k_addr% "cK") (R ++ (T ++ Te)) m i gl (oneQ dflt (R ++ (T ++ Te)) m (i + 1) gl) := by
 walk_at "ag"
 exact q_get2_none w h₀ K d os g₀ _ rd er nr R (T ++ Te) m i gl v t _ (getL_app g) D dflt (tab_out hv)
theorem rz_has0A (hv : v ∉ vs) : Ctr prog1 w h₀ d os g₀ A (k_addr% "ew") (R ++ (T ++ Te)) m i gl (oneQ (.bool false) (R ++ (T ++ Te)) m (i + 1) gl) := by
 walk_at "ag"
 exact q_hasnt w h₀ K d os g₀ _ rd er nr R (T ++ Te) m i gl v t _ (getL_app g) D (tab_out hv)
end
theorem getL_appR {A B : News} (nd : ((A ++ B).map Prod.fst).Nodup) {a : Addr} {o : Obj} (h : getL B a = some o) : getL (A ++ B) a = some o := by
 induction A with
 | nil => exact h
 | cons p A ih =>
   rw [List.cons_append, List.map_cons, List.nodup_cons] at nd
   have hne : p.1 ≠ a := fun e => nd.1 (by
    rw [e, List.map_append]
    exact List.mem_append.mpr (.inr (List.mem_map_of_mem (f := Prod.fst) (getL_mem h))))
   have := ih nd.2
   rw [List.cons_append]
   unfold getL
   first
    | rw [if_neg hne]; exact this
    | simp only [hne, if_false]; exact this
    | (split; · exact absurd (by assumption) hne
       ·exact this)
theorem Emb.appR {w : World} {A0 B : News} {nd sd pd : Addr} {A : Ad} {G : Gr} (nq : ((A0 ++ B).map Prod.fst).Nodup) (E : Emb w B nd sd pd A G) : Emb w (A0 ++ B) nd sd pd A G :=
 ⟨E.inj, fun a la => by obtain ⟨o, g, f⟩ := E.cel a la; exact ⟨o, getL_appR nq g, f⟩, E.ok⟩
theorem Mm.tail10 {h₀ h : Heap} {x0 x1 x2 x3 x4 x5 x6 x7 x8 x9 : Addr × Obj} {N : News} (M : Mm h₀ h (x0 :: x1 :: x2 :: x3 :: x4 :: x5 :: x6 :: x7 :: x8 :: x9 :: N)) : Mm h₀ h N := M.drop1.drop1.drop1.drop1.drop1.drop1.drop1.drop1.drop1.drop1
theorem Mm.tail9 {h₀ h : Heap} {x0 x1 x2 x3 x4 x5 x6 x7 x8 : Addr × Obj} {N : News} (M : Mm h₀ h (x0 :: x1 :: x2 :: x3 :: x4 :: x5 :: x6 :: x7 :: x8 :: N)) : Mm h₀ h N := M.drop1.drop1.drop1.drop1.drop1.drop1.drop1.drop1.drop1
end Mine
namespace Mine
open Lean Meta Elab Tactic PySem PySem.W PySem.W.X
def tailK (nm : Name) (k : Nat := 10) : TacticM Unit := do
 let gs ← getGoals
 let some g ← gs.findM? fun g => do return (← instantiateMVars (← g.getType)).isAppOf ``Mm | throwError "no goal of cells"
 g.withContext do
  let some dM := (← getLCtx).findFromUserName? nm | throwError "no {nm}"
  let T ← instantiateMVars dM.type
  let as := T.getAppArgs
  let (l, t) ← readNews 400 as[2]!
  for b in gs do
   unless b == g do
    if (← instantiateMVars (← b.getType)).isConstOf ``Value then
     for (_, o) in l do
      let o1 ← kw o
      unless o1.isAppOfArity ``Obj.mk 4 do continue
      let mut e := mkApp2 (mkConst ``Array.toList [0]) (mkApp (mkConst ``Option [0]) (mkConst ``Value)) o1.getAppArgs[3]!
      for _ in [0:3] do
       e ← kw e
       if e.isAppOfArity ``List.cons 3 then e := e.getAppArgs[2]!
      e ← kw e
      unless e.isAppOfArity ``List.cons 3 do continue
      let v ← kw e.getAppArgs[1]!
      if v.isAppOfArity ``Option.some 2 then
       let k ← kw v.appArg!
       unless k.isAppOf ``PySem.Value.ref do
        unless ← b.isAssigned do b.assign v.appArg!
  let xs := (l.take k).toArray.map fun (a, o) => pairOf a o
  let N := listOfE tPair ((l.drop k).map fun (a, o) => pairOf a o) t
  g.assign (mkAppN (mkConst (if k == 10 then ``Mm.tail10 else ``Mm.tail9)) (#[as[0]!, as[1]!] ++ xs ++ #[N, dM.toExpr]))
  setGoals ((← gs.filterM fun x => do return !(← x.isAssigned)))
end Mine
namespace Mine
open PySem PySem.Spec PySem.Calls PyProof.Rows PySem.W PySem.W.X
section
variable (RR : Result → Shared → Prop)
 (I ln f l o : Addr) (j : Nat) (ns : List (Int × Tok)) (xs : List Value) (nl : Nat) (dI gd nd sd pd : Addr) (t1 t2 t3 t4 t5 n1 : Nat) (h1 h2 h3 h4 h5 : Int)
 (R Tr Te : News) (n m i : Nat) (gl : List GenState) (F : Fl) (rd : Addr) (a b : Int) (ta tb : Tok) (vs : List Int) (r : Int → List Int) (A : Ad) (G : Gr) (E2 : Emb w (Tr ++ Te) nd sd pd A G) (Er : Rz w Tr rd vs r)
 (ha0 : 0 ≤ a) (ha6 : a < 6) (hb0 : 0 ≤ b) (hb6 : b < 6) (k1 : ¬ F.kd < 3)
 (TT : ∀ n m i sl', RM ⟨prog1, w, h₀, 0, kt1 w, [], (aroundT 10 f), RR, d, 0, os⟩ g₀ n (lawLoop (.ref I) f) none .base (tailT I f)
  (k_addr% "r") m i gl)
include hpar K E2 Er ha0 ha6 hb0 hb6 k1 TT
theorem x3_an (hk3 : F.kd = 3) (hb : b ∉ r a) (ha : a ∉ vs) (g1 : a ∉ G.sv) (hsl : F.sl = none) : RM ⟨prog1, w, h₀, 0, kt1 w, [], (aroundT 10 f), RR, d, 0, os⟩ g₀ n (lawLoop (.ref I) f) none .base (bodyT I f)
 (k_addr% "a") m i gl := by
 walk_at "h"
 simp only at hsl hk3 k1 ⊢
 subst hsl
 walk_at "ed"
 intros
 walk_at "e"
 run_tac Mine.tailK `M
 ·walk_at "I"
  walk_at "ae"
theorem x3_as (hk3 : F.kd = 3) (hb : b ∉ r a) (ha : a ∉ vs) (g1 : a ∉ G.sv) (v0 : Value) (hsl : F.sl = some v0) : RM ⟨prog1, w, h₀, 0, kt1 w, [], (aroundT 10 f), RR, d, 0, os⟩ g₀ n (lawLoop (.ref I) f) none .base (bodyT I f)
 (k_addr% "a") m i gl := by
 walk_at "h"
 simp only at hsl hk3 k1 ⊢
 subst hsl
 walk_at "ed"
 intros
 walk_at "f"
 run_tac Mine.tailK `M
 ·walk_at "J"
  walk_at "ae"
theorem x3_bn (hk3 : F.kd = 3) (hb : b ∉ r a) (ha : a ∈ vs) (g1 : a ∈ G.sv) (g2 : b ∉ G.sv) (hsl : F.sl = none) : RM ⟨prog1, w, h₀, 0, kt1 w, [], (aroundT 10 f), RR, d, 0, os⟩ g₀ n (lawLoop (.ref I) f) none .base (bodyT I f)
 (k_addr% "a") m i gl := by
 walk_at "h"
 simp only at hsl hk3 k1 ⊢
 subst hsl
 walk_at "dJ"
 intros
 walk_at "e"
 run_tac Mine.tailK `M
 ·walk_at "I"
  walk_at "ae"
theorem x3_bs (hk3 : F.kd = 3) (hb : b ∉ r a) (ha : a ∈ vs) (g1 : a ∈ G.sv) (g2 : b ∉ G.sv) (v0 : Value) (hsl : F.sl = some v0) : RM ⟨prog1, w, h₀, 0, kt1 w, [], (aroundT 10 f), RR, d, 0, os⟩ g₀ n (lawLoop (.ref I) f) none .base (bodyT I f)
 (k_addr% "a") m i gl := by
 walk_at "h"
 simp only at hsl hk3 k1 ⊢
 subst hsl
 walk_at "dJ"
 intros
 walk_at "f"
 run_tac Mine.tailK `M
 ·walk_at "J"
  walk_at "ae"
theorem x3_cn (hk3 : F.kd = 3) (hb : b ∉ r a) (ha : a ∈ vs) (g1 : a ∈ G.sv) (g2 : b ∈ G.sv) (g3 : b ∉ G.ks a) (hsl : F.sl = none) : RM ⟨prog1, w, h₀, 0, kt1 w, [], (aroundT 10 f), RR, d, 0, os⟩ g₀ n (lawLoop (.ref I) f) none .base (bodyT I f)
 (k_addr% "a") m i gl := by
 walk_at "h"
 simp only at hsl hk3 k1 ⊢
 subst hsl
 walk_at "dK"
 intros
 walk_at "e"
 run_tac Mine.tailK `M
 ·walk_at "I"
  walk_at "ae"
theorem x3_cs (hk3 : F.kd = 3) (hb : b ∉ r a) (ha : a ∈ vs) (g1 : a ∈ G.sv) (g2 : b ∈ G.sv) (g3 : b ∉ G.ks a) (v0 : Value) (hsl : F.sl = some v0) : RM ⟨prog1, w, h₀, 0, kt1 w, [], (aroundT 10 f), RR, d, 0, os⟩ g₀ n (lawLoop (.ref I) f) none .base (bodyT I f)
 (k_addr% "a") m i gl := by
 walk_at "h"
 simp only at hsl hk3 k1 ⊢
 subst hsl
 walk_at "dK"
 intros
 walk_at "f"
 run_tac Mine.tailK `M
 ·walk_at "J"
  walk_at "ae"
theorem x4_pn (hk4 : F.kd = 4) (k2 : F.kd ≠ 3) (hm : F.num.fmod (Int.ofNat 5) = Int.ofNat 0) (ha : a ∉ vs) (g1 : a ∉ G.pv) (hsl : F.sl = none) : RM ⟨prog1, w, h₀, 0, kt1 w, [], (aroundT 10 f), RR, d, 0, os⟩ g₀ n (lawLoop (.ref I) f) none .base (bodyT I f)
 (k_addr% "a") m i gl := by
 walk_at "h"
 simp only at hsl hk4 k1 k2 hm ⊢
 subst hsl
 walk_at "eQ"
 intros
 walk_at "e"
 run_tac Mine.tailK `M 9
 ·walk_at "I"
  walk_at "ae"
theorem x4_ps (hk4 : F.kd = 4) (k2 : F.kd ≠ 3) (hm : F.num.fmod (Int.ofNat 5) = Int.ofNat 0) (ha : a ∉ vs) (g1 : a ∉ G.pv) (v0 : Value) (hsl : F.sl = some v0) : RM ⟨prog1, w, h₀, 0, kt1 w, [], (aroundT 10 f), RR, d, 0, os⟩ g₀ n (lawLoop (.ref I) f) none .base (bodyT I f)
 (k_addr% "a") m i gl := by
 walk_at "h"
 simp only at hsl hk4 k1 k2 hm ⊢
 subst hsl
 walk_at "eQ"
 intros
 walk_at "f"
 run_tac Mine.tailK `M 9
 ·walk_at "J"
  walk_at "ae"
end
end Mine
namespace Mine
open Lean Meta Elab Tactic PySem PySem.W PySem.W.X
def hdFin (nm : Name) (sl : Lean.Expr → MetaM Lean.Expr) : TacticM Unit := do
 let g ← getMainGoal
 g.withContext do
  let T ← whnfR (← instantiateMVars (← g.getType))
  unless T.isAppOfArity ``RM 11 do throwError "no run"
  let a := T.getAppArgs
  let (l, _) ← readNews 400 a[7]!
  let fo ← kw l[5]!.2
  let dt ← kw fo.getAppArgs[2]!
  let mut e := mkApp2 (mkConst ``Array.toList [0]) (mkConst ``DictEntry) dt.getAppArgs[0]!
  let mut hs : Array Lean.Expr := #[]
  let mut cs : Array Lean.Expr := #[]
  let mut vs : Array Lean.Expr := #[]
  for _ in [0:6] do
   e ← kw e
   let d ← kw e.getAppArgs[1]!
   let da := d.getAppArgs
   hs := hs.push da[0]!
   cs := cs.push (← kw da[1]!).appArg!
   vs := vs.push (← kw da[2]!)
   e := e.getAppArgs[2]!
  let cellV (o : Lean.Expr) : MetaM Lean.Expr := do
   let o ← kw o
   let d ← kw o.getAppArgs[2]!
   let s ← kw d.appArg!
   kw s.appArg!
  let ta := (← cellV l[2]!.2).appArg!
  let tb := (← cellV l[3]!.2).appArg!
  let iv (k : Nat) := vs[k]!.appFn!.appArg!
  let it (k : Nat) := vs[k]!.appArg!
  let slE ← sl fo.getAppArgs[3]!
  let F := mkAppN (mkConst ``Fl.mk) (hs ++ cs ++ #[iv 2, iv 3, iv 4, iv 5, it 2, it 3, it 4, it 5, ← kwRest e, dt.getAppArgs[1]!, slE])
  let some H := (← getLCtx).findFromUserName? nm | throwError "no {nm}"
  let some hR := (← getLCtx).findFromUserName? `hR | throwError "no hR"
  let some RR := (← getLCtx).findFromUserName? `RR | throwError "no RR"
  let mut pf := mkAppN H.toExpr #[RR.toExpr, hR.toExpr, F, ta, tb, a[2]!, a[8]!, a[9]!]
  for _ in [0:5] do
   let ty ← whnfR (← inferType pf)
   let .forallE _ d _ _ := ty | throwError "?"
   pf := mkApp pf (mkApp2 (mkConst ``Eq.refl [1]) d.getAppArgs[0]! d.appArg!)
  g.assign pf
  replaceMainGoal (← getGoals).tail
where
 kwRest (e : Lean.Expr) : MetaM Lean.Expr := do
  let e' ← kw e
  if e'.isAppOf ``List.nil || e'.isFVar then return e'
  return e'
end Mine
namespace Mine
open PySem PySem.Spec PySem.Calls PyProof.Rows PySem.W PySem.W.X
section
variable (I ln f l o rd : Addr) (j : Nat) (ns : List (Int × Tok)) (num : Int) (tnum : Tok) (he : (⟨ivs ns⟩ : Array Value)[j]? = some (.int num tnum))
 (kd q6 a0 q36 b0 mo : Int) (h1 : num.fmod (Int.ofNat 6) = kd) (h2 : num.fdiv (Int.ofNat 6) = q6) (h3 : q6.fmod (Int.ofNat 6) = a0) (h4 : num.fdiv (Int.ofNat 36) = q36) (h5 : q36.fmod (Int.ofNat 6) = b0) (h6 : num.fdiv (Int.ofNat 216) = mo)
 (xs : List Value) (nl : Nat) (R : News) (m i : Nat) (gl : List GenState) (Q : Post)
include hpar K he h1 h2 h3 h4 h5 h6
theorem hd0_ne (a1 a2 a3 : Int) (c1 c2 c3 : Tok) (vv : Int) (tvv : Tok) (nf : Nat) (hab : a0 ≠ b0)
 (H : ∀ RR, (k_addr% "ai") → ∀ (F' : Fl) (ta tb : Tok) (n m i : Nat), F'.kd = kd → F'.num = num → F'.mo = mo → F'.rest = [] → F'.sl = none →
  RM ⟨prog1, w, h₀, 0, kt1 w, [], (aroundT 10 f), RR, d, 0, os⟩ g₀ n (lawLoop (.ref I) f) none .base (bodyT I f)
  (k_addr% "bR") m i gl) :
 Ctr prog1 w h₀ d os g₀ ((aroundT 10 f)) (lawLoop (.ref I) f)
 (k_addr% "bl") m i gl Q := by
 walk_at "d"
 walk_at "aT"
 refine rm_choose (n' := 0) [4, 5, 9, 10, 6, 7, 8] 11 rfl ?_
 run_tac Mine.hdFin `H (fun _ => return Lean.mkApp (Lean.mkConst ``Option.none [0]) (Lean.mkConst ``Value))
theorem hd0_eq (a1 a2 a3 : Int) (c1 c2 c3 : Tok) (vv : Int) (tvv : Tok) (nf : Nat) (hab : a0 = b0) (b2' b3 : Int) (hb2 : b0 + 1 = b2') (hb3 : b2'.fmod (Int.ofNat 6) = b3)
 (H : ∀ RR, (k_addr% "ai") → ∀ (F' : Fl) (ta tb : Tok) (n m i : Nat), F'.kd = kd → F'.num = num → F'.mo = mo → F'.rest = [] → F'.sl = none →
  RM ⟨prog1, w, h₀, 0, kt1 w, [], (aroundT 10 f), RR, d, 0, os⟩ g₀ n (lawLoop (.ref I) f) none .base (bodyT I f)
  (k_addr% "bS") m i gl) :
 Ctr prog1 w h₀ d os g₀ ((aroundT 10 f)) (lawLoop (.ref I) f)
 (k_addr% "bl") m i gl Q := by
 walk_at "d"
 walk_at "aT"
 refine rm_choose (n' := 0) [4, 5, 9, 10, 6, 7, 8] 11 rfl ?_
 run_tac Mine.hdFin `H (fun _ => return Lean.mkApp (Lean.mkConst ``Option.none [0]) (Lean.mkConst ``Value))
theorem hdN_ne (F : Fl) (aa ab' : Int) (taa tab' : Tok) (hab : a0 ≠ b0)
 (H : ∀ RR, (k_addr% "ai") → ∀ (F' : Fl) (ta tb : Tok) (n m i : Nat), F'.kd = kd → F'.num = num → F'.mo = mo → F'.rest = F.rest → F'.sl = F.sl →
  RM ⟨prog1, w, h₀, 0, kt1 w, [], (aroundT 10 f), RR, d, 0, os⟩ g₀ n (lawLoop (.ref I) f) none .base (bodyT I f)
  (k_addr% "bR") m i gl) :
 Ctr prog1 w h₀ d os g₀ ((aroundT 10 f)) (lawLoop (.ref I) f)
 (k_addr% "bZ") m i gl Q := by
 obtain ⟨a1, a2, a3, a4, a5, a6, c1, c2, c3, c4, c5, c6, vv, num', kd', mo', tv, tn, tk, tm, rest, nF, slF⟩ := F
 walk_at "d"
 walk_at "aT"
 refine rm_choose (n' := 0) [4, 5, 6, 7, 8, 9, 10] 11 rfl ?_
 run_tac Mine.hdFin `H (fun _ => do return ((← Lean.getLCtx).findFromUserName? `slF).get!.toExpr)
theorem hdN_eq (F : Fl) (aa ab' : Int) (taa tab' : Tok) (hab : a0 = b0) (b2' b3 : Int) (hb2 : b0 + 1 = b2') (hb3 : b2'.fmod (Int.ofNat 6) = b3)
 (H : ∀ RR, (k_addr% "ai") → ∀ (F' : Fl) (ta tb : Tok) (n m i : Nat), F'.kd = kd → F'.num = num → F'.mo = mo → F'.rest = F.rest → F'.sl = F.sl →
  RM ⟨prog1, w, h₀, 0, kt1 w, [], (aroundT 10 f), RR, d, 0, os⟩ g₀ n (lawLoop (.ref I) f) none .base (bodyT I f)
  (k_addr% "bS") m i gl) :
 Ctr prog1 w h₀ d os g₀ ((aroundT 10 f)) (lawLoop (.ref I) f)
 (k_addr% "bZ") m i gl Q := by
 obtain ⟨a1, a2, a3, a4, a5, a6, c1, c2, c3, c4, c5, c6, vv, num', kd', mo', tv, tn, tk, tm, rest, nF, slF⟩ := F
 walk_at "d"
 walk_at "aT"
 refine rm_choose (n' := 0) [4, 5, 6, 7, 8, 9, 10] 11 rfl ?_
 run_tac Mine.hdFin `H (fun _ => do return ((← Lean.getLCtx).findFromUserName? `slF).get!.toExpr)
end
abbrev rngIt (j q : Int) : Obj := ⟨.type "range_iterator", none, .fields ⟨[.int j 0, .int q 0, .int (Int.ofNat 1) 0]⟩, #[]⟩
section
variable (R : News) (m i : Nat) (gl : List GenState) (I : Addr) (j q j' q' : Int)
include K
theorem c_rnext (hq : ¬ q ≤ Int.ofNat 0) (hq1 : ¬ q < 1) (hq2 : ¬ q = 0) (hq3 : 0 < q) (e1 : j + Int.ofNat 1 = j') (e2 : q - Int.ofNat 1 = q') : Ctr prog1 w h₀ d os g₀ (aroundL 480) (.call (.builtin "range_iterator.__next__") ⟨[.ref I], []⟩) ((I, rngIt j q) :: R) m i gl
 (oneQ (.int j i) ((I, rngIt j' q') :: R) m (i + 1) gl) := by
 walk_at "d"
 walk_at "t"
 subst e1 e2
 walk_at "l"
theorem c_rnext_end : Ctr prog1 w h₀ d os g₀ (aroundL 480) (.call (.builtin "range_iterator.__next__") ⟨[.ref I], []⟩) ((I, rngIt j (Int.ofNat 0)) :: R) m i gl
 (resQ (.error (.ref (m + 1))) ((m + 1, stopO m) :: (m, tupO []) :: (I, rngIt j (Int.ofNat 0)) :: R) (m + 2) i gl) := by
 walk_at "d"
 walk_at "t"
 walk_at "l"
end
section
variable (R Tr Te : News) (m i : Nat) (gl : List GenState)
 (f o rd dI gd nd sd pd : Addr) (t1 t2 t3 t4 t5 n1 : Nat) (h1 h2 h3 h4 h5 : Int) (a b mo : Int) (ta tb tm : Tok) (vs : List Int) (r : Int → List Int) (Er : Rz w Tr rd vs r) (ho : a ∉ vs → r a = [])
include hpar K Er ho
theorem sg_name : Ctr prog1 w h₀ d os g₀ (aroundL 300) (.call (.ref 923) ⟨[.ref o, .ref rd, .int a ta, .int b tb, .int mo tm], []⟩) (k_addr% "ar") m i gl (fun _ _ _ _ _ => True) ∨ True := by
 run_tac do
  let s ← Lean.saveState
  Lean.Elab.Tactic.evalTactic (← `(tactic| left))
  Lean.Elab.Tactic.evalTactic (← `(tactic| refine Ctr.ofQ (Mine.kt1 w) ?_))
  Mine.walk ([``r_getX] ++ Mine.intNames) [] { stops := ["compStart"], wd := true }
  Mine.nameCode `Mine.sgStart (some s)
 exact Or.inr trivial
end
noncomputable abbrev sgLoop (it acc : Value) (m : Nat) : Code := match sgStart it acc m with
 | .compStart e d it acc env => .compLoop e d it acc env
 | c => c
def strange (row : List Int) (j q : Nat) : List Int := ((List.range' j q).map Int.ofNat).filter fun z => decide (z ∉ row)
section
variable (l I acc mf fr : Addr) (T Te : News) (row : List Int) (E : Lrow T l row) (a3 : Int) (c3 : Tok)
include hpar K E
theorem sg_loop (q : Nat) : ∀ (j : Nat) (R : News) (m i : Nat) (gl : List GenState) (qs : List (Int × Tok)) (na nf : Nat) (v0 : Int) (tv0 : Tok), qs.length ≤ 400 - q → q ≤ 400 →
 Ctr prog1 w h₀ d os g₀ (aroundL 290) (sgLoop (.ref I) (.ref acc) mf)
  ((I, rngIt (Int.ofNat j) (Int.ofNat q)) :: (acc, listO (ivs qs) na) :: (mf + 1 + 1 + 1 + 1 + 1 + 1, dictO [⟨a3, .str "u" c3, .int v0 tv0⟩] nf) :: (mf + 1, cellO (.ref l)) :: (R ++ (T ++ Te))) m i gl
  (exQ (Nat × Nat × Int × Tok × Nat × List (Int × Tok) × Nat) (fun y => y.2.2.2.2.2.1.map Prod.fst = qs.map Prod.fst ++ strange row j q) (fun _ => .ok .next) (fun y => (acc, listO (ivs y.2.2.2.2.2.1) y.2.2.2.2.1) :: (mf + 1 + 1 + 1 + 1 + 1 + 1, dictO [⟨a3, .str "u" c3, .int y.2.2.1 y.2.2.2.1⟩] y.2.2.2.2.2.2) :: (mf + 1, cellO (.ref l)) :: (R ++ (T ++ Te))) (fun y => y.1) (fun y => y.2.1) (fun _ => gl)) := by
 induction q with
 | zero =>
   intro j R m i gl qs na nf v0 tv0 hk hk2
   walk_at "d"
   run_tac Mine.walk [``c_rnext_end] [] { wd := true }
   exact re_choose [3, 4, 5] 6 rfl (hR 0 _ _ _ _ _ ⟨(_, _, v0, tv0, na, qs, _), by simp [strange], rfl, rfl, rfl, rfl, rfl⟩)
 | succ q ih =>
   intro j R m i gl qs na nf v0 tv0 hk hk2
   walk_at "ff"
   have q1 : ¬ Int.ofNat (q + 1) ≤ Int.ofNat 0 := by simp <;> omega
   have q2 : ¬ Int.ofNat (q + 1) < 1 := by simp <;> omega
   have q3 : ¬ Int.ofNat (q + 1) = 0 := by simp <;> omega
   have q4 : 0 < Int.ofNat (q + 1) := by simp <;> omega
   have e1 : Int.ofNat j + Int.ofNat 1 = Int.ofNat (j + 1) := rfl
   have e2 : Int.ofNat (q + 1) - Int.ofNat 1 = Int.ofNat q := by simp
   by_cases hv : Int.ofNat j ∈ row
   ·have es : strange row j (q + 1) = strange row (j + 1) q := by walk_at "eF"; rw [List.filter_cons_of_neg (by simpa using hv)]
    rw [es]
    have IH := fun R m i gl na nf tv => ih (j + 1) R m i gl qs na nf (Int.ofNat j) tv (by omega) (by omega)
    clear ih hk hk2 es
    walk_at "d"
    run_tac Mine.walk ([``c_rnext, ``r_in, ``c_appendI] ++ Mine.intNames) [`IH] { wd := true }
    intro y hy
    walk_at "ao"
   ·have es : strange row j (q + 1) = Int.ofNat j :: strange row (j + 1) q := by walk_at "eF"; rw [List.filter_cons_of_pos (by simpa using hv)]
    rw [es]
    have IH := fun R m i gl na nf tv => ih (j + 1) R m i gl (qs ++ [(Int.ofNat j, tv)]) na nf (Int.ofNat j) tv (by simp; omega) (by omega)
    clear ih hk hk2 es
    walk_at "d"
    run_tac Mine.walk ([``c_rnext, ``r_in0, ``c_appendI] ++ Mine.intNames) [`IH] { wd := true }
    intro y hy
    exact hR 0 _ _ _ _ _ ⟨y, (show _ = _ from hy).trans (by simp), rfl, rfl, rfl, rfl, rfl⟩
end
theorem strange_mem {row : List Int} {j q : Nat} {z : Int} (h : z ∈ strange row j q) : z ∉ row := by
 unfold strange at h
 rw [List.mem_filter] at h
 simpa using h.2
theorem strange_ne {row : List Int} (h6 : ∀ z ∈ row, z < 6) : strange row 0 9 ≠ [] := by
 intro e
 have : (8 : Int) ∈ strange row 0 9 := by
  unfold strange
  rw [List.mem_filter]
  refine ⟨by decide, ?_⟩
  have : (8 : Int) ∉ row := fun q => by have := h6 _ q; omega
  simpa using this
 rw [e] at this
 cases this
section
variable (l I acc mf : Addr) (T Te : News) (row : List Int) (E : Lrow T l row)
 (R : News) (m i : Nat) (gl : List GenState) (na nf : Nat)
include hpar K E
theorem sg_start0 : Ctr prog1 w h₀ d os g₀ (aroundL 280) (sgStart (.ref I) (.ref acc) mf)
  (k_addr% "dh") m i gl
  (exQ (k_addr% "bj") (fun y => y.2.2.2.1.map Prod.fst = strange row 0 9) (fun _ => .ok .next) (fun y => (acc, listO (ivs y.2.2.2.1) y.2.2.1) :: (mf + 1 + 1 + 1 + 1 + 1 + 1, dictO [⟨y.2.2.2.2.1, .str "u" y.2.2.2.2.2.1, .int y.2.2.2.2.2.2.1 y.2.2.2.2.2.2.2.1⟩] y.2.2.2.2.2.2.2.2) :: (mf + 1, cellO (.ref l)) :: (R ++ (T ++ Te))) (fun y => y.1) (fun y => y.2.1) (fun _ => gl)) := by
 have q1 : ¬ Int.ofNat 9 ≤ Int.ofNat 0 := by decide
 have q2 : ¬ Int.ofNat 9 < 1 := by decide
 have q3 : ¬ Int.ofNat 9 = 0 := by decide
 have q4 : 0 < Int.ofNat 9 := by decide
 have e1 : Int.ofNat 0 + Int.ofNat 1 = Int.ofNat 1 := rfl
 have e2 : Int.ofNat 9 - Int.ofNat 1 = Int.ofNat 8 := rfl
 by_cases hv : Int.ofNat 0 ∈ row
 ·have es : strange row 0 9 = strange row 1 8 := by walk_at "eF"; rw [List.filter_cons_of_neg (by simpa using hv)]
  rw [es]
  have IH := fun a3 c3 nf R m i gl na tv => sg_loop w b1 b2 hpar h₀ K d os g₀ l I acc mf T Te row E a3 c3 8 1 R m i gl [] na nf (Int.ofNat 0) tv (by simp) (by omega)
  simp only [ivs, List.map_nil] at IH
  clear es
  cases b2
  all_goals
   walk_at "d"
   run_tac Mine.walk ([``c_rnext, ``r_in, ``c_append0] ++ Mine.intNames) [`IH] { wd := true }
   intro y hy
   walk_at "cT"
 ·have es : strange row 0 9 = Int.ofNat 0 :: strange row 1 8 := by walk_at "eF"; rw [List.filter_cons_of_pos (by simpa using hv)]
  rw [es]
  have IH := fun a3 c3 nf R m i gl na tv => sg_loop w b1 b2 hpar h₀ K d os g₀ l I acc mf T Te row E a3 c3 8 1 R m i gl [(Int.ofNat 0, tv)] na nf (Int.ofNat 0) tv (by simp) (by omega)
  clear es
  cases b2
  all_goals
   walk_at "d"
   run_tac Mine.walk ([``c_rnext, ``r_in0, ``c_append0] ++ Mine.intNames) [`IH] { wd := true }
   intro y hy
   walk_at "cT"
end
section
variable (l I acc mf : Addr) (T Te : News) (row : List Int) (E : Lrow T l row)
 (R : News) (m i : Nat) (gl : List GenState) (na nf : Nat) (h6 : ∀ z ∈ row, z < 6)
include hpar K E h6
theorem sg_start : Ctr prog1 w h₀ d os g₀ (aroundL 280) (sgStart (.ref I) (.ref acc) mf)
  (k_addr% "dh") m i gl
  (exQ (Nat × Nat × Nat × List Value × Int × Tok × Int × Tok × Int × Tok × Int × Tok × Nat) (fun y => y.2.2.2.1[0]? = some (.int y.2.2.2.2.1 y.2.2.2.2.2.1) ∧ y.2.2.2.1.getLast? = some (.int y.2.2.2.2.2.2.1 y.2.2.2.2.2.2.2.1) ∧ y.2.2.2.2.1 ∉ row ∧ y.2.2.2.2.2.2.1 ∉ row ∧ y.2.2.2.1.length < 1000)
   (fun _ => .ok .next) (fun y => (acc, listO y.2.2.2.1 y.2.2.1) :: (k_addr% "cA") :: (mf + 1, cellO (.ref l)) :: (R ++ (T ++ Te))) (fun y => y.1) (fun y => y.2.1) (fun _ => gl)) := by
 refine (sg_start0 w b1 b2 hpar h₀ K d os g₀ l I acc mf T Te row E R m i gl na nf).mono ?_
 rintro _ _ _ _ _ ⟨⟨y1, y2, y3, qs, u1, u2, u3, u4, u5⟩, hq, rfl, rfl, rfl, rfl, rfl⟩
 have hq : qs.map Prod.fst = strange row 0 9 := hq
 have hl : qs.length ≤ 9 := by
  have : (qs.map Prod.fst).length ≤ 9 := by
   rw [hq]
   exact Nat.le_trans (List.length_filter_le _ _) (by simp)
  simpa using this
 have hm : ∀ p ∈ qs, p.1 ∉ row := fun p hp => strange_mem (j := 0) (q := 9) (by rw [← hq]; exact List.mem_map_of_mem (f := Prod.fst) hp)
 have hne : qs ≠ [] := by
  rintro rfl
  exact strange_ne h6 hq.symm
 obtain ⟨p0, e0⟩ : ∃ p, qs[0]? = some p := by
  cases qs with
  | nil => exact absurd rfl hne
  | cons p _ => exact ⟨p, rfl⟩
 obtain ⟨p1, e1⟩ : ∃ p, qs.getLast? = some p := ⟨_, List.getLast?_eq_some_getLast hne⟩
 refine ⟨(_, _, y3, ivs qs, p0.1, p0.2, p1.1, p1.2, u1, u2, u3, u4, u5), ⟨?_, ?_, hm p0 (List.mem_of_getElem? e0), hm p1 (List.mem_of_getLast? e1), ?_⟩, rfl, rfl, rfl, rfl, rfl⟩
 ·show (qs.map _)[0]? = _
  rw [List.getElem?_map, e0]; rfl
 ·show (qs.map _).getLast? = _
  rw [List.getLast?_map, e1]; rfl
 ·show (qs.map _).length < 1000
  simp; omega
end
section
variable (R Tr Te : News) (n m i : Nat) (gl : List GenState) (RR : Result → Shared → Prop)
 (I ln f l o rd : Addr) (j : Nat) (ns : List (Int × Tok)) (F : Fl) (xs : List Value) (nl : Nat) (a b : Int) (ta tb : Tok) (dI gd nd sd pd : Addr) (t1 t2 t3 t4 t5 n1 : Nat) (h1 h2 h3 h4 h5 : Int)
include hpar K
theorem ref_name (k1 : ¬ F.kd < 3) (k2 : F.kd ≠ 3) (k3 : F.kd ≠ 4) : RM ⟨prog1, w, h₀, 0, kt1 w, [], (aroundT 10 f), RR, d, 0, os⟩ g₀ n (lawLoop (.ref I) f) none .base (bodyT I f)
 (k_addr% "D") m i gl ∨ True := by
 run_tac do
  let s ← Lean.saveState
  Lean.Elab.Tactic.evalTactic (← `(tactic| left))
  Mine.walk Mine.intNames [] { place := some (714, 13) }
  Mine.nameTree `Mine.refT (some s)
 exact Or.inr trivial
end
section
variable (R Tr Te : News) (n m i : Nat) (gl : List GenState) (RR : Result → Shared → Prop)
 (I ln f l o rd : Addr) (j : Nat) (ns : List (Int × Tok)) (F : Fl) (xs : List Value) (nl : Nat) (a b : Int) (ta tb : Tok) (dI gd nd sd pd : Addr) (t1 t2 t3 t4 t5 n1 : Nat) (h1 h2 h3 h4 h5 : Int)
 (H : ∀ n m i, RM ⟨prog1, w, h₀, 0, kt1 w, [], (aroundT 10 f), RR, d, 0, os⟩ g₀ n (lawLoop (.ref I) f) none .base (refT I f)
  (k_addr% "a") m i gl)
include hpar K H
theorem to_ref5 (k1 : ¬ F.kd < 3) (k2 : F.kd ≠ 3) (k3 : F.kd ≠ 4) : RM ⟨prog1, w, h₀, 0, kt1 w, [], (aroundT 10 f), RR, d, 0, os⟩ g₀ n (lawLoop (.ref I) f) none .base (bodyT I f)
 (k_addr% "a") m i gl := by
 run_tac Mine.walk Mine.intNames [] { place := some (714, 13) }
 have zz := fun m i (_ : List GenState) => H 0 m i
 walk_at "ae"
theorem to_ref4 (k1 : ¬ F.kd < 3) (k2 : F.kd ≠ 3) (k3 : F.kd = 4) (c : Int) (hc : F.num.fmod (Int.ofNat 5) = c) (hc0 : c ≠ 0) : RM ⟨prog1, w, h₀, 0, kt1 w, [], (aroundT 10 f), RR, d, 0, os⟩ g₀ n (lawLoop (.ref I) f) none .base (bodyT I f)
 (k_addr% "a") m i gl := by
 run_tac Mine.walk Mine.intNames [] { place := some (714, 13) }
 have zz := fun m i (_ : List GenState) => H 0 m i
 walk_at "ae"
end
section
variable (A : Around) (R T Te : News) (m i : Nat) (gl : List GenState) (l : Addr) (row : List Int) (E : Lrow T l row)
include K E
theorem k_rlen0 (hz : row = []) : Ctr prog1 w h₀ d os g₀ A (.call (.builtin "list.__len__") ⟨[.ref l], []⟩) (R ++ (T ++ Te)) m i gl (oneQ (.int 0 i) (R ++ (T ++ Te)) m (i+1) gl) := by
 obtain ⟨ps, n, e, hps⟩ := E
 exact Ctr.read (getL_app e) fun _ => k_llen w h₀ d os g₀ A _ m i gl l (ivs ps) n 0 (by
  have : ps.length = 0 := by have := congrArg List.length hps; rw [hz, List.length_map] at this; exact this
  have e2 : (ivs ps).length = 0 := by rw [← this]; simp [ivs]
  rw [e2]; rfl)
end
theorem Mm.tail19 {h₀ h : Heap} {x0 x1 x2 x3 x4 x5 x6 x7 x8 x9 x10 x11 x12 x13 x14 x15 x16 x17 x18 : Addr × Obj} {N : News} (M : Mm h₀ h (x0 :: x1 :: x2 :: x3 :: x4 :: x5 :: x6 :: x7 :: x8 :: x9 :: x10 :: x11 :: x12 :: x13 :: x14 :: x15 :: x16 :: x17 :: x18 :: N)) : Mm h₀ h N := M.tail10.tail9
end Mine
namespace Mine
open Lean Meta Elab Tactic PySem PySem.W PySem.W.X
def tailL (nm : Name) (k : Nat) (lem : Name) : TacticM Unit := do
 let gs ← getGoals
 let some g ← gs.findM? fun g => do return (← instantiateMVars (← g.getType)).isAppOf ``Mm | throwError "no goal of cells"
 g.withContext do
  let some dM := (← getLCtx).findFromUserName? nm | throwError "no {nm}"
  let T ← instantiateMVars dM.type
  let as := T.getAppArgs
  let (l, t) ← readNews 400 as[2]!
  for b in gs do
   unless b == g do
    if (← instantiateMVars (← b.getType)).isConstOf ``Value then
     for (ad, o) in l do
      unless ad.isFVar do continue
      let o1 ← kw o
      unless o1.isAppOfArity ``Obj.mk 4 do continue
      let mut e := mkApp2 (mkConst ``Array.toList [0]) (mkApp (mkConst ``Option [0]) (mkConst ``Value)) o1.getAppArgs[3]!
      for _ in [0:3] do
       e ← kw e
       if e.isAppOfArity ``List.cons 3 then e := e.getAppArgs[2]!
      e ← kw e
      unless e.isAppOfArity ``List.cons 3 do continue
      let v ← kw e.getAppArgs[1]!
      if v.isAppOfArity ``Option.some 2 then
       let k ← kw v.appArg!
       unless k.isAppOf ``PySem.Value.ref do
        unless ← b.isAssigned do b.assign v.appArg!
  let xs := (l.take k).toArray.map fun (a, o) => pairOf a o
  let N := listOfE tPair ((l.drop k).map fun (a, o) => pairOf a o) t
  g.assign (mkAppN (mkConst lem) (#[as[0]!, as[1]!] ++ xs ++ #[N, dM.toExpr]))
  setGoals ((← gs.filterM fun x => do return !(← x.isAssigned)))
end Mine
namespace Mine
open PySem PySem.Spec PySem.Calls PyProof.Rows PySem.W PySem.W.X
section
variable (RR : Result → Shared → Prop)
 (I ln f l o : Addr) (j : Nat) (ns : List (Int × Tok)) (xs : List Value) (nl : Nat) (dI gd nd sd pd : Addr) (t1 t2 t3 t4 t5 n1 : Nat) (h1 h2 h3 h4 h5 : Int)
 (R Tr Te : News) (n m i : Nat) (gl : List GenState) (F : Fl) (rd : Addr) (a b : Int) (ta tb : Tok) (vs : List Int) (r : Int → List Int) (A : Ad) (G : Gr) (E2 : Emb w (Tr ++ Te) nd sd pd A G) (Er : Rz w Tr rd vs r) (ho : a ∉ vs → r a = []) (hb : b ∉ r a) (h6 : ∀ z ∈ r a, z < 6)
 (TT : ∀ n m i sl', RM ⟨prog1, w, h₀, 0, kt1 w, [], (aroundT 10 f), RR, d, 0, os⟩ g₀ n (lawLoop (.ref I) f) none .base (tailT I f)
  (k_addr% "r") m i gl)
include hpar K E2 Er ho hb h6 TT
theorem p5_e0s (he : r a = []) (hv : a ∈ vs) (g1 : a ∈ G.sv) (g2 : G.ks a = []) (hm : F.mo.fmod (Int.ofNat 2) = Int.ofNat 0) (v0 : Value) (hsl : F.sl = some v0) : RM ⟨prog1, w, h₀, 0, kt1 w, [], (aroundT 10 f), RR, d, 0, os⟩ g₀ n (lawLoop (.ref I) f) none .base (refT I f)
 (k_addr% "a") m i gl := by
 walk_at "h"
 walk_at "bO"
 subst hsl
 walk_at "H"
 intros
 walk_at "f"
 walk_at "cI"
 ·walk_at "J"
  walk_at "ae"
theorem p5_e0n (he : r a = []) (hv : a ∈ vs) (g1 : a ∈ G.sv) (g2 : G.ks a = []) (hm : F.mo.fmod (Int.ofNat 2) = Int.ofNat 0) (hsl : F.sl = none) : RM ⟨prog1, w, h₀, 0, kt1 w, [], (aroundT 10 f), RR, d, 0, os⟩ g₀ n (lawLoop (.ref I) f) none .base (refT I f)
 (k_addr% "a") m i gl := by
 walk_at "h"
 walk_at "bO"
 subst hsl
 walk_at "H"
 intros
 walk_at "e"
 walk_at "cI"
 ·walk_at "I"
  walk_at "ae"
theorem p5_e1s (he : r a = []) (hv : a ∈ vs) (g1 : a ∈ G.sv) (g2 : G.ks a = []) (hm : F.mo.fmod (Int.ofNat 2) = Int.ofNat 1) (v0 : Value) (hsl : F.sl = some v0) : RM ⟨prog1, w, h₀, 0, kt1 w, [], (aroundT 10 f), RR, d, 0, os⟩ g₀ n (lawLoop (.ref I) f) none .base (refT I f)
 (k_addr% "a") m i gl := by
 walk_at "h"
 walk_at "bO"
 subst hsl
 walk_at "H"
 intros
 walk_at "f"
 walk_at "cI"
 ·walk_at "J"
  walk_at "ae"
theorem p5_e1n (he : r a = []) (hv : a ∈ vs) (g1 : a ∈ G.sv) (g2 : G.ks a = []) (hm : F.mo.fmod (Int.ofNat 2) = Int.ofNat 1) (hsl : F.sl = none) : RM ⟨prog1, w, h₀, 0, kt1 w, [], (aroundT 10 f), RR, d, 0, os⟩ g₀ n (lawLoop (.ref I) f) none .base (refT I f)
 (k_addr% "a") m i gl := by
 walk_at "h"
 walk_at "bO"
 subst hsl
 walk_at "H"
 intros
 walk_at "e"
 walk_at "cI"
 ·walk_at "I"
  walk_at "ae"
end
section
variable (R T Te : News) (m i : Nat) (gl : List GenState) (l : Addr) (row : List Int) (E : Lrow T l row) (t : Tok)
include K E
theorem k_rfirst (x : Int) (hx : row[0]? = some x) (hl : row.length < 1000) : Ctr prog1 w h₀ d os g₀ (aroundL 480) (.call (.builtin "list.__getitem__") ⟨[.ref l, .int (Int.ofNat 0) t], []⟩) (R ++ (T ++ Te)) m i gl
 (k_addr% "eu") := by
 obtain ⟨ps, n, e, hps⟩ := E
 obtain ⟨p, hp, rfl⟩ : ∃ p, ps[0]? = some p ∧ p.1 = x := by
  rw [← hps, List.getElem?_map] at hx
  cases hq : ps[0]? with
  | none => rw [hq] at hx; cases hx
  | some p => rw [hq] at hx; exact ⟨p, rfl, Option.some.inj hx⟩
 refine Ctr.mono (Ctr.read (getL_app e) fun _ => k_lget w h₀ d os g₀ _ _ m i gl l (ivs ps) n 0 t (.int p.1 p.2) (by show (ps.map _)[0]? = _; rw [List.getElem?_map, hp]; rfl) (by rw [← hps, List.length_map] at hl; show (ps.map _).length < 1000; rw [List.length_map]; exact hl)) ?_
 walk_at "af"
 exact ⟨p.2, trivial, rfl, rfl, rfl, rfl, rfl⟩
theorem k_rlast (x : Int) (hx : row.getLast? = some x) : Ctr prog1 w h₀ d os g₀ (aroundL 480) (.call (.builtin "list.__getitem__") ⟨[.ref l, .int (-1) t], []⟩) (R ++ (T ++ Te)) m i gl
 (k_addr% "eu") := by
 obtain ⟨ps, n, e, hps⟩ := E
 obtain ⟨p, hp, rfl⟩ : ∃ p, ps.getLast? = some p ∧ p.1 = x := by
  rw [← hps, List.getLast?_map] at hx
  cases hq : ps.getLast? with
  | none => rw [hq] at hx; cases hx
  | some p => rw [hq] at hx; exact ⟨p, rfl, Option.some.inj hx⟩
 refine Ctr.mono (Ctr.read (getL_app e) fun _ => c_last w h₀ K d os g₀ _ m i gl l (ivs ps) n t p.1 p.2 (by show (ps.map _).getLast? = _; rw [List.getLast?_map, hp]; rfl)) ?_
 walk_at "af"
 exact ⟨p.2, trivial, rfl, rfl, rfl, rfl, rfl⟩
theorem k_rblenS (k : Nat) (hz : row.length = k + 1) (hq : row.length ≤ 500) : Ctr prog1 w h₀ d os g₀ (aroundL 470) (.builtin "len" ⟨[.ref l], []⟩) (R ++ (T ++ Te)) m i gl (oneQ (.int (Int.ofNat (k + 1)) (i + 1)) (R ++ (T ++ Te)) m (i + 2) gl) := by
 obtain ⟨ps, n, e, hps⟩ := E
 have h1 : (ivs ps).length = row.length := by rw [← hps]; simp [ivs]
 exact q_blen (w := w) (h₀ := h₀) (K := K) (d := d) (os := os) (g₀ := g₀) (R := R) (m := m) (i := i) (gl := gl) (l := l) (xs := ivs ps) (n := n) (q := k + 1) (e := getL_app e) (hl := h1.trans hz) (hq := by rw [h1]; exact hq)
end
theorem Mm.tail23 {h₀ h : Heap} {x0 x1 x2 x3 x4 x5 x6 x7 x8 x9 x10 x11 x12 x13 x14 x15 x16 x17 x18 x19 x20 x21 x22 : Addr × Obj} {N : News} (M : Mm h₀ h (x0 :: x1 :: x2 :: x3 :: x4 :: x5 :: x6 :: x7 :: x8 :: x9 :: x10 :: x11 :: x12 :: x13 :: x14 :: x15 :: x16 :: x17 :: x18 :: x19 :: x20 :: x21 :: x22 :: N)) : Mm h₀ h N := M.tail19.drop1.drop1.drop1.drop1
section
variable (R T : News) (m i : Nat) (gl : List GenState) (nd sd pd : Addr) (A : Ad) (G : Gr) (E : Emb w T nd sd pd A G) (a : Addr) (u v : Int) (t : Tok)
include E K
theorem e_has_kr {row : List Int} (hsub : ∀ z, z ∉ row → z ∉ G.ks u) (ha : a = A.s u) (hu : u ∈ G.sv) (hv : v ∉ row) : Ctr prog1 w h₀ d os g₀ (aroundL 480) (k_addr% "eI") (R ++ T) m i gl (k_addr% "ee") :=
 e_has_k0 w h₀ K d os g₀ R T m i gl nd sd pd A G E a u v t ha hu (hsub v hv)
end
section
variable (RR : Result → Shared → Prop)
 (I ln f l o : Addr) (j : Nat) (ns : List (Int × Tok)) (xs : List Value) (nl : Nat) (dI gd nd sd pd : Addr) (t1 t2 t3 t4 t5 n1 : Nat) (h1 h2 h3 h4 h5 : Int)
 (R Tr Te : News) (n m i : Nat) (gl : List GenState) (F : Fl) (rd : Addr) (a b : Int) (ta tb : Tok) (vs : List Int) (r : Int → List Int) (A : Ad) (G : Gr) (E2 : Emb w (Tr ++ Te) nd sd pd A G) (Er : Rz w Tr rd vs r) (ho : a ∉ vs → r a = []) (hb : b ∉ r a) (h6 : ∀ z ∈ r a, z < 6)
 (TT : ∀ n m i sl', RM ⟨prog1, w, h₀, 0, kt1 w, [], (aroundT 10 f), RR, d, 0, os⟩ g₀ n (lawLoop (.ref I) f) none .base (tailT I f)
  (k_addr% "r") m i gl)
include hpar K E2 Er ho hb h6 TT
theorem p5_n0s (k : Nat) (he : (r a).length = k + 1) (hv : a ∈ vs) (g1 : a ∈ G.sv) (q : Nat) (g2 : (G.ks a).length = q + 1) (lm : Int) (hlast : (G.ks a).getLast? = some lm) (x0 x1 : Int) (e0 : (r a)[0]? = some x0) (e1 : (r a).getLast? = some x1) (hl : (r a).length < 1000) (hl2 : (r a).length ≤ 500) (hsub : ∀ z, z ∉ r a → z ∉ G.ks a) (hx0 : x0 ∈ G.ks a) (hm : F.mo.fmod (Int.ofNat 4) = Int.ofNat 0) (v0 : Value) (hsl : F.sl = some v0) : RM ⟨prog1, w, h₀, 0, kt1 w, [], (aroundT 10 f), RR, d, 0, os⟩ g₀ n (lawLoop (.ref I) f) none .base (refT I f)
 (k_addr% "a") m i gl := by
 walk_at "h"
 walk_at "bO"
 subst hsl
 walk_at "j"
 intros
 walk_at "f"
 walk_at "cJ"
 ·walk_at "J"
  walk_at "ae"
theorem p5_n0n (k : Nat) (he : (r a).length = k + 1) (hv : a ∈ vs) (g1 : a ∈ G.sv) (q : Nat) (g2 : (G.ks a).length = q + 1) (lm : Int) (hlast : (G.ks a).getLast? = some lm) (x0 x1 : Int) (e0 : (r a)[0]? = some x0) (e1 : (r a).getLast? = some x1) (hl : (r a).length < 1000) (hl2 : (r a).length ≤ 500) (hsub : ∀ z, z ∉ r a → z ∉ G.ks a) (hx0 : x0 ∈ G.ks a) (hm : F.mo.fmod (Int.ofNat 4) = Int.ofNat 0) (hsl : F.sl = none) : RM ⟨prog1, w, h₀, 0, kt1 w, [], (aroundT 10 f), RR, d, 0, os⟩ g₀ n (lawLoop (.ref I) f) none .base (refT I f)
 (k_addr% "a") m i gl := by
 walk_at "h"
 walk_at "bO"
 subst hsl
 walk_at "j"
 intros
 walk_at "e"
 walk_at "cJ"
 ·walk_at "I"
  walk_at "ae"
theorem p5_n1s (k : Nat) (he : (r a).length = k + 1) (hv : a ∈ vs) (g1 : a ∈ G.sv) (q : Nat) (g2 : (G.ks a).length = q + 1) (lm : Int) (hlast : (G.ks a).getLast? = some lm) (x0 x1 : Int) (e0 : (r a)[0]? = some x0) (e1 : (r a).getLast? = some x1) (hl : (r a).length < 1000) (hl2 : (r a).length ≤ 500) (hsub : ∀ z, z ∉ r a → z ∉ G.ks a) (hx0 : x0 ∈ G.ks a) (hm : F.mo.fmod (Int.ofNat 4) = Int.ofNat 1) (v0 : Value) (hsl : F.sl = some v0) : RM ⟨prog1, w, h₀, 0, kt1 w, [], (aroundT 10 f), RR, d, 0, os⟩ g₀ n (lawLoop (.ref I) f) none .base (refT I f)
 (k_addr% "a") m i gl := by
 walk_at "h"
 walk_at "bO"
 subst hsl
 walk_at "j"
 intros
 walk_at "f"
 walk_at "cJ"
 ·walk_at "J"
  walk_at "ae"
theorem p5_n1n (k : Nat) (he : (r a).length = k + 1) (hv : a ∈ vs) (g1 : a ∈ G.sv) (q : Nat) (g2 : (G.ks a).length = q + 1) (lm : Int) (hlast : (G.ks a).getLast? = some lm) (x0 x1 : Int) (e0 : (r a)[0]? = some x0) (e1 : (r a).getLast? = some x1) (hl : (r a).length < 1000) (hl2 : (r a).length ≤ 500) (hsub : ∀ z, z ∉ r a → z ∉ G.ks a) (hx0 : x0 ∈ G.ks a) (hm : F.mo.fmod (Int.ofNat 4) = Int.ofNat 1) (hsl : F.sl = none) : RM ⟨prog1, w, h₀, 0, kt1 w, [], (aroundT 10 f), RR, d, 0, os⟩ g₀ n (lawLoop (.ref I) f) none .base (refT I f)
 (k_addr% "a") m i gl := by
 walk_at "h"
 walk_at "bO"
 subst hsl
 walk_at "j"
 intros
 walk_at "e"
 walk_at "cJ"
 ·walk_at "I"
  walk_at "ae"
theorem p5_n2s (k : Nat) (he : (r a).length = k + 1) (hv : a ∈ vs) (g1 : a ∈ G.sv) (q : Nat) (g2 : (G.ks a).length = q + 1) (lm : Int) (hlast : (G.ks a).getLast? = some lm) (x0 x1 : Int) (e0 : (r a)[0]? = some x0) (e1 : (r a).getLast? = some x1) (hl : (r a).length < 1000) (hl2 : (r a).length ≤ 500) (hsub : ∀ z, z ∉ r a → z ∉ G.ks a) (hx0 : x0 ∈ G.ks a) (hm : F.mo.fmod (Int.ofNat 4) = Int.ofNat 2) (v0 : Value) (hsl : F.sl = some v0) : RM ⟨prog1, w, h₀, 0, kt1 w, [], (aroundT 10 f), RR, d, 0, os⟩ g₀ n (lawLoop (.ref I) f) none .base (refT I f)
 (k_addr% "a") m i gl := by
 walk_at "h"
 walk_at "bO"
 subst hsl
 walk_at "j"
 intros
 walk_at "f"
 walk_at "cJ"
 ·walk_at "J"
  walk_at "ae"
theorem p5_n2n (k : Nat) (he : (r a).length = k + 1) (hv : a ∈ vs) (g1 : a ∈ G.sv) (q : Nat) (g2 : (G.ks a).length = q + 1) (lm : Int) (hlast : (G.ks a).getLast? = some lm) (x0 x1 : Int) (e0 : (r a)[0]? = some x0) (e1 : (r a).getLast? = some x1) (hl : (r a).length < 1000) (hl2 : (r a).length ≤ 500) (hsub : ∀ z, z ∉ r a → z ∉ G.ks a) (hx0 : x0 ∈ G.ks a) (hm : F.mo.fmod (Int.ofNat 4) = Int.ofNat 2) (hsl : F.sl = none) : RM ⟨prog1, w, h₀, 0, kt1 w, [], (aroundT 10 f), RR, d, 0, os⟩ g₀ n (lawLoop (.ref I) f) none .base (refT I f)
 (k_addr% "a") m i gl := by
 walk_at "h"
 walk_at "bO"
 subst hsl
 walk_at "j"
 intros
 walk_at "e"
 walk_at "cJ"
 ·walk_at "I"
  walk_at "ae"
theorem p5_n3s (k : Nat) (he : (r a).length = k + 1) (hv : a ∈ vs) (g1 : a ∈ G.sv) (q : Nat) (g2 : (G.ks a).length = q + 1) (lm : Int) (hlast : (G.ks a).getLast? = some lm) (x0 x1 : Int) (e0 : (r a)[0]? = some x0) (e1 : (r a).getLast? = some x1) (hl : (r a).length < 1000) (hl2 : (r a).length ≤ 500) (hsub : ∀ z, z ∉ r a → z ∉ G.ks a) (hx0 : x0 ∈ G.ks a) (hm : F.mo.fmod (Int.ofNat 4) = Int.ofNat 3) (v0 : Value) (hsl : F.sl = some v0) : RM ⟨prog1, w, h₀, 0, kt1 w, [], (aroundT 10 f), RR, d, 0, os⟩ g₀ n (lawLoop (.ref I) f) none .base (refT I f)
 (k_addr% "a") m i gl := by
 walk_at "h"
 walk_at "bO"
 subst hsl
 walk_at "j"
 intros
 walk_at "f"
 walk_at "cJ"
 ·walk_at "J"
  walk_at "ae"
theorem p5_n3n (k : Nat) (he : (r a).length = k + 1) (hv : a ∈ vs) (g1 : a ∈ G.sv) (q : Nat) (g2 : (G.ks a).length = q + 1) (lm : Int) (hlast : (G.ks a).getLast? = some lm) (x0 x1 : Int) (e0 : (r a)[0]? = some x0) (e1 : (r a).getLast? = some x1) (hl : (r a).length < 1000) (hl2 : (r a).length ≤ 500) (hsub : ∀ z, z ∉ r a → z ∉ G.ks a) (hx0 : x0 ∈ G.ks a) (hm : F.mo.fmod (Int.ofNat 4) = Int.ofNat 3) (hsl : F.sl = none) : RM ⟨prog1, w, h₀, 0, kt1 w, [], (aroundT 10 f), RR, d, 0, os⟩ g₀ n (lawLoop (.ref I) f) none .base (refT I f)
 (k_addr% "a") m i gl := by
 walk_at "h"
 walk_at "bO"
 subst hsl
 walk_at "j"
 intros
 walk_at "e"
 walk_at "cJ"
 ·walk_at "I"
  walk_at "ae"
end
section
variable (l I acc mf : Addr) (R : News) (m i : Nat) (gl : List GenState) (na nf : Nat)
theorem k_llen0 (A : Around) (n : Nat) : Ctr prog1 w h₀ d os g₀ A (.call (.builtin "list.__len__") ⟨[.ref l], []⟩) ((l, listO [] n) :: R) m i gl (oneQ (.int 0 i) ((l, listO [] n) :: R) m (i+1) gl) :=
 k_llen w h₀ d os g₀ A R m i gl l [] n 0 rfl
include hpar K
theorem sg_startO : Ctr prog1 w h₀ d os g₀ (aroundL 280) (sgStart (.ref I) (.ref acc) mf)
  ((I, rngIt (Int.ofNat 0) (Int.ofNat 9)) :: (acc, listO [] na) :: (mf + 1 + 1 + 1 + 1 + 1 + 1, dictO [] nf) :: (mf + 1, cellO (.ref l)) :: (l, listO [] 0) :: R) m i gl
  (exQ (Nat × Nat × Nat × List Value × Int × Tok × Int × Tok × Int × Tok × Int × Tok × Nat) (fun y => y.2.2.2.1[0]? = some (.int y.2.2.2.2.1 y.2.2.2.2.2.1) ∧ y.2.2.2.1.getLast? = some (.int y.2.2.2.2.2.2.1 y.2.2.2.2.2.2.2.1) ∧ y.2.2.2.1.length < 1000)
   (fun _ => .ok .next) (fun y => (acc, listO y.2.2.2.1 y.2.2.1) :: (k_addr% "cA") :: (mf + 1, cellO (.ref l)) :: (l, listO [] 0) :: R) (fun y => y.1) (fun y => y.2.1) (fun _ => gl)) := by
 refine Ctr.mono (sg_start w b1 b2 hpar h₀ K d os g₀ l I acc mf [(l, listO [] 0)] R [] ⟨[], 0, getL_head _ _ _, rfl⟩ [] m i gl na nf (by simp)) ?_
 rintro _ _ _ _ _ ⟨y, ⟨p1, p2, _, _, p5⟩, rfl, rfl, rfl, rfl, rfl⟩
 exact ⟨y, ⟨p1, p2, p5⟩, rfl, rfl, rfl, rfl, rfl⟩
end
section
variable (RR : Result → Shared → Prop)
 (I ln f l o : Addr) (j : Nat) (ns : List (Int × Tok)) (xs : List Value) (nl : Nat) (dI gd nd sd pd : Addr) (t1 t2 t3 t4 t5 n1 : Nat) (h1 h2 h3 h4 h5 : Int)
 (R Tr Te : News) (n m i : Nat) (gl : List GenState) (F : Fl) (rd : Addr) (a b : Int) (ta tb : Tok) (vs : List Int) (r : Int → List Int) (A : Ad) (G : Gr) (E2 : Emb w (Tr ++ Te) nd sd pd A G) (Er : Rz w Tr rd vs r) (ho : a ∉ vs → r a = []) (hb : b ∉ r a) (h6 : ∀ z ∈ r a, z < 6)
 (TT : ∀ n m i sl', RM ⟨prog1, w, h₀, 0, kt1 w, [], (aroundT 10 f), RR, d, 0, os⟩ g₀ n (lawLoop (.ref I) f) none .base (tailT I f)
  (k_addr% "r") m i gl)
include hpar K E2 Er ho hb h6 TT
theorem p5_o0s (hv : a ∉ vs) (g1 : a ∉ G.sv) (hm : F.mo.fmod (Int.ofNat 2) = Int.ofNat 0) (v0 : Value) (hsl : F.sl = some v0) : RM ⟨prog1, w, h₀, 0, kt1 w, [], (aroundT 10 f), RR, d, 0, os⟩ g₀ n (lawLoop (.ref I) f) none .base (refT I f)
 (k_addr% "a") m i gl := by
 walk_at "h"
 walk_at "bO"
 subst hsl
 walk_at "M"
 intros
 walk_at "f"
 walk_at "cI"
 ·walk_at "J"
  walk_at "ae"
theorem p5_o0n (hv : a ∉ vs) (g1 : a ∉ G.sv) (hm : F.mo.fmod (Int.ofNat 2) = Int.ofNat 0) (hsl : F.sl = none) : RM ⟨prog1, w, h₀, 0, kt1 w, [], (aroundT 10 f), RR, d, 0, os⟩ g₀ n (lawLoop (.ref I) f) none .base (refT I f)
 (k_addr% "a") m i gl := by
 walk_at "h"
 walk_at "bO"
 subst hsl
 walk_at "M"
 intros
 walk_at "e"
 walk_at "cI"
 ·walk_at "I"
  walk_at "ae"
theorem p5_o1s (hv : a ∉ vs) (g1 : a ∉ G.sv) (hm : F.mo.fmod (Int.ofNat 2) = Int.ofNat 1) (v0 : Value) (hsl : F.sl = some v0) : RM ⟨prog1, w, h₀, 0, kt1 w, [], (aroundT 10 f), RR, d, 0, os⟩ g₀ n (lawLoop (.ref I) f) none .base (refT I f)
 (k_addr% "a") m i gl := by
 walk_at "h"
 walk_at "bO"
 subst hsl
 walk_at "M"
 intros
 walk_at "f"
 walk_at "cI"
 ·walk_at "J"
  walk_at "ae"
theorem p5_o1n (hv : a ∉ vs) (g1 : a ∉ G.sv) (hm : F.mo.fmod (Int.ofNat 2) = Int.ofNat 1) (hsl : F.sl = none) : RM ⟨prog1, w, h₀, 0, kt1 w, [], (aroundT 10 f), RR, d, 0, os⟩ g₀ n (lawLoop (.ref I) f) none .base (refT I f)
 (k_addr% "a") m i gl := by
 walk_at "h"
 walk_at "bO"
 subst hsl
 walk_at "M"
 intros
 walk_at "e"
 walk_at "cI"
 ·walk_at "I"
  walk_at "ae"
end
theorem fmod_cases2 (x : Int) : x.fmod (Int.ofNat 2) = Int.ofNat 0 ∨ x.fmod (Int.ofNat 2) = Int.ofNat 1 := by
 rw [Int.fmod_eq_emod_of_nonneg _ (by decide)]
 show x % 2 = 0 ∨ x % 2 = 1
 omega
theorem fmod_cases4 (x : Int) : x.fmod (Int.ofNat 4) = Int.ofNat 0 ∨ x.fmod (Int.ofNat 4) = Int.ofNat 1 ∨ x.fmod (Int.ofNat 4) = Int.ofNat 2 ∨ x.fmod (Int.ofNat 4) = Int.ofNat 3 := by
 rw [Int.fmod_eq_emod_of_nonneg _ (by decide)]
 show x % 4 = 0 ∨ x % 4 = 1 ∨ x % 4 = 2 ∨ x % 4 = 3
 omega
theorem ends_of {α : Type} {l : List α} (h : l ≠ []) : ∃ k x0 x1, l.length = k + 1 ∧ l[0]? = some x0 ∧ l.getLast? = some x1 ∧ x0 ∈ l := by
 cases l with
 | nil => exact absurd rfl h
 | cons x l => exact ⟨l.length, x, _, rfl, rfl, List.getLast?_eq_some_getLast h, .head _⟩
section
variable (RR : Result → Shared → Prop)
 (I ln f l o : Addr) (j : Nat) (ns : List (Int × Tok)) (xs : List Value) (nl : Nat) (dI gd nd sd pd : Addr) (t1 t2 t3 t4 t5 n1 : Nat) (h1 h2 h3 h4 h5 : Int)
 (R Tr Te : News) (m i : Nat) (gl : List GenState) (F : Fl) (rd : Addr) (a b : Int) (ta tb : Tok) (vs : List Int) (r : Int → List Int) (A : Ad) (G : Gr) (E2 : Emb w (Tr ++ Te) nd sd pd A G) (Gd : Good G vs r) (Er : Rz w Tr rd vs r) (O : Inv vs r) (hb : b ∉ r a)
 (TT : ∀ n m i sl', RM ⟨prog1, w, h₀, 0, kt1 w, [], (aroundT 10 f), RR, d, 0, os⟩ g₀ n (lawLoop (.ref I) f) none .base (tailT I f)
  (k_addr% "r") m i gl)
include hpar K E2 Gd Er O hb TT
theorem p5_all (n : Nat) : RM ⟨prog1, w, h₀, 0, kt1 w, [], (aroundT 10 f), RR, d, 0, os⟩ g₀ n (lawLoop (.ref I) f) none .base (refT I f)
 (k_addr% "a") m i gl := by
 have ho := O.ok.out a
 have h6 : ∀ z ∈ r a, z < 6 := fun z hz => by
  have hv : a ∈ vs := Classical.byContradiction fun q => by rw [ho q] at hz; cases hz
  exact (O.six z (O.rv a hv z hz)).2
 by_cases hv : a ∈ vs
 ·have g1 : a ∈ G.sv := by rw [Gd.sv]; exact hv
  by_cases he : r a = []
  ·have g2 : G.ks a = [] := List.Perm.eq_nil (he ▸ Gd.kp a hv)
   rcases fmod_cases2 F.mo with hm | hm
   ·cases hs : F.sl with
    | none => exact p5_e0n w b1 b2 hpar h₀ K d os g₀ RR I ln f l o j ns xs nl dI gd nd sd pd t1 t2 t3 t4 t5 n1 h1 h2 h3 h4 h5 R Tr Te n m i gl F rd a b ta tb vs r A G E2 Er ho hb h6 TT he hv g1 g2 hm hs
    | some v0 => exact p5_e0s w b1 b2 hpar h₀ K d os g₀ RR I ln f l o j ns xs nl dI gd nd sd pd t1 t2 t3 t4 t5 n1 h1 h2 h3 h4 h5 R Tr Te n m i gl F rd a b ta tb vs r A G E2 Er ho hb h6 TT he hv g1 g2 hm v0 hs
   ·cases hs : F.sl with
    | none => exact p5_e1n w b1 b2 hpar h₀ K d os g₀ RR I ln f l o j ns xs nl dI gd nd sd pd t1 t2 t3 t4 t5 n1 h1 h2 h3 h4 h5 R Tr Te n m i gl F rd a b ta tb vs r A G E2 Er ho hb h6 TT he hv g1 g2 hm hs
    | some v0 => exact p5_e1s w b1 b2 hpar h₀ K d os g₀ RR I ln f l o j ns xs nl dI gd nd sd pd t1 t2 t3 t4 t5 n1 h1 h2 h3 h4 h5 R Tr Te n m i gl F rd a b ta tb vs r A G E2 Er ho hb h6 TT he hv g1 g2 hm v0 hs
  ·have P := Gd.kp a hv
   obtain ⟨k, x0, x1, hk, e0, e1, m0⟩ := ends_of he
   obtain ⟨q, _, lm, g2, _, hlast, _⟩ := ends_of (l := G.ks a) (fun e => he (List.Perm.eq_nil (e ▸ P.symm)))
   have hl100 := O.ok.len hv
   have hl : (r a).length < 1000 := by omega
   have hl2 : (r a).length ≤ 500 := by omega
   have hsub : ∀ z, z ∉ r a → z ∉ G.ks a := fun z hz hq => hz (P.mem_iff.mp hq)
   have hx0 : x0 ∈ G.ks a := P.mem_iff.mpr m0
   rcases fmod_cases4 F.mo with hm | hm | hm | hm
   ·cases hs : F.sl with
    | none => exact p5_n0n w b1 b2 hpar h₀ K d os g₀ RR I ln f l o j ns xs nl dI gd nd sd pd t1 t2 t3 t4 t5 n1 h1 h2 h3 h4 h5 R Tr Te n m i gl F rd a b ta tb vs r A G E2 Er ho hb h6 TT k hk hv g1 q g2 lm hlast x0 x1 e0 e1 hl hl2 hsub hx0 hm hs
    | some v0 => exact p5_n0s w b1 b2 hpar h₀ K d os g₀ RR I ln f l o j ns xs nl dI gd nd sd pd t1 t2 t3 t4 t5 n1 h1 h2 h3 h4 h5 R Tr Te n m i gl F rd a b ta tb vs r A G E2 Er ho hb h6 TT k hk hv g1 q g2 lm hlast x0 x1 e0 e1 hl hl2 hsub hx0 hm v0 hs
   ·cases hs : F.sl with
    | none => exact p5_n1n w b1 b2 hpar h₀ K d os g₀ RR I ln f l o j ns xs nl dI gd nd sd pd t1 t2 t3 t4 t5 n1 h1 h2 h3 h4 h5 R Tr Te n m i gl F rd a b ta tb vs r A G E2 Er ho hb h6 TT k hk hv g1 q g2 lm hlast x0 x1 e0 e1 hl hl2 hsub hx0 hm hs
    | some v0 => exact p5_n1s w b1 b2 hpar h₀ K d os g₀ RR I ln f l o j ns xs nl dI gd nd sd pd t1 t2 t3 t4 t5 n1 h1 h2 h3 h4 h5 R Tr Te n m i gl F rd a b ta tb vs r A G E2 Er ho hb h6 TT k hk hv g1 q g2 lm hlast x0 x1 e0 e1 hl hl2 hsub hx0 hm v0 hs
   ·cases hs : F.sl with
    | none => exact p5_n2n w b1 b2 hpar h₀ K d os g₀ RR I ln f l o j ns xs nl dI gd nd sd pd t1 t2 t3 t4 t5 n1 h1 h2 h3 h4 h5 R Tr Te n m i gl F rd a b ta tb vs r A G E2 Er ho hb h6 TT k hk hv g1 q g2 lm hlast x0 x1 e0 e1 hl hl2 hsub hx0 hm hs
    | some v0 => exact p5_n2s w b1 b2 hpar h₀ K d os g₀ RR I ln f l o j ns xs nl dI gd nd sd pd t1 t2 t3 t4 t5 n1 h1 h2 h3 h4 h5 R Tr Te n m i gl F rd a b ta tb vs r A G E2 Er ho hb h6 TT k hk hv g1 q g2 lm hlast x0 x1 e0 e1 hl hl2 hsub hx0 hm v0 hs
   ·cases hs : F.sl with
    | none => exact p5_n3n w b1 b2 hpar h₀ K d os g₀ RR I ln f l o j ns xs nl dI gd nd sd pd t1 t2 t3 t4 t5 n1 h1 h2 h3 h4 h5 R Tr Te n m i gl F rd a b ta tb vs r A G E2 Er ho hb h6 TT k hk hv g1 q g2 lm hlast x0 x1 e0 e1 hl hl2 hsub hx0 hm hs
    | some v0 => exact p5_n3s w b1 b2 hpar h₀ K d os g₀ RR I ln f l o j ns xs nl dI gd nd sd pd t1 t2 t3 t4 t5 n1 h1 h2 h3 h4 h5 R Tr Te n m i gl F rd a b ta tb vs r A G E2 Er ho hb h6 TT k hk hv g1 q g2 lm hlast x0 x1 e0 e1 hl hl2 hsub hx0 hm v0 hs
 ·have g1 : a ∉ G.sv := by rw [Gd.sv]; exact hv
  rcases fmod_cases2 F.mo with hm | hm
  ·cases hs : F.sl with
   | none => exact p5_o0n w b1 b2 hpar h₀ K d os g₀ RR I ln f l o j ns xs nl dI gd nd sd pd t1 t2 t3 t4 t5 n1 h1 h2 h3 h4 h5 R Tr Te n m i gl F rd a b ta tb vs r A G E2 Er ho hb h6 TT hv g1 hm hs
   | some v0 => exact p5_o0s w b1 b2 hpar h₀ K d os g₀ RR I ln f l o j ns xs nl dI gd nd sd pd t1 t2 t3 t4 t5 n1 h1 h2 h3 h4 h5 R Tr Te n m i gl F rd a b ta tb vs r A G E2 Er ho hb h6 TT hv g1 hm v0 hs
  ·cases hs : F.sl with
   | none => exact p5_o1n w b1 b2 hpar h₀ K d os g₀ RR I ln f l o j ns xs nl dI gd nd sd pd t1 t2 t3 t4 t5 n1 h1 h2 h3 h4 h5 R Tr Te n m i gl F rd a b ta tb vs r A G E2 Er ho hb h6 TT hv g1 hm hs
   | some v0 => exact p5_o1s w b1 b2 hpar h₀ K d os g₀ RR I ln f l o j ns xs nl dI gd nd sd pd t1 t2 t3 t4 t5 n1 h1 h2 h3 h4 h5 R Tr Te n m i gl F rd a b ta tb vs r A G E2 Er ho hb h6 TT hv g1 hm v0 hs
end
section
variable (RR : Result → Shared → Prop)
 (I ln f l o : Addr) (j : Nat) (ns : List (Int × Tok)) (xs : List Value) (nl : Nat) (dI gd nd sd pd : Addr) (t1 t2 t3 t4 t5 n1 : Nat) (h1 h2 h3 h4 h5 : Int)
 (QF : Post) (hR : ∀ n r news' m' i' gl', QF r news' m' i' gl' → RE ⟨prog1, w, h₀, 0, kt1 w, [], (aroundT 10 f), RR, d, 0, os⟩ g₀ n r news' m' i' gl')
 (IH : ∀ (R Tr Te : News) (m i : Nat) (gl : List GenState) (F : Fl) (rd : Addr) (a b : Int) (ta tb : Tok) (vs : List Int) (r : Int → List Int), EmbC w Te nd sd pd vs r → Rz w Tr rd vs r → Inv vs r → RestOk gl F.rest →
  Ctr prog1 w h₀ d os g₀ ((aroundT 10 f)) (lawLoop (.ref I) f) (k_addr% "a") m i gl QF)
 (R Tr Te : News) (n m i : Nat) (gl : List GenState) (F : Fl) (rd : Addr) (a b : Int) (ta tb : Tok) (vs : List Int) (r : Int → List Int) (E : EmbC w Te nd sd pd vs r) (Er : Rz w Tr rd vs r) (O : Inv vs r) (hrest : RestOk gl F.rest)
 (hab : a ≠ b) (ha6 : 0 ≤ a ∧ a < 6) (hb6 : 0 ≤ b ∧ b < 6)
include hpar K hR IH E Er O hrest hab ha6 hb6
theorem turn (hk0 : 0 ≤ F.kd) (hk6 : F.kd < 6) : RM ⟨prog1, w, h₀, 0, kt1 w, [], (aroundT 10 f), RR, d, 0, os⟩ g₀ n (lawLoop (.ref I) f) none .base (bodyT I f)
 (k_addr% "a") m i gl := by
 have TT : ∀ n m i sl', RM ⟨prog1, w, h₀, 0, kt1 w, [], (aroundT 10 f), RR, d, 0, os⟩ g₀ n (lawLoop (.ref I) f) none .base (tailT I f)
  (k_addr% "r") m i gl :=
   fun n m i sl' => tail_ok w b1 b2 hpar h₀ K d os g₀ RR I ln f l o j ns xs nl dI gd nd sd pd t1 t2 t3 t4 t5 n1 h1 h2 h3 h4 h5 QF hR IH R Tr Te n m i gl { F with sl := sl' } rd a b ta tb vs r E Er O hrest
 have sub : ∀ {T : Sem PySem.Fin}, (∀ A G, Emb w (Tr ++ Te) nd sd pd A G → Good G vs r → RM ⟨prog1, w, h₀, 0, kt1 w, [], (aroundT 10 f), RR, d, 0, os⟩ g₀ n (lawLoop (.ref I) f) none .base T
  (k_addr% "a") m i gl) → RM ⟨prog1, w, h₀, 0, kt1 w, [], (aroundT 10 f), RR, d, 0, os⟩ g₀ n (lawLoop (.ref I) f) none .base T
  (k_addr% "a") m i gl := fun hT => by
   obtain ⟨A, G, E1, Gd⟩ := E
   exact rm_subF (P := Emb w (Tr ++ Te) nd sd pd A G) (fun h M => ⟨M, Emb.appR (M.drop1.drop1.drop1.drop1.drop1.drop1.drop1.drop1.drop1.right).nd E1⟩) fun E2 => hT A G E2 Gd
 by_cases k3 : F.kd < 3
 ·by_cases hb : b ∈ r a
  ·exact p4_ok_lt w b1 b2 hpar h₀ K d os g₀ RR I ln f l o j ns xs nl dI gd nd sd pd t1 t2 t3 t4 t5 n1 h1 h2 h3 h4 h5 QF hR IH R Tr Te n m i gl F rd a b ta tb vs r E Er O hrest k3 hb
  ·exact p1_ok w b1 b2 hpar h₀ K d os g₀ RR I ln f l o j ns xs nl dI gd nd sd pd t1 t2 t3 t4 t5 n1 h1 h2 h3 h4 h5 QF hR IH R Tr Te n m i gl F rd a b ta tb vs r E Er O hrest hab ha6 hb6 k3 hb
 by_cases e3 : F.kd = 3
 ·by_cases hb : b ∈ r a
  ·exact p2_ok w b1 b2 hpar h₀ K d os g₀ RR I ln f l o j ns xs nl dI gd nd sd pd t1 t2 t3 t4 t5 n1 h1 h2 h3 h4 h5 QF hR IH R Tr Te n m i gl F rd a b ta tb vs r E Er O hrest hab ha6 hb6 e3 hb
  ·refine sub fun A G E2 Gd => ?_
   by_cases ha : a ∈ vs
   ·have g1 : a ∈ G.sv := by rw [Gd.sv]; exact ha
    by_cases hbv : b ∈ vs
    ·have g2 : b ∈ G.sv := by rw [Gd.sv]; exact hbv
     have g3 : b ∉ G.ks a := fun q => hb ((Gd.kp a ha).mem_iff.mp q)
     cases hs : F.sl with
     | none => exact x3_cn w b1 b2 hpar h₀ K d os g₀ RR I ln f l o j ns xs nl dI gd nd sd pd t1 t2 t3 t4 t5 n1 h1 h2 h3 h4 h5 R Tr Te n m i gl F rd a b ta tb vs r A G E2 Er ha6.1 ha6.2 hb6.1 hb6.2 k3 TT e3 hb ha g1 g2 g3 hs
     | some v0 => exact x3_cs w b1 b2 hpar h₀ K d os g₀ RR I ln f l o j ns xs nl dI gd nd sd pd t1 t2 t3 t4 t5 n1 h1 h2 h3 h4 h5 R Tr Te n m i gl F rd a b ta tb vs r A G E2 Er ha6.1 ha6.2 hb6.1 hb6.2 k3 TT e3 hb ha g1 g2 g3 v0 hs
    ·have g2 : b ∉ G.sv := by rw [Gd.sv]; exact hbv
     cases hs : F.sl with
     | none => exact x3_bn w b1 b2 hpar h₀ K d os g₀ RR I ln f l o j ns xs nl dI gd nd sd pd t1 t2 t3 t4 t5 n1 h1 h2 h3 h4 h5 R Tr Te n m i gl F rd a b ta tb vs r A G E2 Er ha6.1 ha6.2 hb6.1 hb6.2 k3 TT e3 hb ha g1 g2 hs
     | some v0 => exact x3_bs w b1 b2 hpar h₀ K d os g₀ RR I ln f l o j ns xs nl dI gd nd sd pd t1 t2 t3 t4 t5 n1 h1 h2 h3 h4 h5 R Tr Te n m i gl F rd a b ta tb vs r A G E2 Er ha6.1 ha6.2 hb6.1 hb6.2 k3 TT e3 hb ha g1 g2 v0 hs
   ·have g1 : a ∉ G.sv := by rw [Gd.sv]; exact ha
    cases hs : F.sl with
    | none => exact x3_an w b1 b2 hpar h₀ K d os g₀ RR I ln f l o j ns xs nl dI gd nd sd pd t1 t2 t3 t4 t5 n1 h1 h2 h3 h4 h5 R Tr Te n m i gl F rd a b ta tb vs r A G E2 Er ha6.1 ha6.2 hb6.1 hb6.2 k3 TT e3 hb ha g1 hs
    | some v0 => exact x3_as w b1 b2 hpar h₀ K d os g₀ RR I ln f l o j ns xs nl dI gd nd sd pd t1 t2 t3 t4 t5 n1 h1 h2 h3 h4 h5 R Tr Te n m i gl F rd a b ta tb vs r A G E2 Er ha6.1 ha6.2 hb6.1 hb6.2 k3 TT e3 hb ha g1 v0 hs
 by_cases e4 : F.kd = 4
 ·by_cases hm : F.num.fmod (Int.ofNat 5) = Int.ofNat 0
  ·by_cases ha : a ∈ vs
   ·exact p3_ok w b1 b2 hpar h₀ K d os g₀ RR I ln f l o j ns xs nl dI gd nd sd pd t1 t2 t3 t4 t5 n1 h1 h2 h3 h4 h5 QF hR IH R Tr Te n m i gl F rd a b ta tb vs r E Er O hrest hab ha6 hb6 e4 hm ha
   ·refine sub fun A G E2 Gd => ?_
    have g1 : a ∉ G.pv := by rw [Gd.pv]; exact ha
    cases hs : F.sl with
    | none => exact x4_pn w b1 b2 hpar h₀ K d os g₀ RR I ln f l o j ns xs nl dI gd nd sd pd t1 t2 t3 t4 t5 n1 h1 h2 h3 h4 h5 R Tr Te n m i gl F rd a b ta tb vs r A G E2 Er ha6.1 ha6.2 hb6.1 hb6.2 k3 TT e4 e3 hm ha g1 hs
    | some v0 => exact x4_ps w b1 b2 hpar h₀ K d os g₀ RR I ln f l o j ns xs nl dI gd nd sd pd t1 t2 t3 t4 t5 n1 h1 h2 h3 h4 h5 R Tr Te n m i gl F rd a b ta tb vs r A G E2 Er ha6.1 ha6.2 hb6.1 hb6.2 k3 TT e4 e3 hm ha g1 v0 hs
  ·by_cases hb : b ∈ r a
   ·exact p4_ok_4 w b1 b2 hpar h₀ K d os g₀ RR I ln f l o j ns xs nl dI gd nd sd pd t1 t2 t3 t4 t5 n1 h1 h2 h3 h4 h5 QF hR IH R Tr Te n m i gl F rd a b ta tb vs r E Er O hrest e4 hm hb
   ·refine sub fun A G E2 Gd => ?_
    exact to_ref4 w b1 b2 hpar h₀ K d os g₀ R Tr Te n m i gl RR I ln f l o rd j ns F xs nl a b ta tb dI gd nd sd pd t1 t2 t3 t4 t5 n1 h1 h2 h3 h4 h5 (k_addr% "cu") k3 e3 e4 _ rfl hm
 ·have e5 : F.kd = 5 := by omega
  by_cases hb : b ∈ r a
  ·exact p4_ok_5 w b1 b2 hpar h₀ K d os g₀ RR I ln f l o j ns xs nl dI gd nd sd pd t1 t2 t3 t4 t5 n1 h1 h2 h3 h4 h5 QF hR IH R Tr Te n m i gl F rd a b ta tb vs r E Er O hrest e5 hb
  ·refine sub fun A G E2 Gd => ?_
   exact to_ref5 w b1 b2 hpar h₀ K d os g₀ R Tr Te n m i gl RR I ln f l o rd j ns F xs nl a b ta tb dI gd nd sd pd t1 t2 t3 t4 t5 n1 h1 h2 h3 h4 h5 (k_addr% "cu") k3 e3 e4
end
theorem fmod6 (x : Int) : 0 ≤ x.fmod (Int.ofNat 6) ∧ x.fmod (Int.ofNat 6) < 6 := by
 rw [Int.fmod_eq_emod_of_nonneg _ (by decide)]
 show 0 ≤ x % 6 ∧ x % 6 < 6
 omega
theorem fmod6_ne (x : Int) (h : 0 ≤ x ∧ x < 6) : x ≠ (x + 1).fmod (Int.ofNat 6) := by
 rw [Int.fmod_eq_emod_of_nonneg _ (by decide)]
 show x ≠ (x + 1) % 6
 omega
section
variable (I ln f l o : Addr) (ns : List (Int × Tok)) (xs : List Value) (nl : Nat) (dI gd nd sd pd : Addr) (t1 t2 t3 t4 t5 n1 : Nat) (h1 h2 h3 h4 h5 : Int)
include hpar K
theorem loop_end (j : Nat) (hj : (⟨ivs ns⟩ : Array Value)[j]? = none) (R Tr Te : News) (m i : Nat) (gl : List GenState) (F : Fl) (rd : Addr) (a b : Int) (ta tb : Tok) (vs : List Int) (r : Int → List Int) (E : EmbC w Te nd sd pd vs r) (Er : Rz w Tr rd vs r) (O : Inv vs r) (hrest : RestOk gl F.rest) :
  Ctr prog1 w h₀ d os g₀ ((aroundT 10 f)) (lawLoop (.ref I) f) (k_addr% "D") m i gl
  (k_addr% "cV") := by
 walk_at "d"
 run_tac Mine.walk [``c_lnext_end] [] { wd := true, lies := true }
 exact re_choose [6, 7, 8, 9, 10] 11 rfl (hR 0 _ _ _ _ _ ⟨(_, _, gl, F, rd, Tr, Te, vs, r, R), ⟨E, Er, O, hrest⟩, rfl, rfl, rfl, rfl, rfl⟩)
theorem loop_all (k : Nat) : ∀ (j : Nat), j + k = ns.length → ∀ (R Tr Te : News) (m i : Nat) (gl : List GenState) (F : Fl) (rd : Addr) (a b : Int) (ta tb : Tok) (vs : List Int) (r : Int → List Int), EmbC w Te nd sd pd vs r → Rz w Tr rd vs r → Inv vs r → RestOk gl F.rest →
  Ctr prog1 w h₀ d os g₀ ((aroundT 10 f)) (lawLoop (.ref I) f) (k_addr% "D") m i gl
  (k_addr% "cV") := by
 induction k with
 | zero =>
   intro j hj R Tr Te m i gl F rd a b ta tb vs r E Er O hrest
   exact loop_end w b1 b2 hpar h₀ K d os g₀ I ln f l o ns xs nl dI gd nd sd pd t1 t2 t3 t4 t5 n1 h1 h2 h3 h4 h5 j (by simp [ivs]; omega) R Tr Te m i gl F rd a b ta tb vs r E Er O hrest
 | succ k ih =>
   intro j hj R Tr Te m i gl F rd a b ta tb vs r E Er O hrest
   have hjl : j < ns.length := by omega
   have he : (⟨ivs ns⟩ : Array Value)[j]? = some (.int ns[j].1 ns[j].2) := by simp [ivs, hjl]
   generalize ns[j].1 = num at he
   generalize ns[j].2 = tnum at he
   have ih' := ih (j + 1) (by omega)
   have hk := fmod6 num
   have ha := fmod6 (num.fdiv (Int.ofNat 6))
   have hb := fmod6 (num.fdiv (Int.ofNat 36))
   rcases Classical.em ((num.fdiv (Int.ofNat 6)).fmod (Int.ofNat 6) = (num.fdiv (Int.ofNat 36)).fmod (Int.ofNat 6)) with e | e
   ·refine hdN_eq w b1 b2 hpar h₀ K d os g₀ I ln f l o rd j ns num tnum he _ _ _ _ _ _ rfl rfl rfl rfl rfl rfl xs nl (k_addr% "ar") m i gl _ F a b ta tb e _ _ rfl rfl ?_
    intro RR hR F' ta tb n m i e1 e2 e3 e4 e5
    exact turn w b1 b2 hpar h₀ K d os g₀ RR I ln f l o j ns xs nl dI gd nd sd pd t1 t2 t3 t4 t5 n1 h1 h2 h3 h4 h5 _ hR ih' R Tr Te n m i gl F' rd _ _ ta tb vs r E Er O (by rw [e4]; exact hrest) (by rw [e]; exact fmod6_ne _ hb) ha (fmod6 _) (by rw [e1]; exact hk.1) (by rw [e1]; exact hk.2)
   ·refine hdN_ne w b1 b2 hpar h₀ K d os g₀ I ln f l o rd j ns num tnum he _ _ _ _ _ _ rfl rfl rfl rfl rfl rfl xs nl (k_addr% "ar") m i gl _ F a b ta tb e ?_
    intro RR hR F' ta tb n m i e1 e2 e3 e4 e5
    exact turn w b1 b2 hpar h₀ K d os g₀ RR I ln f l o j ns xs nl dI gd nd sd pd t1 t2 t3 t4 t5 n1 h1 h2 h3 h4 h5 _ hR ih' R Tr Te n m i gl F' rd _ _ ta tb vs r E Er O (by rw [e4]; exact hrest) e ha hb (by rw [e1]; exact hk.1) (by rw [e1]; exact hk.2)
theorem loop0 (h1n : 1 ≤ ns.length) (a1 a2 a3 : Int) (c1 c2 c3 : Tok) (vv : Int) (tvv : Tok) (nf : Nat) (R Tr Te : News) (m i : Nat) (gl : List GenState) (rd : Addr) (vs : List Int) (r : Int → List Int) (E : EmbC w Te nd sd pd vs r) (Er : Rz w Tr rd vs r) (O : Inv vs r) (hgb : GB gl) :
 Ctr prog1 w h₀ d os g₀ ((aroundT 10 f)) (lawLoop (.ref I) f)
 ((I, litO ln 0) :: (ln, listO (ivs ns) 0) :: (l, listO xs nl) :: (k_addr% "as") :: (f + 1, cellO (.ref rd)) :: (f + 2, cellN) :: (f + 3, cellN) :: (o, selfO dI) :: (k_addr% "b") :: (R ++ (Tr ++ Te))) m i gl
  (k_addr% "cV") := by
 have ih' := loop_all w b1 b2 hpar h₀ K d os g₀ I ln f l o ns xs nl dI gd nd sd pd t1 t2 t3 t4 t5 n1 h1 h2 h3 h4 h5 (ns.length - 1) 1 (by omega)
 have he : (⟨ivs ns⟩ : Array Value)[0]? = some (.int ns[0].1 ns[0].2) := by simp [ivs]; exact List.getElem?_eq_getElem (by omega)
 generalize ns[0].1 = num at he
 generalize ns[0].2 = tnum at he
 have hk := fmod6 num
 have ha := fmod6 (num.fdiv (Int.ofNat 6))
 have hb := fmod6 (num.fdiv (Int.ofNat 36))
 rcases Classical.em ((num.fdiv (Int.ofNat 6)).fmod (Int.ofNat 6) = (num.fdiv (Int.ofNat 36)).fmod (Int.ofNat 6)) with e | e
 ·refine hd0_eq w b1 b2 hpar h₀ K d os g₀ I ln f l o rd 0 ns num tnum he _ _ _ _ _ _ rfl rfl rfl rfl rfl rfl xs nl (k_addr% "ar") m i gl _ a1 a2 a3 c1 c2 c3 vv tvv nf e _ _ rfl rfl ?_
  intro RR hR F' ta tb n m i e1 e2 e3 e4 e5
  exact turn w b1 b2 hpar h₀ K d os g₀ RR I ln f l o 0 ns xs nl dI gd nd sd pd t1 t2 t3 t4 t5 n1 h1 h2 h3 h4 h5 _ hR ih' R Tr Te n m i gl F' rd _ _ ta tb vs r E Er O ⟨hgb, .inl e4⟩ (by rw [e]; exact fmod6_ne _ hb) ha (fmod6 _) (by rw [e1]; exact hk.1) (by rw [e1]; exact hk.2)
 ·refine hd0_ne w b1 b2 hpar h₀ K d os g₀ I ln f l o rd 0 ns num tnum he _ _ _ _ _ _ rfl rfl rfl rfl rfl rfl xs nl (k_addr% "ar") m i gl _ a1 a2 a3 c1 c2 c3 vv tvv nf e ?_
  intro RR hR F' ta tb n m i e1 e2 e3 e4 e5
  exact turn w b1 b2 hpar h₀ K d os g₀ RR I ln f l o 0 ns xs nl dI gd nd sd pd t1 t2 t3 t4 t5 n1 h1 h2 h3 h4 h5 _ hR ih' R Tr Te n m i gl F' rd _ _ ta tb vs r E Er O ⟨hgb, .inl e4⟩ e ha hb (by rw [e1]; exact hk.1) (by rw [e1]; exact hk.2)
end
def EmbL (w : World) (T : News) (nd sd pd : Addr) (vs : List Int) (r : Int → List Int) (u c : Int) : Prop := ∃ A G, Emb w T nd sd pd A G ∧ Good G vs r ∧ (G.ks u).getLast? = some c
theorem EmbL.toC {w : World} {T : News} {nd sd pd : Addr} {vs : List Int} {r : Int → List Int} {u c : Int} (E : EmbL w T nd sd pd vs r u c) : EmbC w T nd sd pd vs r := by
 obtain ⟨A, G, e, g, _⟩ := E; exact ⟨A, G, e, g⟩
section
variable (R Tr T : News) (m i : Nat) (gl : List GenState)
 (o dI gd nd sd pd : Addr) (t1 t2 t3 t4 t5 n1 : Nat) (h1 h2 h3 h4 h5 : Int) (vs : List Int) (r : Int → List Int)
 (u v : Int) (tu tv : Tok) (huv : u ≠ v) (hu : u ∈ vs) (hv : v ∈ vs)
include hpar K huv hu hv
theorem sd_e (E : EmbC w T nd sd pd vs r) (hr : r u = []) : Ctr prog1 w h₀ d os g₀ (aroundL 350) (.call (.ref 811) ⟨[.ref o, .int u tu, .int v tv], [("cw", .none)]⟩) (k_addr% "P") m i gl
  (exQ (Nat × Nat × News) (fun x => EmbL w x.2.2 nd sd pd vs (upd r u [v]) u v) (k_addr% "s") (k_addr% "R") (fun x => x.1) (fun x => x.2.1) (fun _ => gl)) := by
 obtain ⟨A, G, E, H⟩ := E
 have hun : v ∉ r u := by rw [hr]; exact List.not_mem_nil
 obtain ⟨G0, H0, HG, _⟩ := H.adds hu hun (H.vo v hv)
 rw [addIf_in hv] at HG
 rw [← List.append_assoc]
 refine (eh_e_s_c w b1 b2 hpar h₀ K d os g₀ (R ++ Tr) T m i gl o dI gd nd sd pd t1 t2 t3 t4 t5 n1 h1 h2 h3 h4 h5 A G E u v tu tv huv (H.vo u hu) (H.vo v hv) (H.pv.trans H.sv.symm) (H.nv.trans H.sv.symm) G0 H0 (by rw [H.sv]; exact hu) ?_).mono ?_
 ·have := H.kp u hu
  rw [hr] at this
  exact List.perm_nil.mp this
 walk_at "em"
 refine ⟨(y.1, y.2.1, y.2.2.1), ⟨y.2.2.2, _, hy, HG.first hu hv huv hr, ?_⟩, rfl, by simp only [List.append_assoc], rfl, rfl, rfl⟩
 show (upd G0.ks u (G0.ks u ++ [v]) u).getLast? = some v
 rw [upd_self]; simp
theorem sd_c (c : Int) (tc : Tok) (E : EmbL w T nd sd pd vs r u c) (B : List Int) (hr : r u = c :: B) (hun : v ∉ r u) : Ctr prog1 w h₀ d os g₀ (aroundL 350) (k_addr% "dE") (k_addr% "P") m i gl
  (exQ (Nat × Nat × News) (fun x => EmbL w x.2.2 nd sd pd vs (upd r u (v :: r u)) u v) (k_addr% "s") (k_addr% "R") (fun x => x.1) (fun x => x.2.1) (fun _ => gl)) := by
 obtain ⟨A, G, E, H, hl⟩ := E
 obtain ⟨G0, H0, HG, hx, hy⟩ := H.adds hu hun (H.vo v hv)
 rw [addIf_in hv] at HG
 have kp := H.kp u hu
 have hc : c ∈ r u := by rw [hr]; simp
 have hyc := (Cyc.mem (H.cy u hu) (H.nd u hu) hc).2
 have hus : u ∈ G.sv := by rw [H.sv]; exact hu
 have hun' : v ∉ G.ks u := fun q => hun (kp.mem_iff.mp q)
 have hc' := kp.mem_iff.mpr hc
 obtain ⟨q, hq⟩ : ∃ q, (G.ks u).length = q + 1 := ⟨(G.ks u).length - 1, by have := List.length_pos_of_mem hc'; omega⟩
 have g := HG.cwS hu hv huv hun (A := []) hr
 rw [hy] at g
 rw [← List.append_assoc]
 refine (eh_cw_s_c w b1 b2 hpar h₀ K d os g₀ (R ++ Tr) T m i gl o dI gd nd sd pd t1 t2 t3 t4 t5 n1 h1 h2 h3 h4 h5 A G E u v tu tv huv (H.vo u hu) (H.vo v hv) (H.pv.trans H.sv.symm) (H.nv.trans H.sv.symm) G0 H0 hus hun' q hq c hl c tc hc' (kp.mem_iff.mpr hyc) rfl).mono ?_
 walk_at "em"
 refine ⟨(y.1, y.2.1, y.2.2.1), ⟨y.2.2.2, _, hy, by rw [hr]; exact g, ?_⟩, rfl, by simp only [List.append_assoc], rfl, rfl, rfl⟩
 show (upd G0.ks u (G0.ks u ++ [v]) u).getLast? = some v
 rw [upd_self]; simp
end
abbrev revIt (l : Addr) (j : Int) : Obj := ⟨.type "list_reverseiterator", none, .fields ⟨[.ref l, .int j 0]⟩, #[]⟩
section
variable (R T Te : News) (m i : Nat) (gl : List GenState)
 (rd : Addr) (vs : List Int) (r : Int → List Int) (E : Rz w T rd vs r)
include K E
theorem r_diterY : Ctr prog1 w h₀ d os g₀ (aroundL 470) (.call (.builtin "dict.__iter__") ⟨[.ref rd], []⟩) (R ++ (T ++ Te)) m i gl (oneQ (.ref m) ((m, keyIt rd 0 (esOf T rd).length (nOf T rd)) :: (R ++ (T ++ Te))) (m + 1) i gl) :=
 q_diter w h₀ K d os g₀ R (T ++ Te) m i gl rd (esOf T rd) (nOf T rd) (getL_app (ld_w1 w T rd vs r E))
end
section
variable (R : News) (m i : Nat) (gl : List GenState) (l I : Addr) (xs : List Value) (n : Nat)
include K
theorem c_lrev (j : Int) (hj : (xs.length : Int) - 1 = j) : Ctr prog1 w h₀ d os g₀ (aroundL 480) (.call (.builtin "list.__reversed__") ⟨[.ref l], []⟩) ((l, listO xs n) :: R) m i gl
 (oneQ (.ref m) ((m, revIt l j) :: (l, listO xs n) :: R) (m + 1) i gl) := by
 walk_at "d"
 walk_at "t"
 all_goals (subst hj; walk_at "l")
theorem c_rvnext (j : Nat) (v : Int) (t : Tok) (he : (⟨xs⟩ : Array Value)[j]? = some (.int v t)) : Ctr prog1 w h₀ d os g₀ (aroundL 480) (k_addr% "er") ((I, revIt l (Int.ofNat j)) :: (l, listO xs n) :: R) m i gl
 (oneQ (.int v t) ((I, revIt l (Int.ofNat j - 1)) :: (l, listO xs n) :: R) m i gl) := by
 walk_at "fa"
 walk_at "d"
 walk_at "t"
 walk_at "z"
theorem c_rvnext_end : Ctr prog1 w h₀ d os g₀ (aroundL 480) (k_addr% "er") ((I, revIt l (-1)) :: R) m i gl
 (resQ (.error (.ref (m + 1))) ((m + 1, stopO m) :: (m, tupO []) :: (I, revIt l (-1)) :: R) (m + 2) i gl) := by
 walk_at "d"
 walk_at "t"
 walk_at "z"
end
section
variable (R Td T : News) (m i : Nat) (gl : List GenState)
 (o dI gd nd sd pd : Addr) (t1 t2 t3 t4 t5 n1 : Nat) (h1 h2 h3 h4 h5 : Int) (da : Addr) (vs : List Int) (f : Int → List Int) (Ed : Rz w Td da vs f)
include hpar K Ed
theorem sd_start : Ctr prog1 w h₀ d os g₀ (aroundL 320) (.call (.ref 781) ⟨[.ref o, .ref da], []⟩) ((o, selfO dI) :: (k_addr% "b") :: (R ++ (Td ++ T))) m i gl (fun _ _ _ _ _ => True) ∨ True := by
 run_tac Mine.probeCode `Mine.sdLoop [``r_diterY] "forLoop"
 exact Or.inr trivial
end
section
variable (R T Te : News) (m i : Nat) (gl : List GenState) (l I : Addr) (row : List Int) (E : Lrow T l row)
include K E
theorem r_lrev (j : Int) (hj : (row.length : Int) - 1 = j) : Ctr prog1 w h₀ d os g₀ (aroundL 480) (.call (.builtin "list.__reversed__") ⟨[.ref l], []⟩) (R ++ (T ++ Te)) m i gl
 (oneQ (.ref m) ((m, revIt l j) :: (R ++ (T ++ Te))) (m + 1) i gl) := by
 obtain ⟨ps, n, e, hps⟩ := E
 exact Ctr.readN (N := [_]) (getL_app e) fun rest => c_lrev w h₀ K d os g₀ rest m i gl l (ivs ps) n j (by rw [← hj, ← hps]; simp [ivs])
theorem r_rvnext (j : Nat) (v : Int) (j' : Int) (he : row[j]? = some v) (hj : Int.ofNat j - 1 = j') : Ctr prog1 w h₀ d os g₀ (aroundL 480) (k_addr% "er") ((I, revIt l (Int.ofNat j)) :: (R ++ (T ++ Te))) m i gl
 (exQ Tok (fun _ => True) (fun t => .ok (.ret (.int v t))) (fun _ => (I, revIt l j') :: (R ++ (T ++ Te))) (fun _ => m) (fun _ => i) (fun _ => gl)) := by
 obtain ⟨ps, n, e, hps⟩ := E
 subst hj
 obtain ⟨p, hp, rfl⟩ : ∃ p, ps[j]? = some p ∧ p.1 = v := by
  rw [← hps, List.getElem?_map] at he
  cases hq : ps[j]? with
  | none => rw [hq] at he; cases he
  | some p => rw [hq] at he; exact ⟨p, rfl, Option.some.inj he⟩
 refine Ctr.mono (Ctr.rd (P := [_]) (P' := [_]) (getL_app e) fun rest => c_rvnext w h₀ K d os g₀ rest m i gl l I (ivs ps) n j p.1 p.2 (by simp [ivs, hp])) ?_
 walk_at "af"
 exact ⟨p.2, trivial, rfl, rfl, rfl, rfl, rfl⟩
end
section
variable (R Td T : News) (m i : Nat) (gl : List GenState)
 (o dI gd nd sd pd : Addr) (t1 t2 t3 t4 t5 n1 : Nat) (h1 h2 h3 h4 h5 : Int) (da : Addr) (vs : List Int) (fz : Int → List Int) (Ed : Rz w Td da vs fz)
 (I fr : Addr) (a1 a2 : Int) (c1 c2 : Tok) (nf j : Nat)
include hpar K Ed
theorem si_name (hs k : Int) (t : Tok) (b : Addr) (he : (⟨esOf Td da⟩ : Array DictEntry)[j]? = some ⟨hs, .int k t, .ref b⟩) (hkm : k ∈ vs) (jj : Int) (hjj : ((fz k).length : Int) - 1 = jj) :
 Ctr prog1 w h₀ d os g₀ (aroundL 320) (sdLoop (.ref I) fr) ((I, keyIt da j (esOf Td da).length (nOf Td da)) :: (fr, frO [⟨a1, .str "self" c1, .ref o⟩, ⟨a2, .str "data" c2, .ref da⟩] nf) :: (o, selfO dI) :: (k_addr% "b") :: (R ++ (Td ++ T))) m i gl (fun _ _ _ _ _ => True) ∨ True := by
 run_tac do
  let s ← Lean.saveState
  Lean.Elab.Tactic.evalTactic (← `(tactic| left))
  Lean.Elab.Tactic.evalTactic (← `(tactic| refine Ctr.ofQ (Mine.kt1 w) ?_))
  Mine.walk [``q_keynext, ``r_lrev, ``r_item] [] { stops := ["forLoop"] }
  Mine.nameCode `Mine.siLoop (some s)
 exact Or.inr trivial
end
theorem upd_upd {α : Type} (f : Int → α) (u : Int) (a b : α) : upd (upd f u a) u b = upd f u b := by
 funext z
 unfold upd
 split <;> rfl
def idx : Nat → Int
 | 0 => -1
 | q + 1 => Int.ofNat q
theorem idx_step (q : Nat) : Int.ofNat q - 1 = idx q := by
 cases q with
 | zero => rfl
 | succ q => show ((q + 1 : Nat) : Int) - 1 = (q : Int); omega
def SdF (F : List DictEntry) : Prop := F = [] ∨ ∃ a5 c5 ww tw, F = [⟨a5, .str "w" c5, .int ww tw⟩]
section
variable (R Tr T : News) (m i : Nat) (gl : List GenState)
 (o dI gd nd sd pd : Addr) (t1 t2 t3 t4 t5 n1 : Nat) (h1 h2 h3 h4 h5 : Int) (vs : List Int) (r : Int → List Int)
 (u v : Int) (tu tv : Tok) (huv : u ≠ v) (hu : u ∈ vs) (hv : v ∈ vs)
include hpar K huv hu hv
theorem sd_cR (c : Int) (tc : Tok) (B : List Int) (E : EmbL w T nd sd pd vs (upd r u (c :: B)) u c) (hun : v ∉ c :: B) : Ctr prog1 w h₀ d os g₀ (aroundL 350) (k_addr% "dE") (k_addr% "P") m i gl
  (exQ (Nat × Nat × News) (fun x => EmbL w x.2.2 nd sd pd vs (upd r u (v :: c :: B)) u v) (k_addr% "s") (k_addr% "R") (fun x => x.1) (fun x => x.2.1) (fun _ => gl)) := by
 have := sd_c w b1 b2 hpar h₀ K d os g₀ R Tr T m i gl o dI gd nd sd pd t1 t2 t3 t4 t5 n1 h1 h2 h3 h4 h5 vs _ u v tu tv huv hu hv c tc E B (upd_self _ _ _) (by rw [upd_self]; exact hun)
 rw [upd_upd, upd_self] at this
 exact this
end
section
variable (Td : News)
 (o dI gd nd sd pd : Addr) (t1 t2 t3 t4 t5 n1 : Nat) (h1 h2 h3 h4 h5 : Int) (da : Addr) (vs : List Int) (r : Int → List Int)
 (J fr l : Addr) (row : List Int) (El : Lrow Td l row) (u : Int) (tu : Tok) (hu : u ∈ vs) (hrv : ∀ z ∈ row, z ∈ vs) (hnu : u ∉ row) (hnd : row.Nodup)
 (a1 a2 a3 a4 : Int) (c1 c2 c3 c4 : Tok)
include hpar K El hu hrv hnu hnd
theorem in_B (a5 : Int) (c5 : Tok) (nf : Nat) (q : Nat) : ∀ (P : List Int) (c : Int) (B : List Int), P.length = q → row = P ++ c :: B → ∀ (R T : News) (m i : Nat) (gl : List GenState) (tc : Tok) (ww : Int) (tw : Tok), EmbL w T nd sd pd vs (upd r u (c :: B)) u c →
 Ctr prog1 w h₀ d os g₀ (aroundL 300) (siLoop (.ref J) fr) ((J, revIt l (idx q)) :: (fr, frO [⟨a1, .str "self" c1, .ref o⟩, ⟨a2, .str "data" c2, .ref da⟩, ⟨a3, .str "v" c3, .int u tu⟩, ⟨a4, .str "ref" c4, .int c tc⟩, ⟨a5, .str "w" c5, .int ww tw⟩] nf) :: (o, selfO dI) :: (k_addr% "b") :: (R ++ (Td ++ T))) m i gl
  (exQ (Nat × Nat × News × Int × Tok × Int × Tok) (fun x => EmbC w x.2.2.1 nd sd pd vs (upd r u row)) (fun _ => .ok .next) (fun x => (fr, frO [⟨a1, .str "self" c1, .ref o⟩, ⟨a2, .str "data" c2, .ref da⟩, ⟨a3, .str "v" c3, .int u tu⟩, ⟨a4, .str "ref" c4, .int x.2.2.2.1 x.2.2.2.2.1⟩, ⟨a5, .str "w" c5, .int x.2.2.2.2.2.1 x.2.2.2.2.2.2⟩] nf) :: (o, selfO dI) :: (k_addr% "b") :: (R ++ (Td ++ x.2.2.1))) (fun x => x.1) (fun x => x.2.1) (fun _ => gl)) := by
 induction q with
 | zero =>
   intro P c B hP hrow R T m i gl tc ww tw E
   have : P = [] := List.length_eq_zero_iff.mp hP
   subst this
   have e : row = c :: B := hrow
   walk_at "d"
   simp only [idx]
   run_tac Mine.walk [``c_rvnext_end] [] { wd := true }
   exact re_choose [3, 4, 5] 6 rfl (hR 0 _ _ _ _ _ ⟨(_, _, T, c, tc, ww, tw), by rw [e]; exact E.toC, rfl, rfl, rfl, rfl, rfl⟩)
 | succ q ih =>
   intro P c B hP hrow R T m i gl tc ww tw E
   obtain ⟨P', v, rfl⟩ : ∃ P' v, P = P' ++ [v] := by
    rcases List.eq_nil_or_concat P with h | ⟨P', v, h⟩
    ·rw [h] at hP; cases hP
    ·exact ⟨P', v, by rw [h, List.concat_eq_append]⟩
   have hP' : P'.length = q := by simpa using hP
   have hrow' : row = P' ++ v :: c :: B := by rw [hrow]; simp
   have IH := fun (R T : News) (m i : Nat) (gl : List GenState) (tc : Tok) (ww : Int) (tw : Tok) => ih P' v (c :: B) hP' hrow' R T m i gl tc ww tw
   have he : row[q]? = some v := by rw [hrow', ← hP']; simp
   have hvm : v ∈ row := by rw [hrow']; simp
   have hv : v ∈ vs := hrv v hvm
   have huv : u ≠ v := fun e => hnu (e ▸ hvm)
   have hun : v ∉ c :: B := by
    rw [hrow', List.nodup_append] at hnd
    exact (List.nodup_cons.mp hnd.2.1).1
   have hj := idx_step q
   generalize idx q = jx at IH hj
   clear ih hrow hrow' hP hP' hnd hnu hrv hvm
   walk_at "d"
   simp only [idx]
   run_tac Mine.walk [``r_rvnext, ``sd_cR] [`IH] { wd := true }
   intro x hx
   walk_at "E"
def SdP (w : World) (T : News) (nd sd pd : Addr) (vs : List Int) (r : Int → List Int) (F : List DictEntry) : Prop := EmbC w T nd sd pd vs r ∧ SdF F
abbrev IS := Nat × Nat × News × Value × List DictEntry × Nat
theorem in_A (hr : r u = []) (jj : Int) (hjj : (row.length : Int) - 1 = jj) (F : List DictEntry) (nf : Nat) (R T : News) (m i : Nat) (gl : List GenState) (E0 : SdP w T nd sd pd vs r F) :
 Ctr prog1 w h₀ d os g₀ (aroundL 300) (siLoop (.ref J) fr) ((J, revIt l jj) :: (fr, frO (⟨a1, .str "self" c1, .ref o⟩ :: ⟨a2, .str "data" c2, .ref da⟩ :: ⟨a3, .str "v" c3, .int u tu⟩ :: ⟨a4, .str "ref" c4, .none⟩ :: F) nf) :: (o, selfO dI) :: (k_addr% "b") :: (R ++ (Td ++ T))) m i gl
  (exQ IS (fun x => SdP w x.2.2.1 nd sd pd vs (upd r u row) x.2.2.2.2.1) (fun _ => .ok .next) (fun x => (fr, frO (⟨a1, .str "self" c1, .ref o⟩ :: ⟨a2, .str "data" c2, .ref da⟩ :: ⟨a3, .str "v" c3, .int u tu⟩ :: ⟨a4, .str "ref" c4, x.2.2.2.1⟩ :: x.2.2.2.2.1) x.2.2.2.2.2) :: (o, selfO dI) :: (k_addr% "b") :: (R ++ (Td ++ x.2.2.1))) (fun x => x.1) (fun x => x.2.1) (fun _ => gl)) := by
 obtain ⟨E, hF⟩ := E0
 rcases List.eq_nil_or_concat row with h | ⟨P, v, h⟩
 ·have e : jj = -1 := by rw [← hjj, h]; rfl
  have hu0 : upd r u row = r := by
   rw [h, ← hr]; funext z; unfold upd; split
   ·rename_i e; rw [e]
   ·rfl
  rw [hu0]
  subst e
  walk_at "d"
  run_tac Mine.walk [``c_rvnext_end] [] { wd := true }
  exact re_choose [3, 4, 5] 6 rfl (hR 0 _ _ _ _ _ ⟨(_, _, T, _, F, nf), ⟨E, hF⟩, rfl, rfl, rfl, rfl, rfl⟩)
 ·rw [List.concat_eq_append] at h
  have he : row[P.length]? = some v := by rw [h]; simp
  have hvm : v ∈ row := by rw [h]; simp
  have hv : v ∈ vs := hrv v hvm
  have huv : u ≠ v := fun e => hnu (e ▸ hvm)
  have e : jj = Int.ofNat P.length := by rw [← hjj, h]; simp
  subst e
  have IH := fun (a5 : Int) (c5 : Tok) (nf : Nat) (R T : News) (m i : Nat) (gl : List GenState) (tc : Tok) (ww : Int) (tw : Tok) => in_B w b1 b2 hpar h₀ K d os g₀ Td o dI gd nd sd pd t1 t2 t3 t4 t5 n1 h1 h2 h3 h4 h5 da vs r J fr l row El u tu hu hrv hnu hnd a1 a2 a3 a4 c1 c2 c3 c4 a5 c5 nf P.length P v [] rfl h R T m i gl tc ww tw
  have hj := idx_step P.length
  generalize idx P.length = jx at IH hj
  rcases hF with rfl | ⟨a5, c5, ww, tw, rfl⟩
  ·clear hnd hnu hrv hvm hjj h
   generalize P.length = q at *
   walk_at "d"
   run_tac Mine.walk [``r_rvnext, ``sd_e] [`IH] { wd := true }
   intro x hx
   walk_at "ci"
  ·clear hnd hnu hrv hvm hjj h
   generalize P.length = q at *
   walk_at "d"
   run_tac Mine.walk [``r_rvnext, ``sd_e] [`IH] { wd := true }
   intro x hx
   walk_at "ci"
end
def pre (f : Int → List Int) (l : List Int) : Int → List Int := fun v => if v ∈ l then f v else []
theorem pre_step (f : Int → List Int) (l : List Int) (k : Int) : upd (pre f l) k (f k) = pre f (l ++ [k]) := by
 funext z
 unfold upd pre
 by_cases h : z = k
 ·subst h; simp
 ·simp [h]
section
variable (Td : News)
 (o dI gd nd sd pd : Addr) (t1 t2 t3 t4 t5 n1 : Nat) (h1 h2 h3 h4 h5 : Int) (da : Addr) (vs : List Int) (fz : Int → List Int) (Ed : Rz w Td da vs fz)
 (vo : List Int) (hvo : ∀ v ∈ vs, v ∈ vo) (hrv : ∀ v ∈ vs, ∀ z ∈ fz v, z ∈ vo) (hnu : ∀ v ∈ vs, v ∉ fz v) (hnd : ∀ v ∈ vs, (fz v).Nodup)
 (I fr : Addr) (a1 a2 : Int) (c1 c2 : Tok)
include hpar K Ed hvo hrv hnu hnd
theorem sd_loop (a3 a4 : Int) (c3 c4 : Tok) (q : Nat) : ∀ (j : Nat), j + q = vs.length → ∀ (R T : News) (m i : Nat) (gl : List GenState) (k0 : Int) (t0 : Tok) (rv : Value) (F : List DictEntry) (nf : Nat), SdP w T nd sd pd vo (pre fz (vs.take j)) F →
 Ctr prog1 w h₀ d os g₀ (aroundL 290) (sdLoop (.ref I) fr) ((I, keyIt da j (esOf Td da).length (nOf Td da)) :: (fr, frO (⟨a1, .str "self" c1, .ref o⟩ :: ⟨a2, .str "data" c2, .ref da⟩ :: ⟨a3, .str "v" c3, .int k0 t0⟩ :: ⟨a4, .str "ref" c4, rv⟩ :: F) nf) :: (o, selfO dI) :: (k_addr% "b") :: (R ++ (Td ++ T))) m i gl
  (k_addr% "bs") := by
 obtain ⟨L, gr, Dr, hL⟩ : ∃ L, getL Td da = some (dictO (esOf Td da) (nOf Td da)) ∧ DE prog1 w (tab vs L) (esOf Td da) ∧ Lz Td L vs fz := by
  obtain ⟨L, er, nr, g, D, l⟩ := Ed
  exact ⟨L, ld_of g, by rw [esOf_eq g]; exact D, l⟩
 have hlen : (esOf Td da).length = vs.length := by have := Dr.pairs.length; simpa [tab] using this
 induction q with
 | zero =>
   intro j hj R T m i gl k0 t0 rv F nf E
   have he := keyIt_end (esOf Td da) j (by omega)
   walk_at "do"
   rw [ht] at E
   walk_at "d"
   run_tac Mine.walk [``q_keynext_end] [] { wd := true }
   exact re_choose [4, 5] 6 rfl (hR 0 _ _ _ _ _ ⟨(_, _, T), E.1, rfl, rfl, rfl, rfl, rfl⟩)
 | succ q ih =>
   intro j hj R T m i gl k0 t0 rv F nf E
   obtain ⟨hs, k, t, b, pk, nk, he, hkm, hkn, ht, gk, ek⟩ := dc_turn (esOf Td da) (nOf Td da) vs L fz Dr hL hlen j (by omega)
   have hr0 : pre fz (vs.take j) k = [] := if_neg hkn
   have hp := pre_step fz (vs.take j) k
   rw [← ht] at hp
   have IH := fun R T m i gl k0 t0 rv F nf (E : SdP w T nd sd pd vo (upd (pre fz (vs.take j)) k (fz k)) F) => ih (j + 1) (by omega) R T m i gl k0 t0 rv F nf (by rw [← hp]; exact E)
   generalize pre fz (vs.take j) = rj at *
   obtain ⟨jj, hjj⟩ : ∃ jj, ((fz k).length : Int) - 1 = jj := ⟨_, rfl⟩
   have hk0 := hvo k hkm
   have hk1 := hrv k hkm
   have hk2 := hnu k hkm
   have hk3 := hnd k hkm
   clear ih hj hp ht hlen hL hvo hrv hnu hnd
   walk_at "d"
   run_tac Mine.walk [``q_keynext, ``r_lrev, ``r_item, ``in_A] [`IH] { wd := true }
   intro x hx
   walk_at "E"
end
section
variable (Td : News)
 (o dI gd nd sd pd : Addr) (t1 t2 t3 t4 t5 n1 : Nat) (h1 h2 h3 h4 h5 : Int) (da : Addr) (vs : List Int) (fz : Int → List Int) (Ed : Rz w Td da vs fz)
 (vo : List Int) (hvo : ∀ v ∈ vs, v ∈ vo) (hrv : ∀ v ∈ vs, ∀ z ∈ fz v, z ∈ vo) (hnu : ∀ v ∈ vs, v ∉ fz v) (hnd : ∀ v ∈ vs, (fz v).Nodup)
include hpar K Ed hvo hrv hnu hnd
theorem sd_loop0 (I fr : Addr) (a1 a2 : Int) (c1 c2 : Tok) (R T : News) (m i : Nat) (gl : List GenState) (nf : Nat) (E : EmbC w T nd sd pd vo (fun _ => [])) :
 Ctr prog1 w h₀ d os g₀ (aroundL 290) (sdLoop (.ref I) fr) ((I, keyIt da 0 (esOf Td da).length (nOf Td da)) :: (fr, frO [⟨a1, .str "self" c1, .ref o⟩, ⟨a2, .str "data" c2, .ref da⟩] nf) :: (o, selfO dI) :: (k_addr% "b") :: (R ++ (Td ++ T))) m i gl
  (k_addr% "bs") := by
 obtain ⟨L, gr, Dr, hL⟩ : ∃ L, getL Td da = some (dictO (esOf Td da) (nOf Td da)) ∧ DE prog1 w (tab vs L) (esOf Td da) ∧ Lz Td L vs fz := by
  obtain ⟨L, er, nr, g, D, l⟩ := Ed
  exact ⟨L, ld_of g, by rw [esOf_eq g]; exact D, l⟩
 have hlen : (esOf Td da).length = vs.length := by have := Dr.pairs.length; simpa [tab] using this
 rcases Nat.eq_zero_or_pos vs.length with hz0 | hz1
 ·have he := keyIt_end (esOf Td da) 0 (by omega)
  have e : pre fz vs = fun _ => [] := by
   have : vs = [] := List.length_eq_zero_iff.mp hz0
   rw [this]; funext z; simp [pre]
  rw [e]
  walk_at "d"
  run_tac Mine.walk [``q_keynext_end] [] { wd := true }
  exact re_choose [4, 5] 6 rfl (hR 0 _ _ _ _ _ ⟨(_, _, T), E, rfl, rfl, rfl, rfl, rfl⟩)
 ·obtain ⟨hs, k, t, b, pk, nk, he, hkm, hkn, ht, gk, ek⟩ := dc_turn (esOf Td da) (nOf Td da) vs L fz Dr hL hlen 0 hz1
  have hp := pre_step fz (vs.take 0) k
  rw [← ht] at hp
  have e0 : pre fz (vs.take 0) = fun _ => [] := by funext z; simp [pre]
  rw [e0] at hp
  have IH := fun a3 a4 c3 c4 R T m i gl k0 t0 rv F nf (E : SdP w T nd sd pd vo (upd (fun _ => []) k (fz k)) F) => sd_loop w b1 b2 hpar h₀ K d os g₀ Td o dI gd nd sd pd t1 t2 t3 t4 t5 n1 h1 h2 h3 h4 h5 da vs fz Ed vo hvo hrv hnu hnd I fr a1 a2 c1 c2 a3 a4 c3 c4 (vs.length - 1) 1 (by omega) R T m i gl k0 t0 rv F nf (by rw [← hp]; exact E)
  have E0 : SdP w T nd sd pd vo (fun _ => []) [] := ⟨E, .inl rfl⟩
  have hr0 : (fun _ => [] : Int → List Int) k = [] := rfl
  generalize (fun _ => [] : Int → List Int) = rj at *
  obtain ⟨jj, hjj⟩ : ∃ jj, ((fz k).length : Int) - 1 = jj := ⟨_, rfl⟩
  have hk0 := hvo k hkm
  have hk1 := hrv k hkm
  have hk2 := hnu k hkm
  have hk3 := hnd k hkm
  clear E hp ht hlen hL hvo hrv hnu hnd e0
  walk_at "d"
  run_tac Mine.walk [``q_keynext, ``r_lrev, ``r_item, ``in_A] [`IH] { wd := true }
  intro x hx
  walk_at "E"
theorem sd_all (R T : News) (m i : Nat) (gl : List GenState) (E : EmbC w T nd sd pd vo (fun _ => [])) :
 Ctr prog1 w h₀ d os g₀ (aroundL 280) (.call (.ref 781) ⟨[.ref o, .ref da], []⟩) ((o, selfO dI) :: (k_addr% "b") :: (R ++ (Td ++ T))) m i gl
  (exQ (Nat × Nat × News) (fun x => EmbC w x.2.2 nd sd pd vo (pre fz vs)) (k_addr% "s") (fun x => (o, selfO dI) :: (k_addr% "b") :: (R ++ (Td ++ x.2.2))) (fun x => x.1) (fun x => x.2.1) (fun _ => gl)) := by
 have IH := fun I fr a1 a2 c1 c2 R m i gl nf => sd_loop0 w b1 b2 hpar h₀ K d os g₀ Td o dI gd nd sd pd t1 t2 t3 t4 t5 n1 h1 h2 h3 h4 h5 da vs fz Ed vo hvo hrv hnu hnd I fr a1 a2 c1 c2 R T m i gl nf E
 clear hvo hrv hnu hnd
 walk_at "d"
 run_tac Mine.walk [``r_diterY] [`IH] { wd := true }
 intro x hx
 walk_at "E"
end
theorem ints_ivs {vs : List Value} {ns : List Int} (h : IntsAre vs ns) : ∃ qs : List (Int × Tok), vs = ivs qs ∧ qs.map Prod.fst = ns := by
 induction h with
 | nil => exact ⟨[], rfl, rfl⟩
 | cons n t _ ih =>
   obtain ⟨qs, e1, e2⟩ := ih
   exact ⟨(n, t) :: qs, by rw [e1]; rfl, by rw [← e2]; rfl⟩
theorem k_lsort (w : World) (h₀ : Heap) (d : Drawn) (os : OsState) (g₀ : List GenState) (A : Around) (R : News) (m i : Nat) (gl : List GenState) (l : Addr) (ps : List (Int × Tok)) (n : Nat) (h64 : ps.length < 64) :
 Ctr prog1 w h₀ d os g₀ A (.call (.builtin "list.sort") ⟨[.ref l], []⟩) (k_addr% "bm") m i gl
  (exQ (List (Int × Tok) × Nat) (fun x => (x.1.map Prod.fst).Perm (ps.map Prod.fst) ∧ x.1.length = ps.length) (k_addr% "s") (fun x => (l, listO (ivs x.1) x.2) :: R) (fun _ => m + 2) (fun _ => i) (fun _ => gl)) := by
 intro h RR M hs H
 have ho : h.get? l = some (seqObj "list" (ivs ps).toArray n) := M.head
 refine codeAny_call_builtin slot_list_sort.plain entry_list_sort (slot_list_sort.check _ _ _ _ _ _ _ _ ⟨_, M.head, rfl⟩ (args_list_sort _) (list_sort_tree (s := ⟨h, ⟨gcat g₀ gl⟩, d, i, os⟩) ho (ivs_ints ps) (by simpa [ivs] using h64) ?_))
 intro out ns' hI hp _
 obtain ⟨qs, e1, e2⟩ := ints_ivs hI
 have M1 := M.update (f := Obj.mapSeq fun _ => #[]) (i := 0) rfl rfl
 have M2 := M1.alloc (o := seqObj "tuple" (ivs ps).toArray 0) rfl
 have M3 := M2.alloc (o := seqObj "list" #[] 0) rfl
 have M4 := (M3.update (f := Obj.mapSeq fun _ => out) (i := 2) rfl rfl).drop1.drop1
 obtain ⟨e, he⟩ : ∃ e, Obj.mapSeq (fun _ => out) (Obj.mapSeq (fun _ => #[]) (listO (ivs ps) n)) = listO (ivs qs) e := by
  obtain ⟨ol⟩ := out
  simp only at e1
  subst e1
  exact ⟨_, rfl⟩
 change Mm h₀ _ ((l, Obj.mapSeq (fun _ => out) (Obj.mapSeq (fun _ => #[]) (listO (ivs ps) n))) :: R) at M4
 rw [he] at M4
 refine H _ _ _ _ _ _ ⟨(qs, e), ⟨by rw [e2]; exact hp, ?_⟩, rfl, rfl, rfl, rfl, rfl⟩ M4 ?_
 ·have := hp.length_eq
  rw [← e2] at this
  simpa using this
 ·subst hs
  unfold sortedHeap
  rw [Heap.size_update, size_push', size_push', Heap.size_update]
section
variable (a : Addr) (es : List DictEntry) (n : Nat)
 (hall : ∀ e ∈ es, ∃ hs k t b, e = ⟨hs, .int k t, .ref b⟩)
include K
theorem y_ext_end (R : News) (m i : Nat) (gl : List GenState) (L I : Addr) (j : Nat) (xs : List Value) (nL : Nat) (hlt : ¬ Int.ofNat j < 0) (he : (⟨es⟩ : Array DictEntry)[j]? = none) :
 Ctr prog1 w h₀ d os g₀ (aroundL 480) (k_addr% "cS") (k_addr% "aI") m i gl
  (oneQ (.ref L) ((L, listO xs nL) :: (a, dictO es n) :: R) (m + 2) i gl) := by
 walk_at "d"
 walk_at "t"
 exact re_choose [3, 4] 5 rfl (hR 0 _ _ _ _ _ ⟨rfl, rfl, rfl, rfl, rfl⟩)
theorem y_ext_go (R : News) (m i : Nat) (gl : List GenState) (L I : Addr) (j : Nat) (xs : List Value) (nL : Nat) (hs k : Int) (t : Tok) (b : Addr) (zs : List Value) (hlt : ¬ Int.ofNat j < 0) (he : (⟨es⟩ : Array DictEntry)[j]? = some ⟨hs, .int k t, .ref b⟩)
 (hz : ¬ sizeLine + 1 < (PySem.W.R.concatR xs (.int k t)).length)
 (IH : ∀ nL', Ctr prog1 w h₀ d os g₀ (aroundL 480) (k_addr% "cS") ((I, keyIt a (j + 1) es.length n) :: (L, listO (PySem.W.R.concatR xs (.int k t)) nL') :: (a, dictO es n) :: R) m i gl
  (k_addr% "dm")) :
 Ctr prog1 w h₀ d os g₀ (aroundL 480) (k_addr% "cS") (k_addr% "aI") m i gl
  (k_addr% "dm") := by
 walk_at "d"
 run_tac Mine.walk [] [`IH] { wd := true }
 intro x
 walk_at "bn"
include hall
theorem y_ext (hlen : es.length < 1000) (R : News) (m i : Nat) (gl : List GenState) (L I : Addr) : ∀ (q j : Nat) (xs : List Value) (nL : Nat), j + q = es.length → xs.length < 1000 - q →
 Ctr prog1 w h₀ d os g₀ (aroundL 480) (k_addr% "cS") (k_addr% "aI") m i gl
  (exQ Nat (fun _ => True) (fun _ => .ok (.ret (.ref L))) (fun x => (L, listO (xs ++ (es.drop j).map (·.key)) x) :: (a, dictO es n) :: R) (fun _ => m + 2) (fun _ => i) (fun _ => gl)) := by
 intro q
 induction q with
 | zero =>
   intro j xs nL hj hx
   rw [List.drop_eq_nil_of_le (show es.length ≤ j by omega), List.map_nil, List.append_nil]
   refine (y_ext_end w h₀ K d os g₀ a es n R m i gl L I j xs nL (by simp) (by simp; omega)).mono ?_
   walk_at "af"
   exact ⟨nL, trivial, rfl, rfl, rfl, rfl, rfl⟩
 | succ q ih =>
   intro j xs nL hj hx
   have hjl : j < es.length := by omega
   obtain ⟨hs, k, t, b, hee⟩ := hall es[j] (List.getElem_mem hjl)
   have cc : PySem.W.R.concatR xs (.int k t) = xs ++ [.int k t] := by walk_at "by"
   have ee : xs ++ (es.drop j).map (·.key) = PySem.W.R.concatR xs (.int k t) ++ (es.drop (j + 1)).map (·.key) := by rw [cc, List.drop_eq_getElem_cons hjl, hee]; simp
   rw [ee]
   refine y_ext_go w h₀ K d os g₀ a es n R m i gl L I j xs nL hs k t b _ (by simp) (by rw [← hee]; simp [hjl]) ?_ fun nL' => ih (j + 1) _ nL' (by omega) (by rw [cc]; simp; omega)
   rw [cc]; simp; have : sizeLine ≥ 1000 := by decide +kernel
   omega
theorem x_collect (ks : List Value) (hps : es.map (·.key) = ks) (hlen : es.length < 500) (R : News) (m i : Nat) (gl : List GenState) :
 Ctr prog1 w h₀ d os g₀ (aroundL 440) (.builtin "proto.collect" ⟨[.ref a], []⟩) ((a, dictO es n) :: R) m i gl
  (exQ (Nat × Nat) (fun _ => True) (k_addr% "dr") (fun x => (m, listO ks x.1) :: (a, dictO es n) :: R) (fun x => x.2) (fun _ => i) (fun _ => gl)) := by
 have E := fun R m i gl L I nL => y_ext w h₀ K d os g₀ a es n hall (by omega) R m i gl L I es.length 0 [] nL (by omega) (by simp; omega)
 rw [List.drop_zero, hps, List.nil_append] at E
 walk_at "d"
 run_tac Mine.walk [] [`E] { wd := true }
 intro x
 exact hR 0 _ _ _ _ _ ⟨(x, _), trivial, rfl, rfl, rfl, rfl, rfl⟩
theorem x_sorted (ps : List (Int × Tok)) (hps : es.map (·.key) = ivs ps) (hlen : es.length < 500) (h64 : ps.length < 64) (R : News) (m i : Nat) (gl : List GenState) :
 Ctr prog1 w h₀ d os g₀ (aroundL 400) (.builtin "sorted" ⟨[.ref a], []⟩) ((a, dictO es n) :: R) m i gl
  (exQ (Nat × Addr × Nat × List (Int × Tok)) (fun x => (x.2.2.2.map Prod.fst).Perm (ps.map Prod.fst) ∧ x.2.2.2.length = ps.length) (fun x => .ok (.ret (.ref x.2.1))) (fun x => [(x.2.1, listO (ivs x.2.2.2) x.2.2.1)] ++ (a, dictO es n) :: R) (fun x => x.1) (fun _ => i) (fun _ => gl)) := by
 intro h RR M hs H
 refine codeAny_builtin entry_sorted ?_
 unfold Builtin.«sorted»
 refine wpAny_bind (m := checkCount "sorted" 1 1 _) (wpAny_pure ?_)
 unfold collect
 refine wpAny_bind (wpAny_bind (wpAny_runValue (codeAny_le (A₀ := aroundL 440) (x_collect w h₀ K d os g₀ a es n hall _ hps hlen R m i gl h _ M hs ?_) rfl ?_ (.inl rfl) (.inl rfl) ?_)))
 ·rintro _ _ _ _ _ h' ⟨x, -, rfl, rfl, rfl, rfl, rfl⟩ M' hs'
  refine wpAny_bind (wpAny_load M'.head ?_)
  refine wpAny_pure ?_
  refine wpAny_bind (wpAny_newList ?_)
  have M2 := M'.drop1.alloc (o := listO (ivs ps) 0) rfl
  refine wpAny_bind (wpAny_holding (wpAny_call (k_lsort w h₀ d os g₀ _ _ _ _ _ _ ps 0 h64 _ _ M2 rfl ?_)))
  rintro _ _ _ _ _ h2 ⟨y, hy, rfl, rfl, rfl, rfl, rfl⟩ M3 hs3
  refine wpAny_pure ?_
  exact H _ _ _ _ _ _ ⟨(_, _, y.2, y.1), hy, rfl, rfl, rfl, rfl, rfl⟩ M3 hs3
 ·exact Nat.le_of_ble_eq_true rfl
 ·exact Nat.le_of_ble_eq_true rfl
end
theorem Good.nil : Good Gr.nil [] (fun _ => []) :=
 ⟨rfl, rfl, rfl, List.nodup_nil, fun _ h => absurd h List.not_mem_nil, fun _ _ => rfl, fun _ h => absurd h List.not_mem_nil, fun _ h => absurd h List.not_mem_nil, fun _ h => absurd h List.not_mem_nil, fun _ h => absurd h List.not_mem_nil, fun _ h => absurd h List.not_mem_nil, fun _ h => absurd h List.not_mem_nil⟩
theorem Good.addVs : ∀ (l : List Int) {G : Gr} {vs : List Int} {r : Int → List Int}, Good G vs r → (vs ++ l).Nodup → (∀ v ∈ l, Uo v) → Good (G.addVs l) (vs ++ l) r
 | [], G, vs, r, H, _, _ => by rw [List.append_nil]; exact H
 | v :: l, G, vs, r, H, nd, ho => by
   have e : vs ++ v :: l = (vs ++ [v]) ++ l := by simp
   rw [e] at nd ⊢
   have hv : v ∉ vs := fun h => (List.nodup_append.mp (List.nodup_append.mp nd).1).2.2 v h v (by simp) rfl
   exact Good.addVs l (H.addV hv (ho v (.head _))) nd fun z hz => ho z (.tail _ hz)
theorem Ctr.reP {prog : Program} {w : World} {h₀ : Heap} {d : Drawn} {os : OsState} {g₀ : List GenState} {A : Around} {c : Code} {n1 n2 : News} {m i : Nat} {gl : List GenState} {Q Q' : Post}
  (C : Ctr prog w h₀ d os g₀ A c n1 m i gl Q) (hp : n2.Perm n1) (hQ : ∀ r n m i gl, Q r n m i gl → ∃ n', Q' r n' m i gl ∧ n.Perm n') : Ctr prog w h₀ d os g₀ A c n2 m i gl Q' := by
 intro h RR M hs H
 refine C h RR (M.perm hp) hs ?_
 intro r n m i gl h' q M' hs'
 obtain ⟨n', q', p⟩ := hQ r n m i gl q
 exact H r n' m i gl h' q' (M'.perm p) hs'
theorem perm_of_count {l l' : News} (h : ∀ (P : Addr × Obj → Bool), l.countP P = l'.countP P) : l.Perm l' := by
 classical
 exact List.perm_iff_count.mpr fun a => h _
section
variable (R T Te : News) (m i : Nat) (gl : List GenState) (rd : Addr) (vs : List Int) (r : Int → List Int) (E : Rz w T rd vs r)
include K E
theorem r_sortedZ (hvs : vs.length < 64) : Ctr prog1 w h₀ d os g₀ (aroundL 400) (.builtin "sorted" ⟨[.ref rd], []⟩) (R ++ (T ++ Te)) m i gl
  (k_addr% "bA") := by
 walk_at "ag"
 obtain ⟨ps, q1, q2⟩ := keys_of D
 walk_at "ad"
 have hl := D.pairs.length
 have e1 : er.length = vs.length := by simpa [tab] using hl
 have e2 : ps.length = vs.length := by rw [← q2]; simp
 refine (Ctr.readE (getL_app g) fun rest => x_sorted w h₀ K d os g₀ rd er nr hr ps q1 (by omega) (by omega) rest m i gl).mono ?_
 walk_at "bU"
 exact ⟨x, by rw [← q2]; exact hx.1, rfl, rfl, rfl, rfl, rfl⟩
end
section
variable (o dI gd nd sd pd : Addr) (t1 t2 t3 t4 t5 n1 : Nat) (h1 h2 h3 h4 h5 : Int) (m i : Nat) (gl : List GenState)
include hpar K
theorem e_nodesS (l : Addr) (qs : List (Int × Tok)) (n nn ns np : Nat) (R : News) (hU : ∀ v ∈ qs.map Prod.fst, Uo v) (hnd : (qs.map Prod.fst).Nodup) :
 Ctr prog1 w h₀ d os g₀ (aroundL 350) (k_addr% "cF") ((l, listO (ivs qs) n) :: (o, selfO dI) :: (k_addr% "b") :: (nd, dictO [] nn) :: (sd, dictO [] ns) :: (pd, dictO [] np) :: R) m i gl
  (exQ (Nat × Nat × News) (fun x => EmbC w x.2.2 nd sd pd (qs.map Prod.fst) (fun _ => [])) (k_addr% "s") (k_addr% "v") (fun x => x.1) (fun x => x.2.1) (fun _ => gl)) := by
 intro h RR M hs H
 refine e_nodes0 w b1 b2 hpar h₀ K d os g₀ o dI gd nd sd pd t1 t2 t3 t4 t5 n1 h1 h2 h3 h4 h5 l qs n R m i gl nn ns np (fun p hp => hU _ (List.mem_map_of_mem hp)) hnd h RR M hs ?_
 walk_at "bW"
 refine H _ _ _ _ _ h' ⟨(x.1, x.2.1, x.2.2.1), ⟨x.2.2.2, _, hx, ?_⟩, rfl, rfl, rfl, rfl, rfl⟩ M'.drop1 hs'
 have := Good.nil.addVs (qs.map Prod.fst) (by simpa using hnd) hU
 rwa [List.nil_append] at this
theorem e_dataS (R Tr Te T : News) (vs : List Int) (r : Int → List Int) (E : EmbC w Te nd sd pd vs r) :
 Ctr prog1 w h₀ d os g₀ (aroundL 330) (k_addr% "dg") ((o, selfO dI) :: (k_addr% "b") :: ((R ++ (Tr ++ Te)) ++ T)) m i gl
  (exQ (k_addr% "cB") (fun x => Rz w x.2.2.2.1 x.2.2.1 vs x.2.2.2.2.1 ∧ RotAll vs x.2.2.2.2.1 r ∧ (GB gl → GB x.2.2.2.2.2))
  (k_addr% "bv") (fun x => (o, selfO dI) :: (k_addr% "b") :: ((R ++ (Tr ++ Te)) ++ (x.2.2.2.1 ++ T))) (fun x => x.1) (fun x => x.2.1) (fun x => x.2.2.2.2.2)) := by
 refine (e_data w b1 b2 hpar h₀ K d os g₀ (R ++ (Tr ++ T)) Te m i gl o dI gd nd sd pd t1 t2 t3 t4 t5 n1 h1 h2 h3 h4 h5 vs r E).reP ?_ ?_
 ·refine perm_of_count fun P => ?_
  walk_at "cs"; omega
 ·walk_at "bU"
  refine ⟨_, ⟨x, hx, rfl, rfl, rfl, rfl, rfl⟩, perm_of_count fun P => ?_⟩
  walk_at "cs"; omega
end
section
variable (R Ta Tb T : News) (m i : Nat) (gl : List GenState) (a b : Addr) (vo vs : List Int) (f g : Int → List Int) (Ea : Rz w Ta a vo f) (Eb : Rz w Tb b vs g) (hlen : vo.length = vs.length) (hsub : ∀ u ∈ vo, u ∈ vs) (hfg : ∀ u ∈ vo, f u = g u)
include K Ea Eb hlen hsub hfg
end
theorem rm_exF {V : XV} {g₀ : List GenState} {n n' : Nat} {c : Code} {md : Option (List Frame)} {κ : Kont} {t : Sem PySem.Fin} {news : News} {m i : Nat} {gl : List GenState} {α : Type} (f : α → News) (P : α → Prop) (hs : ∀ h, Mm V.h₀ h news → ∃ p, Mm V.h₀ h (f p) ∧ P p)
  (x : ∀ p, P p → RM V g₀ n' c md κ t (f p) m i gl) : RM V g₀ n c md κ t news m i gl := fun h D => by
 obtain ⟨p, M, q⟩ := hs h D.mm
 exact x p q h ⟨M, D.size⟩
theorem rm_ctrF {V : XV} {g₀ : List GenState} {c : Code} {κ : Kont} {c' : Code} {hd : Option Value} {g : Bool} {l : List Value} {kk : Result → Sem PySem.Fin} {news : News} {m i : Nat} {gl : List GenState} {A₀ : Around} {Q : Post} (n k : Nat)
  (C : Ctr V.prog V.w V.h₀ V.d V.os g₀ A₀ c' news m i gl Q) (hh : A₀.handled = (k_addr% "aH").handled) (h1 : Nat.ble (k_addr% "aH").depth A₀.depth = true) (h2 : A₀.frames = (k_addr% "aH").frames)
  (h3 : A₀.guards = none) (h4 : Nat.ble (k_addr% "aH").units A₀.units = true) (h5 : okMark hd = true)
  (x : ∀ r news' m' i' gl', Q r news' m' i' gl' → RM V g₀ k c none κ (kk r) news' m' i' gl') : RM V g₀ n c none κ (.call c' hd g l kk) news m i gl :=
 fun h D => mg_call h5 (codeAny_le (C h _ D.mm D.size fun r news' m' i' gl' h' q M hs => mg_back (x r news' m' i' gl' q h' ⟨M, hs⟩)) hh (Nat.le_of_ble_eq_true h1) (.inr h2) (.inl h3) (Nat.le_of_ble_eq_true h4))
end Mine
namespace Mine
open Lean Meta Elab Tactic PySem PySem.W PySem.W.X
def callF (nm : Name) : TacticM Unit := do
 let g ← getMainGoal
 g.withContext do
  let some d := (← getLCtx).findFromUserName? nm | throwError "no {nm}"
  let T ← whnfR (← instantiateMVars (← g.getType))
  unless T.isAppOfArity ``RM 11 do throwError "no run"
  let a := T.getAppArgs
  let t ← kw a[6]!
  unless t.isAppOf ``PySem.Sem.call do throwError "no call"
  let ta := t.getAppArgs
  let CT ← whnfR (← instantiateMVars d.type)
  unless CT.isAppOfArity ``Ctr 13 do throwError "no contract"
  let ca := CT.getAppArgs
  let A₀ := ca[6]!
  let Q := ca[12]!
  let kk := ta[ta.size - 1]!
  let hd := ta[ta.size - 4]!
  let tA := mkConst ``PySem.Around
  let A := mkApp2 (mkConst ``PySem.Around.mark) (mkApp2 (mkConst ``PySem.Around.under) (mkAppN (mkConst ``aroundOf) #[a[0]!, mkConst ``Bool.true, a[5]!]) a[3]!) hd
  let z := mkRawNatLit 0
  let tN := mkConst ``Nat
  let tG := mkApp (mkConst ``List [0]) (mkConst ``GenState)
  let xT ← withLocalDeclD `r (mkConst ``Result) fun r => withLocalDeclD `news' (mkConst ``News) fun nw => withLocalDeclD `m' tN fun m' => withLocalDeclD `i' tN fun i' => withLocalDeclD `gl' tG fun gl' => do
   let body ← mkArrow (mkAppN Q #[r, nw, m', i', gl']).headBeta (mkAppN (mkConst ``RM) #[a[0]!, a[1]!, z, a[3]!, mkApp (mkConst ``Option.none [0]) (mkApp (mkConst ``List [0]) (mkConst ``Frame)), a[5]!, (mkApp kk r).headBeta, nw, m', i', gl'])
   mkForallFVars #[r, nw, m', i', gl'] body
  let x ← mkFreshExprSyntheticOpaqueMVar xT
  let rfB := mkApp2 (mkConst ``Eq.refl [1]) (mkConst ``Bool) (mkConst ``Bool.true)
  let rf (p : Name) (ty : Lean.Expr) := mkApp2 (mkConst ``Eq.refl [1]) ty (mkApp (mkConst p) A₀)
  let tO (t : Lean.Expr) := mkApp (mkConst ``Option [0]) t
  let pf := mkAppN (mkConst ``rm_ctrF) #[a[0]!, a[1]!, a[3]!, a[5]!, ta[ta.size - 5]!, hd, ta[ta.size - 3]!, ta[ta.size - 2]!, kk, a[7]!, a[8]!, a[9]!, a[10]!, A₀, Q, z, z, d.toExpr,
   rf ``PySem.Around.handled (tO (mkConst ``Value)), rfB, rf ``PySem.Around.frames (tO (mkApp (mkConst ``List [0]) (mkConst ``PySem.Env))), rf ``PySem.Around.guards (tO (mkApp (mkConst ``List [0]) (mkConst ``Code))), rfB, rfB, x]
  let _ := tA
  g.assign pf
  replaceMainGoal [x.mvarId!]
end Mine
namespace Mine
open PySem PySem.Spec PySem.Calls PyProof.Rows PySem.W PySem.W.X
def CtrG (prog : Program) (w : World) (h₀ : Heap) (kt : KT) (d : Drawn) (os : OsState) (g₀ : List GenState) (A : Around) (c : Code) (news : News) (m i : Nat) (gl : List GenState) (Q : Post) : Prop :=
 ∀ h (R : Result → Shared → Prop), Mm h₀ h news → h.objs.size = m →
   (k_addr% "bg") →
   codeNF ⟨prog, w, h₀, 0, kt, [], A, R, d, 1, os⟩ A c R ⟨h, ⟨gcat g₀ gl⟩, d, i, os⟩
theorem CtrG.ofQ {prog : Program} {w : World} {h₀ : Heap} {d : Drawn} {os : OsState} {g₀ : List GenState} {A : Around} {c : Code} {news : News} {m i : Nat} {gl : List GenState} {Q : Post} (kt : KT)
  (x : ∀ R, (∀ n r news' m' i' gl', Q r news' m' i' gl' → RE ⟨prog, w, h₀, 0, kt, [], A, R, d, 1, os⟩ g₀ n r news' m' i' gl') →
   RM ⟨prog, w, h₀, 0, kt, [], A, R, d, 1, os⟩ g₀ 0 c none .base (PySem.W.ZFast.mineDS (A.under c) c) news m i gl) : CtrG prog w h₀ kt d os g₀ A c news m i gl Q := by
 intro h R M hs H
 have y := (x R (fun n r news' m' i' gl' q h' D => H r news' m' i' gl' h' q D.mm D.size) h ⟨M, hs⟩).2 (Nat.succ_ne_zero 0)
 rw [← PySem.W.ZFast.mineDS_eq] at y
 exact code_at (denS_at y)
abbrev LA := Int × Int × Int × Tok × Int × Tok × Nat × List DictEntry × Nat
abbrev aroundC : Around := ⟨none, 340, some [], none, 10⟩
theorem nd425 : [(4 : Int), 2, 5].Nodup := by decide
theorem uo425 : ∀ v ∈ [(4 : Int), 2, 5], Uo v := by
 intro v hv
 walk_at "dy"
 unfold Uo
 omega
section
variable (o dI gd nd sd pd : Addr) (t1 t2 t3 t4 t5 n1 : Nat) (h1 h2 h3 h4 h5 : Int) (m i : Nat) (gl : List GenState)
include hpar K
end
theorem r_sortedC (w : World) (h₀ : Heap) (K : KT.Holds h₀ 1 0 (kt1 w)) (d : Drawn) (os : OsState) (g₀ : List GenState) (R T Te : News) (m i : Nat) (gl : List GenState) (rd : Addr) (vs : List Int) (r : Int → List Int) (E : Rz w T rd vs r) (hvs : vs.length < 64) : Ctr prog1 w h₀ d os g₀ (aroundL 390) (.call (.builtin "sorted") ⟨[.ref rd], []⟩) (R ++ (T ++ Te)) m i gl
  (k_addr% "bA") := by
 walk_at "d"
 run_tac Mine.walk [``r_sortedZ] [] { wd := true }
 intro x hx
 walk_at "E"
theorem Ctr.reD {prog : Program} {w : World} {h₀ : Heap} {d : Drawn} {os : OsState} {g₀ : List GenState} {A : Around} {c : Code} {n1 n2 : News} {m i : Nat} {gl : List GenState} {Q Q' : Post}
  (C : Ctr prog w h₀ d os g₀ A c n1 m i gl Q) (hp : n2.Perm n1) (hQ : ∀ r n m i gl, Q r n m i gl → ∃ n' rest, Q' r n' m i gl ∧ n.Perm (n' ++ rest)) : Ctr prog w h₀ d os g₀ A c n2 m i gl Q' := by
 intro h RR M hs H
 refine C h RR (M.perm hp) hs ?_
 intro r n m i gl h' q M' hs'
 obtain ⟨n', rest, q', p⟩ := hQ r n m i gl q
 exact H r n' m i gl h' q' (M'.perm p).left hs'
theorem tail_two {w : World} {A B Ta Tb : News} {a b : Addr} {vo vs : List Int} {f g : Int → List Int} (nd : ((A ++ (B ++ (Ta ++ Tb))).map Prod.fst).Nodup) (ha : Rz w Ta a vo f) (hb : Rz w Tb b vs g) :
  Rz w (A ++ (B ++ (Ta ++ Tb))) a vo f ∧ Rz w (A ++ (B ++ (Ta ++ Tb))) b vs g := by
 have n1 : ((B ++ (Ta ++ Tb)).map Prod.fst).Nodup := by rw [List.map_append] at nd; exact (List.nodup_append.mp nd).2.1
 have n2 : ((Ta ++ Tb).map Prod.fst).Nodup := by rw [List.map_append] at n1; exact (List.nodup_append.mp n1).2.1
 exact ⟨Rz.appN nd (Rz.appN n1 ha.app), Rz.appN nd (Rz.appN n1 (Rz.appN n2 hb))⟩
section
variable (R T : News) (m i : Nat) (gl : List GenState) (a b : Addr) (vo vs : List Int) (f : Int → List Int) (Ea : Rz w T a vo f) (Eb : Rz w T b vs f) (hp : vo.Perm vs)
include K Ea Eb hp
theorem c_deqX : Ctr prog1 w h₀ d os g₀ (aroundL 460) (.call (.builtin "dict.__eq__") ⟨[.ref a, .ref b], []⟩) (R ++ T) m i gl (oneQ (.bool true) (R ++ T) m i gl) := by
 obtain ⟨La, ea, na, ga, Da, la⟩ := Ea
 obtain ⟨Lb, eb, nb, gb, Db, lb⟩ := Eb
 have FF : ∀ {h : Heap} (M : Mm h₀ h (R ++ T)), h.DictOf (intKind prog1 w) a (tab vo La) ∧ h.DictOf (intKind prog1 w) b (tab vs Lb) ∧ (a == sysModules) = false ∧ (b == sysModules) = false ∧
   KeqHits (aroundL 460).in1 ⟨h, ⟨gcat g₀ gl⟩, d, i, os⟩ (tab vs Lb) (tab vo La) true := by
  intro h M
  have ma : ∀ {x o}, getL T x = some o → (x, o) ∈ R ++ T := fun g => List.mem_append.mpr (.inr (getL_mem g))
  refine ⟨Da.dictOf (M.nw _ (ma ga)).1, Db.dictOf (M.nw _ (ma gb)).1, M.notSys K rfl (ma ga), M.notSys K rfl (ma gb), ?_⟩
  have hv : ∀ v ∈ vo, SeqAt.EqAt (aroundL 460).in1 ⟨h, ⟨gcat g₀ gl⟩, d, i, os⟩ (.ref (La v)) (.ref (Lb v)) true := by
   intro v hv
   obtain ⟨pa, n1, q1, e1⟩ := la v hv
   obtain ⟨pb, n2, q2, e2⟩ := lb v (hp.mem_iff.mp hv)
   walk_at "aO"
   rw [e1, e2, decide_eq_true rfl] at x
   exact x
  have go : ∀ us : List Int, (∀ u ∈ us, u ∈ vo) → KeqHits (aroundL 460).in1 ⟨h, ⟨gcat g₀ gl⟩, d, i, os⟩ (tab vs Lb) (tab us La) true := by
   intro us
   induction us with
   | nil => intro _; exact .nil
   | cons u us ih =>
     intro hu
     exact KeqHits.hit (r := tab us La) (tab_in (f := Lb) (hp.mem_iff.mp (hu u (.head _)))) (hv u (hu u (.head _))) (ih fun z hz => hu z (.tail _ hz))
  exact go vo fun _ h => h
 refine Ctr.meets PySem.F.slot_dict_eq PySem.F.entry_dict_eq (PySem.F.args_dict_eq_2 _ _) (deq_meets w a b (tab vo La) (tab vs Lb)) (fun h M => (FF M).1.typeIs) fun h RR M hs H => ?_
 obtain ⟨h1, h2, h3, h4, h5⟩ := FF M
 exact ⟨h1, h2, h3, h4, by simp [tab, hp.length_eq], h5, H _ _ _ _ _ _ ⟨rfl, rfl, rfl, rfl, rfl⟩ M hs⟩
end
def DataP (w : World) (Td : News) (da : Addr) (vs : List Int) (fz r : Int → List Int) (gl gl' : List GenState) : Prop := Rz w Td da vs fz ∧ RotAll vs fz r ∧ (GB gl → GB gl')
def ShownP (w : World) (Ts : News) (a : Addr) (vo vs : List Int) (f : Int → List Int) (gl gl' g1 g2 : List GenState) : Prop := Rz w Ts a vo f ∧ vo.Perm vs ∧ (GB gl → GB gl') ∧ (GB g1 → GB g2)
section
variable (o dI gd nd sd pd : Addr) (t1 t2 t3 t4 t5 n1 : Nat) (h1 h2 h3 h4 h5 : Int) (R Tr Te : News) (m i : Nat) (gl : List GenState) (vs : List Int) (r : Int → List Int) (O : Inv vs r)
include hpar K O
theorem e_nodesP (l : Addr) (qs : List (Int × Tok)) (n nn ns np : Nat) (hp : (qs.map Prod.fst).Perm vs) :
 Ctr prog1 w h₀ d os g₀ (aroundL 350) (k_addr% "cF") ((l, listO (ivs qs) n) :: (o, selfO dI) :: (k_addr% "b") :: (nd, dictO [] nn) :: (sd, dictO [] ns) :: (pd, dictO [] np) :: (R ++ (Tr ++ Te))) m i gl
  (exQ (Nat × Nat × News) (fun x => EmbC w x.2.2 nd sd pd (qs.map Prod.fst) (fun _ => [])) (k_addr% "s") (k_addr% "eX") (fun x => x.1) (fun x => x.2.1) (fun _ => gl)) := by
 have := e_nodesS w b1 b2 hpar h₀ K d os g₀ o dI gd nd sd pd t1 t2 t3 t4 t5 n1 h1 h2 h3 h4 h5 m i gl l qs n nn ns np (R ++ (Tr ++ Te)) (fun v hv => O.ok.vo v (hp.mem_iff.mp hv)) (hp.nodup_iff.mpr O.vn)
 simpa only [List.append_assoc] using this
omit O in
theorem e_dataP (T : News) (E : EmbC w Te nd sd pd vs r) :
 Ctr prog1 w h₀ d os g₀ (aroundL 330) (k_addr% "dg") ((o, selfO dI) :: (k_addr% "b") :: (R ++ (Tr ++ (Te ++ T)))) m i gl
  (exQ (k_addr% "cB") (fun x => DataP w x.2.2.2.1 x.2.2.1 vs x.2.2.2.2.1 r gl x.2.2.2.2.2)
  (k_addr% "bv") (fun x => (o, selfO dI) :: (k_addr% "b") :: (R ++ (Tr ++ (Te ++ (x.2.2.2.1 ++ T))))) (fun x => x.1) (fun x => x.2.1) (fun x => x.2.2.2.2.2)) := by
 have := e_dataS w b1 b2 hpar h₀ K d os g₀ o dI gd nd sd pd t1 t2 t3 t4 t5 n1 h1 h2 h3 h4 h5 m i gl R Tr Te T vs r E
 simpa only [List.append_assoc, DataP] using this
theorem sd_allP (hnl : ∀ v ∈ vs, v ∉ r v) (da : Addr) (Td : News) (fz : Int → List Int) (g1 g2 : List GenState) (D : DataP w Td da vs fz r g1 g2) (qs : List (Int × Tok)) (T : News) (E : EmbC w T nd sd pd (qs.map Prod.fst) (fun _ => [])) (hp : (qs.map Prod.fst).Perm vs) :
 Ctr prog1 w h₀ d os g₀ (aroundL 280) (.call (.ref 781) ⟨[.ref o, .ref da], []⟩) ((o, selfO dI) :: (k_addr% "b") :: (R ++ (Tr ++ (Te ++ (Td ++ T))))) m i gl
  (exQ (Nat × Nat × News) (fun x => EmbC w x.2.2 nd sd pd (qs.map Prod.fst) (pre fz vs)) (k_addr% "s") (k_addr% "eX") (fun x => x.1) (fun x => x.2.1) (fun _ => gl)) := by
 have perm : ∀ v ∈ vs, (fz v).Perm (r v) := fun v hv => by
  obtain ⟨A, B, e1, e2⟩ := D.2.1 v hv
  rw [e1, e2]
  exact List.perm_append_comm
 refine (sd_all w b1 b2 hpar h₀ K d os g₀ Td o dI gd nd sd pd t1 t2 t3 t4 t5 n1 h1 h2 h3 h4 h5 da vs fz D.1 (qs.map Prod.fst) (fun v hv => hp.mem_iff.mpr hv) (fun v hv z hz => hp.mem_iff.mpr (O.rv v hv z ((perm v hv).mem_iff.mp hz)))
  (fun v hv hq => hnl v hv ((perm v hv).mem_iff.mp hq)) (fun v hv => (perm v hv).nodup_iff.mpr (O.ok.nd v hv)) (R ++ (Tr ++ Te)) T m i gl E).reD ?_ ?_
 ·refine perm_of_count fun P => ?_
  walk_at "cs"; omega
 ·walk_at "bU"
  refine ⟨_, Td, ⟨x, hx, rfl, rfl, rfl, rfl, rfl⟩, perm_of_count fun P => ?_⟩
  simp only [List.countP_append, List.countP_cons, List.cons_append]; omega
theorem sh_P (T : News) (qs : List (Int × Tok)) (fz : Int → List Int) (da : Addr) (Td : News) (g1 g2 : List GenState) (D : DataP w Td da vs fz r g1 g2) (hp : (qs.map Prod.fst).Perm vs) (E : EmbC w T nd sd pd (qs.map Prod.fst) (pre fz vs)) : Ctr prog1 w h₀ d os g₀ (aroundL 320) (.call (.ref 906) ⟨[.ref o], []⟩) ((o, selfO dI) :: (k_addr% "b") :: (R ++ (Tr ++ (Te ++ T)))) m i gl
  (exQ (Nat × Nat × Addr × News × List GenState) (fun x => ShownP w x.2.2.2.1 x.2.2.1 (qs.map Prod.fst) vs (fun v => turnI (r v)) gl x.2.2.2.2 g1 g2) (k_addr% "bv") (fun x => (R ++ (Tr ++ (Te ++ x.2.2.2.1)))) (fun x => x.1) (fun x => x.2.1) (fun x => x.2.2.2.2)) := by
 refine (sh_all w b1 b2 hpar h₀ K d os g₀ (R ++ (Tr ++ Te)) T m i gl o dI gd nd sd pd t1 t2 t3 t4 t5 n1 h1 h2 h3 h4 h5 (qs.map Prod.fst) (pre fz vs) E).reD ?_ ?_
 ·refine perm_of_count fun P => ?_
  walk_at "cs"; omega
 ·walk_at "bU"
  refine ⟨_, (o, selfO dI) :: (k_addr% "b") :: T, ⟨x, ⟨?_, hp, hx.2, D.2.2⟩, rfl, rfl, rfl, rfl, rfl⟩, perm_of_count fun P => ?_⟩
  ·obtain ⟨L, er, nr, g, De, l⟩ := hx.1
   refine ⟨L, er, nr, g, De, l.congr fun v hv => ?_⟩
   have hv' := hp.mem_iff.mp hv
   have e : pre fz vs v = fz v := if_pos hv'
   rw [e]
   exact D.2.1.turn (fun v hv => O.ok.nd v hv) hv'
  ·walk_at "cs"; omega
theorem pl_P (Ts : News) (rd : Addr) (E : Rz w Tr rd vs r) :
 Ctr prog1 w h₀ d os g₀ (aroundL 340) (.call (.ref 911) ⟨[.ref rd], []⟩) (R ++ (Tr ++ (Te ++ Ts))) m i gl
  (exQ (Nat × Nat × Addr × News) (fun x => Rz w x.2.2.2 x.2.2.1 vs (fun v => turnI (r v))) (k_addr% "bv") (fun x => (R ++ (Tr ++ (Te ++ (Ts ++ x.2.2.2))))) (fun x => x.1) (fun x => x.2.1) (fun x => gl)) := by
 refine (pl_allZ w b1 b2 hpar h₀ K d os g₀ R Tr (Te ++ Ts) m i gl rd vs r E O).reP ?_ ?_
 ·exact List.Perm.refl _
 ·walk_at "bU"
  refine ⟨_, ⟨x, hx, rfl, rfl, rfl, rfl, rfl⟩, perm_of_count fun P => ?_⟩
  walk_at "cs"; omega
end
section
variable (R : News) (m i : Nat) (gl : List GenState)
include K
theorem c_leq (a b : Addr) (ps qs : List (Int × Tok)) (n k : Nat) (vs : List Int) (hp : ps.map Prod.fst = vs) (hq' : qs.map Prod.fst = vs) :
 Ctr prog1 w h₀ d os g₀ (aroundL 460) (.call (.builtin "list.__eq__") ⟨[.ref a, .ref b], []⟩) ((a, listO (ivs ps) n) :: (b, listO (ivs qs) k) :: R) m i gl (oneQ (.bool true) R m i gl) := by
 have hq : ps.map Prod.fst = qs.map Prod.fst := hp.trans hq'.symm
 have hsz : (⟨ivs ps⟩ : Array Value).size = (⟨ivs qs⟩ : Array Value).size := by
  have := congrArg List.length hq
  simpa [ivs] using this
 have he : ∀ (s : Shared) (j : Nat) (h1 : j < (⟨ivs ps⟩ : Array Value).size) (h2 : j < (⟨ivs qs⟩ : Array Value).size), SeqAt.EqAt (aroundL 460).in1 s (⟨ivs ps⟩ : Array Value)[j] (⟨ivs qs⟩ : Array Value)[j] true := by
  intro s j h1 h2
  have g1 : j < ps.length := by simpa [ivs] using h1
  have g2 : j < qs.length := by simpa [ivs] using h2
  have e1 : (⟨ivs ps⟩ : Array Value)[j] = .int ps[j].1 ps[j].2 := by simp [ivs]
  have e2 : (⟨ivs qs⟩ : Array Value)[j] = .int qs[j].1 qs[j].2 := by simp [ivs]
  have e3 : ps[j].1 = qs[j].1 := by
   have := congrArg (fun l => l[j]?) hq
   simpa [g1, g2] using this
  rw [e1, e2, e3]
  have := SeqAt.EqAt.int_int (A := (aroundL 460).in1) (s := s) qs[j].1 ps[j].2 qs[j].1 qs[j].2
  simpa using this
 refine Ctr.meets PySem.F.slot_list_eq PySem.F.entry_list_eq (PySem.F.args_list_eq_2 _ _) (SeqAt.list_eqAt a b _ _ n k none none #[] #[] hsz (fun _ => true) prog1 w) (fun h M => ⟨_, (M.nw _ (.head _)).1, rfl⟩) fun h RR M hs H => ?_
 refine ⟨(M.nw _ (.head _)).1, (M.nw _ (.tail _ (.head _))).1, he _, ?_⟩
 have e : ((List.range (⟨ivs ps⟩ : Array Value).size).all fun _ => true) = true := by simp
 rw [e]
 exact H _ _ _ _ _ _ ⟨rfl, rfl, rfl, rfl, rfl⟩ M.drop1.drop1 hs
variable (Tr : News)
theorem c_rowsK (T : News) (rd : Addr) (vs : List Int) (r : Int → List Int) (E : Rz w Tr rd vs r) (hvs : vs.length < 64) :
 Ctr prog1 w h₀ d os g₀ (aroundL 470) (.call (.type "list") ⟨[.ref rd], []⟩) (R ++ (Tr ++ T)) m i gl
  (exQ (Nat × List (Int × Tok)) (fun x => x.2.map Prod.fst = vs) (k_addr% "dr") (fun x => (m, listO (ivs x.2) x.1) :: (R ++ (Tr ++ T))) (fun _ => m + 4) (fun _ => i) (fun _ => gl)) := by
 obtain ⟨L, es, n, g, D, _⟩ := E
 walk_at "ad"
 have hl := D.pairs.length
 obtain ⟨ps, q1, q2⟩ := keys_of D
 refine (q_list_keys w h₀ K d os g₀ _ es n hr (by simp [tab] at hl; omega) R (Tr ++ T) m i gl (getL_app g)).mono ?_
 rintro _ _ _ _ _ ⟨nL, -, rfl, rfl, rfl, rfl, rfl⟩
 exact ⟨(nL, ps), q2, rfl, by show (m, listO (es.map (·.key)) nL) :: (R ++ (Tr ++ T)) = _; rw [q1], rfl, rfl, rfl⟩
end
theorem c_iterD (w : World) (h₀ : Heap) (K : KT.Holds h₀ 1 0 (kt1 w)) (d : Drawn) (os : OsState) (g₀ : List GenState) (R : News) (m i : Nat) (gl : List GenState) (a : Addr) (es : List DictEntry) (n : Nat) :
 Ctr prog1 w h₀ d os g₀ (aroundL 460) (.builtin "iter" ⟨[.ref a], []⟩) ((a, dictO es n) :: R) m i gl (oneQ (.ref m) ((m, keyIt a 0 es.length n) :: (a, dictO es n) :: R) (m + 1) i gl) := by
 walk_at "d"
 run_tac Mine.walk [``c_diter] [] { wd := true }
 exact hR 0 _ _ _ _ _ ⟨rfl, rfl, rfl, rfl, rfl⟩
section
variable (R Tr Te T : News) (m i : Nat) (gl : List GenState)
 (nd : Addr) (vs : List Int) (es : List DictEntry) (n : Nat)
def NodeD (w : World) (Te : News) (nd : Addr) (vs : List Int) (es : List DictEntry) (n : Nat) : Prop := getL Te nd = some (dictO es n) ∧ ∃ f, DE prog1 w (tab vs f) es
theorem EmbC.nodeD {w : World} {Te : News} {nd sd pd : Addr} {vs : List Int} {r : Int → List Int} (E : EmbC w Te nd sd pd vs r) : ∃ es n, NodeD w Te nd vs es n := by
 obtain ⟨A, G, e, g⟩ := E
 obtain ⟨o, q, es, n, rfl, D⟩ := e.cel .nd trivial
 exact ⟨es, n, q, _, by have := D; rw [g.nv] at this; exact this⟩
variable (N : NodeD w Te nd vs es n)
include K N
theorem c_nodeI : Ctr prog1 w h₀ d os g₀ (aroundL 460) (.builtin "iter" ⟨[.ref nd], []⟩) (R ++ (Tr ++ (Te ++ T))) m i gl (oneQ (.ref m) ((m, keyIt nd 0 es.length n) :: (R ++ (Tr ++ (Te ++ T)))) (m + 1) i gl) := by
 obtain ⟨g, _⟩ := N
 have := Ctr.readN (R := R ++ Tr) (T := Te ++ T) (N := [_]) (getL_app g) fun rest => c_iterD w h₀ K d os g₀ rest m i gl nd es n
 simp only [List.append_assoc] at this
 exact this
theorem c_nodeL (hvs : vs.length < 64) : Ctr prog1 w h₀ d os g₀ (aroundL 470) (.builtin "len" ⟨[.ref nd], []⟩) (R ++ (Tr ++ (Te ++ T))) m i gl (oneQ (.int (Int.ofNat vs.length) (i + 1)) (R ++ (Tr ++ (Te ++ T))) m (i + 2) gl) := by
 obtain ⟨g, f, D⟩ := N
 have g' : getL (Te ++ T) nd = some (dictO es n) := getL_app g
 have hl : (tab vs f).length = vs.length := by simp [tab]
 rcases vs with _ | ⟨v, vs⟩
 ·have := q_len_zero w h₀ K d os g₀ (R ++ Tr) (Te ++ T) m i gl nd es n g' D
  simp only [List.append_assoc] at this
  exact this
 ·have := q_len_pos w h₀ K d os g₀ (R ++ Tr) (Te ++ T) m i gl nd es n _ g' D vs.length (by rw [hl]; rfl) (by rw [hl]; omega)
  simp only [List.append_assoc] at this
  exact this
theorem c_nodeX (hvs : vs.length < 64) (L I : Addr) (nL : Nat) : Ctr prog1 w h₀ d os g₀ (aroundL 480) (k_addr% "bN") ((I, keyIt nd 0 es.length n) :: (L, listO [] nL) :: (R ++ (Tr ++ (Te ++ T)))) m i gl
  (exQ (Nat × List (Int × Tok)) (fun x => x.2.map Prod.fst = vs) (k_addr% "s") (fun x => (L, listO (ivs x.2) x.1) :: (R ++ (Tr ++ (Te ++ T)))) (fun _ => m + 2) (fun _ => i) (fun _ => gl)) := by
 obtain ⟨g, f, D⟩ := N
 walk_at "ad"
 have hl := D.pairs.length
 simp [tab] at hl
 obtain ⟨ps, q1, q2⟩ := keys_of D
 have X := fun rest => x_ext w h₀ K d os g₀ nd es n hr (by omega) rest m i gl L I es.length 0 [] nL (by omega) (by simp; omega)
 intro h RR M hs H
 have M' : Mm h₀ h ([(I, keyIt nd 0 es.length n), (L, listO [] nL)] ++ ((R ++ Tr) ++ (Te ++ T))) := by walk_at "et"
 have g' : getL (Te ++ T) nd = some (dictO es n) := getL_app g
 refine X _ h RR (M'.mid g') hs ?_
 rintro _ _ _ _ _ h' ⟨nL', -, rfl, rfl, rfl, rfl, rfl⟩ M2 hs2
 refine H _ _ _ _ _ h' ⟨(nL', ps), q2, rfl, rfl, rfl, rfl, rfl⟩ ?_ hs2
 have M3 := Mm.again' (N := [(L, listO ([] ++ (es.drop 0).map (·.key)) nL')]) M'.right g' M2
 rw [List.nil_append, List.drop_zero, q1] at M3
 simpa only [List.append_assoc, List.cons_append, List.nil_append] using M3
end
theorem once {T p : Prop} (t : T) (f : T → p) : p := f t
section
variable (R : News) (m i : Nat) (gl : List GenState)
 (l : Addr) (ps : List (Int × Tok)) (n : Nat) (hps : ps.length ≤ 63)
include hpar K hps
theorem law_all (hgb : GB gl) :
 CtrG prog1 w h₀ (kt1 w) d os g₀ aroundC (.call (.ref 928) ⟨[.ref l], []⟩) (k_addr% "bm") m i gl (exQ (Nat × Nat × News × List GenState) (fun x => GB x.2.2.2) (fun _ => .ok (.ret (.bool true))) (fun x => (l, listO (ivs ps) n) :: x.2.2.1) (fun x => x.1) (fun x => x.2.1) (fun x => x.2.2.2)) := by
 have h300 : ps.length ≤ 300 := by omega
 refine CtrG.ofQ (kt1 w) fun RR hR => ?_
 run_tac Mine.walk ([``p_new, ``e_nodes425, ``c_liter] ++ Mine.embNames) [] { stops := ["compStart"] }
 intro x hx y hy
 apply once
 case f =>
  intro key
  rcases Nat.eq_zero_or_pos ps.length with h1p | h1p
  ·run_tac Mine.walk ([``abs_start0, ``c_sum5, ``c_cut14, ``c_liter] ++ Mine.embNames) [] { stops := ["forLoop"] }
   intro x1 hx1 x2 hx2 x3 hx3
   have h1n : 1 ≤ x3.length := by
    have e1 := congrArg List.length hx3.1
    have e2 := congrArg List.length hx2.1
    simp at e1 e2
    omega
   refine rm_exF (n' := 0) (α := LA) (k_addr% "F")
    (k_addr% "cm") (fun h M => ?_) fun q hq => ?_
   ·have M1 := M.choose [0, 1, 2, 22, 21, 20, 19, 11, 12, 17, 8, 7, 6] 23 rfl
    have M2 := M1.perm ((List.perm_append_comm_assoc [_, _, _, _] R y.2.2.1).append_left [_, _, _, _, _, _, _, _, _])
    walk_at "au"
    have nd := (M2.drop1.drop1.drop1.drop1.drop1.drop1.drop1.drop1.drop1.right.right.left).nd
    intro v hv
    walk_at "dy"
    rcases hv with rfl | rfl | rfl
    ·exact ⟨[], 0, getL_of_mem nd (.tail _ (.head _)), rfl⟩
    ·exact ⟨[], 0, getL_of_mem nd (.tail _ (.tail _ (.head _))), rfl⟩
    ·exact ⟨[], 0, getL_of_mem nd (.tail _ (.tail _ (.tail _ (.head _)))), rfl⟩
   ·clear hx1 hx2 hx3
    generalize x1.1 = mA at *
    generalize x1.2.1 = iA at *
    clear x1 x2
    revert mA iA x3 h1n q hq
    exact key
  ·run_tac Mine.walk ([``abs_start1, ``c_sum5, ``c_cut14, ``c_liter] ++ Mine.embNames) [] { stops := ["forLoop"] }
   intro x1 hx1 x2 hx2 x3 hx3
   have h1n : 1 ≤ x3.length := by
    have e1 := congrArg List.length hx3.1
    have e2 := congrArg List.length hx2.1
    simp at e1 e2
    omega
   refine rm_exF (n' := 0) (α := LA) (k_addr% "F")
    (k_addr% "cm") (fun h M => ?_) fun q hq => ?_
   ·have M1 := M.choose [0, 1, 2, 22, 21, 20, 19, 11, 12, 17, 8, 7, 6] 23 rfl
    have M2 := M1.perm ((List.perm_append_comm_assoc [_, _, _, _] R y.2.2.1).append_left [_, _, _, _, _, _, _, _, _])
    walk_at "au"
    have nd := (M2.drop1.drop1.drop1.drop1.drop1.drop1.drop1.drop1.drop1.right.right.left).nd
    intro v hv
    walk_at "dy"
    rcases hv with rfl | rfl | rfl
    ·exact ⟨[], 0, getL_of_mem nd (.tail _ (.head _)), rfl⟩
    ·exact ⟨[], 0, getL_of_mem nd (.tail _ (.tail _ (.head _))), rfl⟩
    ·exact ⟨[], 0, getL_of_mem nd (.tail _ (.tail _ (.tail _ (.head _)))), rfl⟩
   ·clear hx1 hx2 hx3
    generalize x1.1 = mA at *
    generalize x1.2.1 = iA at *
    clear x1 x2
    revert mA iA x3 h1n q hq
    exact key
 ·intro x3 h1n q hq mA iA
  have hE : EmbC w y.2.2.1 x.2.2.nd x.2.2.sd x.2.2.pd [4, 2, 5] (fun _ => []) := ⟨y.2.2.2, _, hy, Good.nil.addVs [4, 2, 5] nd425 uo425⟩
  have hO : Inv [4, 2, 5] (fun _ => []) := ⟨⟨uo425, fun _ _ => rfl, fun _ _ => List.nodup_nil, fun _ _ _ h => absurd h List.not_mem_nil⟩, fun v hv => by
   walk_at "dy"
   omega, fun _ _ _ h => absurd h List.not_mem_nil, fun _ _ _ h => absurd h List.not_mem_nil, nd425⟩
  have LP := fun (R : News) (m0 i0 : Nat) => loop0 w b1 b2 hpar h₀ K d os g₀ (mA+1+1+1+1) (mA+1+1+1) m l x.2.2.o x3 (ivs ps) n x.2.2.dI x.2.2.gd x.2.2.nd x.2.2.sd x.2.2.pd x.2.2.t1 x.2.2.t2 x.2.2.t3 x.2.2.t4 x.2.2.t5 x.2.2.n1 x.2.2.h1 x.2.2.h2 x.2.2.h3 x.2.2.h4 x.2.2.h5 h1n q.1 q.2.1 q.2.2.1 i x.2.1 q.2.2.2.1 q.2.2.2.2.1 q.2.2.2.2.2.1 q.2.2.2.2.2.2.1 R _ _ m0 i0 gl x.1 _ _ hE hq hO hgb
  generalize [(x.1, dictO q.2.2.2.2.2.2.2.1 q.2.2.2.2.2.2.2.2), (y.1 + 1 + 1, listO [] 0), (y.1 + 1 + 1 + 1, listO [] 0), (y.1 + 1 + 1 + 1 + 1, listO [] 0)] = Tr at *
  unfold lawQ at LP
  have LP' := LP R (mA+1+1+1+1+1) (iA+1+1+1+1+1+1)
  clear LP
  run_tac Mine.callF `LP'
  clear LP' hE hO hq hy
  rintro r0 n0 m0 i0 gl0 ⟨⟨m1, i1, gl1, F, rd, Tr1, Te1, vs, r, R1⟩, ⟨E, Er, O, hgb1, hrest⟩, e1, e2, e3, e4, e5⟩
  simp only at E Er O hgb1 hrest e1 e2 e3 e4 e5
  subst e1 e2 e3 e4 e5
  have hvs : vs.length < 64 := by have := nodup_lt 6 vs O.vn O.six; omega
  have hnl : ∀ v ∈ vs, v ∉ r v := by obtain ⟨A, G, _, Gd⟩ := id E; exact Gd.nl
  walk_at "h"
  simp only at hrest
  rcases hrest with rfl | ⟨B1, B2, B3, e1, e2, e3, x0, tx0, y0, z0, rfl⟩
  ·run_tac Mine.walk [``p_new, ``r_sortedC, ``e_nodesP, ``e_dataP, ``sd_allP, ``sh_P, ``pl_P] [] { stops := ["stack"] }
   intro x1 hx1 x2 x3 hx3 x4 x5 hx5 x6 hx6 x7 hx7
   have hp := hx6.2.1
   walk_at "bi"
   ·walk_at "dQ"
    repeat (first | exact List.suffix_append _ _ | refine List.IsSuffix.trans ?_ (List.suffix_cons _ _))
   ·obtain ⟨hA, hB⟩ := hAB
    obtain ⟨esN, nN, hN⟩ := E.nodeD
    have hz : ∀ k : Nat, k < 64 → ¬ (2 ^ 63 : Int) ≤ Int.ofNat k ∧ ¬ sizeLine < (Int.ofNat k).toNat := by
     intro k hk
     have h1 : Int.ofNat k < 64 := Int.ofNat_lt.mpr hk
     have h2 : sizeLine ≥ 1000 := by decide +kernel
     refine ⟨by omega, ?_⟩
     show ¬ sizeLine < k
     omega
    obtain ⟨hz1, hz3⟩ := hz _ hvs
    clear hz
    run_tac Mine.walk [``c_deqX] [] { wd := true, lies := true, stops := ["type list"] }
    rcases vs with _ | ⟨v, vs⟩
    ·walk_at "aX"
     walk_at "ba"
     exact hx6.2.2.1 (hx6.2.2.2 hgb1)
    ·walk_at "aX"
     walk_at "ba"
     exact hx6.2.2.1 (hx6.2.2.2 hgb1)
  ·run_tac Mine.walk [``p_new, ``r_sortedC, ``e_nodesP, ``e_dataP, ``sd_allP, ``sh_P, ``pl_P] [] { stops := ["stack"] }
   intro x1 hx1 x2 x3 hx3 x4 x5 hx5 x6 hx6 x7 hx7
   have hp := hx6.2.1
   walk_at "bi"
   ·walk_at "dQ"
    repeat (first | exact List.suffix_append _ _ | refine List.IsSuffix.trans ?_ (List.suffix_cons _ _))
   ·obtain ⟨hA, hB⟩ := hAB
    obtain ⟨esN, nN, hN⟩ := E.nodeD
    have hz : ∀ k : Nat, k < 64 → ¬ (2 ^ 63 : Int) ≤ Int.ofNat k ∧ ¬ sizeLine < (Int.ofNat k).toNat := by
     intro k hk
     have h1 : Int.ofNat k < 64 := Int.ofNat_lt.mpr hk
     have h2 : sizeLine ≥ 1000 := by decide +kernel
     refine ⟨by omega, ?_⟩
     show ¬ sizeLine < k
     omega
    obtain ⟨hz1, hz3⟩ := hz _ hvs
    clear hz
    run_tac Mine.walk [``c_deqX] [] { wd := true, lies := true, stops := ["type list"] }
    rcases vs with _ | ⟨v, vs⟩
    ·walk_at "aX"
     walk_at "ba"
     exact hx6.2.2.1 (hx6.2.2.2 hgb1)
    ·walk_at "aX"
     walk_at "ba"
     exact hx6.2.2.1 (hx6.2.2.2 hgb1)
end
theorem script_heap {R : WRecords} {w : World} {s₀ s₁ : Shared} {ns : List Int} {a : Addr} {as : List Addr} (L : PySem.W.Laid R w s₀ s₁ [ofPy (PyData.list (ns.map PyData.int))] [.ref a] as) : ∃ o, s₁.heap = s₀.heap.push o := by
 obtain ⟨ord, _, e⟩ := L.laid
 simp only [ofPy, layAllW, layW] at e
 cases q : layAllW R (classAt s₀.heap) w.params ord (ofPys (List.map PyData.int ns)) s₀ with
 | none => rw [q] at e; cases e
 | some r =>
   rw [q] at e
   have hh := lay_ints ns s₀ r q
   simp only [Option.some.injEq, Prod.mk.injEq, List.cons.injEq, Value.ref.injEq] at e
   obtain ⟨_, es⟩ := e
   rw [← es]
   exact ⟨_, by rw [← hh]⟩
theorem ints_pairs {vs : List Value} {ns : List Int} (h : IntsAre vs ns) : ∃ qs : List (Int × Tok), vs = qs.map (fun p => Value.int p.1 p.2) ∧ ns = qs.map Prod.fst := by
 induction h with
 | nil => exact ⟨[], rfl, rfl⟩
 | cons n t _ ih => obtain ⟨qs, rfl, rfl⟩ := ih; exact ⟨(n, t) :: qs, rfl, rfl⟩
open Lean Meta Elab Tactic in
theorem ktop_ready : True := by
 run_tac do
  let P := mkConst ``Params
  let ty ← withLocalDeclD `P P fun p => do
   let l ← mkAppM ``KT.of #[mkApp (mkConst `Mine.hd.heap_868) p]
   let r := mkApp (mkConst `Mine.hd.ktop_1760) p
   mkForallFVars #[p] (← mkEq l r)
  let v ← withLocalDeclD `P P fun p => do
   let r := mkApp (mkConst `Mine.hd.ktop_1760) p
   mkLambdaFVars #[p] (← mkEqRefl r)
  addDecl (.thmDecl { name := `Mine.ktop_is, levelParams := [], type := ty, value := v })
 trivial
theorem holds_kt {h : Heap} {K : Frag} {t : KT} (e : KT.of K = t) (A : AllIn h K) : KT.Holds h 1 0 t := e ▸ holds_of A
theorem kRfl {α : Type} (a : α) : a = a := rfl
theorem law1 : PySem.Challenge.rw_aw0014_01.Holds := by
 refine Mine.hdG ?_
 intro w s₀ s₁ mg mb G y fa o pm cd doc dV kV ho hd hcd hD hmg hg args vals as L hpre hlay hrd hwl hlo
 obtain ⟨ZA, ZI, ZN, ZT⟩ := z_facts (K := Mine.hd.heap_868) (fun _ => rfl) y
 have KX := InK.keeps w s₀.heap s₁.heap ZI L.keeps
 have T := G.T
 have hfa : mg (Str.ofString "law") = some (.ref 928) := mg_of KX T.g (kRfl _)
 have hfa := hmg.symm.trans hfa
 simp only [Option.some.injEq, Value.ref.injEq] at hfa
 subst hfa
 wrow_args hpre hlay hrd hwl hlo
 rename_i ns _ _ _ _ _ _ _ l vs _ hL _ _ _ hI _ hn _
 have hat := script_at L
 have hob := script_obj L hL
 obtain ⟨ob, hhp⟩ := script_heap L
 clear y G ho hd hcd hD hmg KX T ZI
 obtain ⟨qs, rfl, rfl⟩ := ints_pairs hI
 intro p
 show Sem.wp _ callerC (PySem.call (.ref 928) [.ref l] []) _ _ p s₁
 rw [Sem.wp_cmd_call]
 have KK := holds_kt (ktop_is w.params) ZA
 obtain ⟨h₁, g₁, d₁, i₁, os₁⟩ := s₁
 simp only at hg hhp hob hL L
 subst hg
 have M0 : Mm s₀.heap h₁ [(l, listO (ivs qs) 0)] := by
  refine ⟨fun a o e => ?_, fun q hq => ?_, by simp⟩
  ·exact L.keeps a o e
  ·rcases List.mem_singleton.mp hq with rfl
   refine ⟨hob, ?_⟩
   show s₀.heap.get? l = none
   rw [hat.1]
   exact Heap.get?_none_of_le (Nat.le_refl _)
 have hpar : ∀ p : Params, p = parB p (p.followText "special-get-raises") (p.followText "comprehension-iter-twice") := by
  intro p
  cases p
  unfold parB
  congr 1
  funext s
  split
  ·rename_i e; rw [e]
  ·split
   ·rename_i e; rw [e]
   ·rfl
 have hB : (callerC.enter (.call (.ref 928) ⟨[.ref l], []⟩) none p).Below aroundC := by
  refine ⟨rfl, ?_, fun x e => ?_, (fun g e => by cases e), ?_⟩
  ·exact Nat.le_of_ble_eq_true rfl
  ·cases e; rfl
  ·exact Nat.le_of_ble_eq_true rfl
 have h63 : qs.length ≤ 63 := by simp at hn; omega
 have LA := law_all w _ _ (hpar w.params) s₀.heap KK d₁ os₁ [] [] h₁.objs.size i₁ [] l qs 0 h63 (fun _ h => nomatch h) h₁
 refine LA _ M0 rfl ?_ (callerC.enter (.call (.ref 928) ⟨[.ref l], []⟩) none p) p rfl hB ?_
 ·rintro _ _ _ _ _ h' ⟨x, gb, rfl, rfl, rfl, rfl, rfl⟩ M' _
  show GoodWG _ _ _ _ _ _ _
  refine ⟨.inl ⟨.bool true, .bool true, [], rfl, fun cls => rfl, .bool true, ?_, fun hu => ⟨List.nodup_nil, fun a ha => nomatch ha⟩⟩, OldK.of_keep fun b o e => ?_, rfl, fun y hy => gb y (by simpa [gcat_eq] using hy)⟩
  ·wrow_post
  ·by_cases hbl : b = l
   ·subst hbl
    have e2 := hob.symm.trans e
    cases e2
    exact (M'.nw _ (.head _)).1
   ·refine M'.low b o ?_
    have hl := hat.1
    rw [hl] at hbl
    have z := e
    rw [show h₁ = s₀.heap.push ob from hhp] at z
    rcases Heap.get?_push_cases z with ⟨q, _⟩ | q
    ·exact absurd q hbl
    ·exact q
 ·intro q hq
  obtain rfl | hq := List.mem_cons.mp hq
  ·rfl
  ·cases hq
end Mine
end
namespace Mine.Pk
open Lean Meta Elab Tactic
inductive PT where
 | term (e : Expr)
 | app (f : PT) (as : Array PT)
 | lam (n : Name) (x : FVarId) (ty : Expr) (bi : BinderInfo) (b : PT)
 | letE (n : Name) (x : FVarId) (ty : Expr) (v : PT) (nd : Bool) (b : PT)
structure St where
 lctx : LocalContext := {}
 ng : Nat := 0
abbrev M := StateRefT St MetaM
def hasLam (e : Expr) : Bool := (e.find? fun x => x.isLambda || x.isLet).isSome
def isPf (e : Expr) : M Bool := do
 let l := (← get).lctx
 try withLCtx l {} (isProof e) catch _ => return false
def fresh : M FVarId := do
 modify fun s => { s with ng := s.ng + 1 }
 return ⟨(`pk).num (← get).ng⟩
def openP : Nat → Expr → M PT
 | 0, e => return .term e
 | k + 1, e => do
   let arg (a : Expr) : M PT := do
    if !hasLam a then return .term a
    if ← isPf a then openP k a else return .term a
   match e with
   | .lam n ty b bi =>
     let x ← fresh
     modify fun s => { s with lctx := s.lctx.mkLocalDecl x n ty bi }
     return .lam n x ty bi (← openP k (b.instantiate1 (.fvar x)))
   | .letE n ty v b nd =>
     let x ← fresh
     modify fun s => { s with lctx := s.lctx.mkLetDecl x n ty v }
     return .letE n x ty (← arg v) nd (← openP k (b.instantiate1 (.fvar x)))
   | .mdata _ b => openP k b
   | .app .. =>
     if !hasLam e then return .term e
     let f := e.getAppFn
     let pf ← if f.isLambda then openP k f else pure (.term f)
     return .app pf (← e.getAppArgs.mapM arg)
   | _ => return .term e
structure Nd where
 e : Expr
 D : Nat := 0
 w : Nat
 ch : Array (Nat × Nat)
 deriving Inhabited
structure CS where
 tab : Std.HashMap Expr Nat := {}
 nds : Array Nd := #[]
 depthOf : Std.HashMap FVarId Nat := {}
abbrev C := StateM CS
def kids (e : Expr) : List (Expr × Nat) := match e with
 | .app f a => [(f, 0), (a, 0)]
 | .lam _ t b _ => [(t, 0), (b, 1)]
 | .forallE _ t b _ => [(t, 0), (b, 1)]
 | .letE _ t v b _ => [(t, 0), (v, 0), (b, 1)]
 | .mdata _ b => [(b, 0)]
 | .proj _ _ b => [(b, 0)]
 | _ => []
def node : Nat → Expr → C (Option Nat)
 | 0, _ => return none
 | k + 1, e => do
   unless e.hasFVar do return none
   if e.isFVar then return none
   if let .mdata _ b := e then return ← node k b
   if let some i := (← get).tab[e]? then return some i
   let mut ch := #[]
   let mut w := 1
   for (q, o) in kids e do
    if let some i ← node k q then
     ch := ch.push (i, o)
     w := w + (← get).nds[i]!.w
   let i := (← get).nds.size
   modify fun s => { s with tab := s.tab.insert e i, nds := s.nds.push { e, w := min w 1000000, ch } }
   return some i
def bump (e : Expr) (d : Nat) : C Unit := do
 if let some i ← node 100000 e then modify fun s => { s with nds := s.nds.modify i fun n => { n with D := n.D ||| (1 <<< d) } }
def scan : Nat → PT → Nat → C Unit
 | 0, _, _ => return
 | k + 1, t, d => do
   let deeper (x : FVarId) : C Unit := modify fun s => { s with depthOf := s.depthOf.insert x (d + 1) }
   match t with
   | .term e => bump e d
   | .app f as => scan k f d; as.forM (scan k · d)
   | .lam _ x ty _ b => bump ty d; deeper x; scan k b (d + 1)
   | .letE _ x ty v _ b => bump ty d; scan k v d; deeper x; scan k b (d + 1)
def many (n : Nat) : Bool := n &&& (n - 1) != 0
def count (n : Nat) : Nat := Id.run do
 let mut n := n
 let mut k := 0
 for _ in [0:4000] do
  if n == 0 then break
  n := n &&& (n - 1)
  k := k + 1
 return k
structure Lift where
 x : FVarId
 e : Expr
 ty : Expr
abbrev R := ReaderT (Std.HashMap Expr FVarId) (StateM (Std.HashMap Expr Expr))
def rep : Nat → Bool → Expr → R Expr
 | 0, _, e => return e
 | k + 1, top, e => do
   unless e.hasFVar do return e
   if e.isFVar then return e
   if top then if let some x := (← read)[e]? then return .fvar x
   if let some r := (← get)[e]? then return r
   let r ← match e with
    | .app f a => do return e.updateApp! (← rep k true f) (← rep k true a)
    | .lam _ t b _ => do return e.updateLambdaE! (← rep k true t) (← rep k true b)
    | .forallE _ t b _ => do return e.updateForallE! (← rep k true t) (← rep k true b)
    | .letE n t v b nd => do return .letE n (← rep k true t) (← rep k true v) (← rep k true b) nd
    | .mdata _ b => rep k true b
    | .proj s i b => do return .proj s i (← rep k true b)
    | e => pure e
   modify fun s => s.insert e r
   return r
def reps (top : Bool) (e : Expr) : R Expr := rep 100000 top e
def lets (lifts : Std.HashMap FVarId (Array Lift)) (x : FVarId) (b : Expr) : R Expr := do
 let mut b := b
 for l in (lifts[x]?).getD #[] do
  b := .letE `G l.ty (← reps false l.e) (b.abstract #[.fvar l.x]) false
 return b
def build (lifts : Std.HashMap FVarId (Array Lift)) : Nat → PT → R Expr
 | 0, _ => return default
 | k + 1, t => do
   match t with
   | .term e => reps true e
   | .app f as => return mkAppN (← build lifts k f) (← as.mapM (build lifts k ·))
   | .lam n x ty bi b => return .lam n (← reps true ty) ((← lets lifts x (← build lifts k b)).abstract #[.fvar x]) bi
   | .letE n x ty v nd b => return .letE n (← reps true ty) (← build lifts k v) ((← lets lifts x (← build lifts k b)).abstract #[.fvar x]) nd
def pack (e : Expr) : MetaM Expr := do
 let act : M Expr := do
  let t ← openP 100000 e
  let t := ShareCommon.shareCommon' t
  let (_, cs) := (scan 100000 t 0).run {}
  let mut nds := cs.nds
  let mut lifts : Std.HashMap FVarId (Array Lift) := {}
  let mut tab : Std.HashMap Expr FVarId := {}
  let lctx := (← get).lctx
  let n := nds.size
  for j in [0:n] do
   let i := n - 1 - j
   let nd := nds[i]!
   let mut D := nd.D
   if many D && !nd.e.hasLooseBVars && nd.w * (count D - 1) > 3 then
    let mut deep : Option (FVarId × Nat) := none
    for x in (Lean.collectFVars {} nd.e).fvarIds do
     let dx := (cs.depthOf[x]?).getD 0
     match deep with
     | none => deep := some (x, dx)
     | some (_, b) => if dx > b then deep := some (x, dx)
    if let some (x, dx) := deep then
     let ty? ← withLCtx lctx {} (try pure (some (← inferType nd.e)) catch _ => pure none)
     if let some ty := ty? then
      if !ty.hasFVar || nd.w > 40 then
       let y ← fresh
       lifts := lifts.insert x (((lifts[x]?).getD #[]).push { x := y, e := nd.e, ty })
       tab := tab.insert nd.e y
       D := 1 <<< dx
   for (c, o) in nd.ch do
    nds := nds.modify c fun z => { z with D := z.D ||| (D <<< o) }
  let (r, _) := ((build lifts 100000 t).run tab).run {}
  return r
 act.run' {}
end Mine.Pk
namespace Mine.Pk
open Lean Meta Elab Tactic
def visit (env : Environment) : Nat → Name → StateM (NameSet × Array Name) Unit
 | 0, _ => return
 | k + 1, n => do
   if (← get).1.contains n || (env.getModuleIdxFor? n).isSome then return
   let some c := env.find? n | return
   modify fun s => (s.1.insert n, s.2)
   let mut ns := c.type.getUsedConstants
   if let some v := c.value? (allowOpaque := true) then ns := ns ++ v.getUsedConstants
   match c with
   | .inductInfo i => for q in i.ctors do if let some d := env.find? q then ns := ns ++ d.type.getUsedConstants
   | .ctorInfo i => ns := ns.push i.induct
   | .recInfo i => ns := ns ++ i.all.toArray
   | _ => pure ()
   for m in ns do visit env k m
   modify fun s => (s.1, s.2.push n)
def keepOnly (root : Name) : TacticM Unit := do
 let env ← getEnv
 let (_, (_, order)) := (visit env 100000 root).run ({}, #[])
 let some f ← PySem.W.leftPieces.get | throwError "no first"
 f default default default ["first"]
 for n in order do
  let some c := env.find? n | throwError "?"
  if (← getEnv).contains n then continue
  match c with
  | .thmInfo v =>
    let val ← withEnv env (try pack v.value catch _ => pure v.value)
    addDecl (.thmDecl { v with value := val })
  | .defnInfo v => addDecl (.defnDecl v)
  | .inductInfo i =>
    addDecl (.inductDecl i.levelParams i.numParams (i.all.map fun t => match env.find? t with
     | some (.inductInfo j) => { name := t, type := j.type, ctors := j.ctors.map fun q => { name := q, type := (env.find? q).get!.type } }
     | _ => default) i.isUnsafe)
  | .ctorInfo _ | .recInfo _ => pure ()
  | _ => throwError "odd {n}"
end Mine.Pk
set_option maxHeartbeats 0 in
theorem PySem.Challenge.cw_aw0014_01_holds : PySem.Challenge.rw_aw0014_01.Holds := by
 run_tac Mine.Pk.keepOnly `Mine.law1
 exact Mine.law1
