import PyProof.Rows.All
import Wide.All
import OpenK.AllK
import Wide.FinOn
import Open.Tops
import Lean
import PySem.Challenge.RW_it0024_01
set_option Elab.async false
set_option maxRecDepth 100000
set_option maxHeartbeats 0

/-! The head: the top's long statement is cut at its comprehension's turns, where the thread is one constant. -/
namespace Mine
section
open Lean Meta Elab PySem PySem.Calls PyProof.Rows PySem.W

/- the boundaries of a comprehension's turns: the state and the thread's place right behind each «again compLoop» -/
def turnEnds (p : Program) (k : Int) (most : Nat) (s : Shared) (t : Thread) : Array (Nat × Shared × Pos) := Id.run do
  let w := aWorld k
  let mut s := s
  let mut t := t
  let mut out := #[]
  for i in [0:most] do
    let mark := match t.cur with
      | .pure (.again (.compLoop ..)) => true
      | _ => false
    match step (denote table) p w s t with
    | .go s' t' =>
      s := s'
      t := t'
      if mark then out := out.push (i + 1, s', t'.pos)
    | .halt _ _ => pure ()
  return out

/- the numbers that are written in an object's term -/
def numsIn : Lean.Expr → Array Nat → Array Nat
  | .lit (.natVal n), a => if a.contains n then a else a.push n
  | .app f x, a => numsIn x (numsIn f a)
  | .lam _ _ b _, a => numsIn b a
  | .mdata _ b, a => numsIn b a
  | _, a => a

/- an object as a shape at its numbers: few constants for many objects -/
def shaped (known : Array (Lean.Expr × Lean.Expr)) (o o' : Obj) : MetaM (Array (Lean.Expr × Lean.Expr) × Lean.Expr) := do
  let P := mkConst ``Params
  let (v, ns) ← withLocalDeclD `P P fun p => do
    let e := objE p o
    unless e == objE p o' do throwError "shaped: an object is the world's"
    let ns := numsIn e #[]
    let v ← withLocalDeclsDND (ns.map fun n => ((`n).appendAfter (toString n), mkConst ``Nat)) fun xs => do
      let b := e.replace fun x => match x with
        | .lit (.natVal n) => (ns.findIdx? (· == n)).bind fun i => xs[i]?
        | _ => none
      mkLambdaFVars (xs.push p) b
    pure (v, ns)
  let as := ns.map mkRawNatLit
  match known.find? (·.1 == v) with
  | some (_, c) => return (known, mkAppN c as)
  | none =>
    let c ← defAt `shape (← inferType v) v
    return (known.push (v, c), mkAppN c as)

/- a state whose objects from «low» on are shapes -/
def shapedState (known : Array (Lean.Expr × Lean.Expr)) (old : Array (Obj × Obj × Lean.Expr)) (low : Nat) (s s' : Shared) : MetaM (Array (Lean.Expr × Lean.Expr) × Array (Obj × Obj × Lean.Expr) × W.State) := do
  let cut (s : Shared) : Shared := { s with heap := { s.heap with objs := s.heap.objs.extract 0 low } }
  let lows ← layObjs old (cut s) (cut s')
  unless s.heap.objs.size == s'.heap.objs.size && toExpr s.drawn == toExpr s'.drawn && s.toks == s'.toks do throwError "shapedState: the two sample worlds part"
  let mut known := known
  let mut os := lows.map (·.2.2)
  for i in [low:s.heap.objs.size] do
    let (k, e) ← shaped known s.heap.objs[i]! s'.heap.objs[i]!
    known := k
    os := os.push e
  let P := mkConst ``Params
  let v ← withLocalDeclD `P P fun p => mkLambdaFVars #[p] (treeE p os 1 0)
  let t ← defAt `tree (← mkArrow P (mkConst ``BT)) v
  return (known, lows, { heap := default, gens := ← gensE s s', drawn := toExpr s.drawn, toks := mkRawNatLit s.toks, tree := some (t, mkRawNatLit s.heap.objs.size, toExpr s.heap.life) })

theorem chain : True := by
  run_tac (show Term.TermElabM Unit from do
    let (pE, leave, stride, iterRow) : Lean.Expr × Nat × Nat × String := (mkConst ``PySem.Challenge.pw_it0024_01, 11, 32, "comprehension-iter-twice")
    let p ← progOf pE
    let c ← match ← openProbe p with
      | .error m => throwError "chainTop: {m}"
      | .ok c => pure c
    let N := 2 * c.steps + 100
    let (t, t') ← match ← traceTop p N 1, ← traceTop p N 2 with
      | .ok t, .ok t' => pure (t, t')
      | .error m, _ | _, .error m => throwError "chainTop: {m}"
    let tb := mkConst ``treeTable
    let m0 := natE t.s0.heap.objs.size
    let annE := toExpr t.ann
    let bE ← mkAppM ``behindTheImports #[pE]
    let some cells ← cellsD? bE | throwError "chainTop: the body"
    unless cells.length == t.pieces.length && leave < cells.length do throwError "chainTop: the pieces"
    let envE ← do
      let scope ← Term.exprToSyntax (← mkAppM ``Module.scope #[← mkAppM ``Program.main #[pE]])
      let code ← Term.exprToSyntax (toExpr t.code)
      let e ← Term.withSynthesize (Term.elabTermEnsuringType (← `(({ scope := $scope, locals := mainNs, globals := mainNs, cells := [], code := $code, frame := some $(quote t.frame) } : Env))) (mkConst ``Env))
      defAt `env (mkConst ``Env) (← instantiateMVars e)
    let qE := toExpr t.framePos
    let base := listE (mkConst ``Frame) [mkApp (mkConst ``topFrame) qE]
    let cE := mkApp2 (mkConst ``Code.body) bE envE
    let one := natE 1
    let run (f : Name) (n : Nat) (w s th : Lean.Expr) : Lean.Expr := mkAppN (mkConst f) #[tb, pE, w, m0, annE, one, natE n, s, th]
    let ends (w os : Lean.Expr) (S : W.State) (pos : Lean.Expr) (T : Bool) : MetaM Lean.Expr := do
      mkAppM ``some #[← mkAppM ``Prod.mk #[mkConst ``Flow.next, ← mkAppM ``Prod.mk #[if T then S.atT w os else S.at w os, ← mkAppM ``Prod.mk #[cE, pos]]]]
    let o0 := (Array.range t.s0.heap.objs.size).map fun i => (t.s0.heap.objs[i]!, t'.s0.heap.objs[i]!, mkConst ((`PySem.W).str s!"boot_o_{i}"))
    let oP ← layObjs o0 t.pre.s t'.pre.s
    let (oB, Sb) ← stateOfT oP t.block.s t'.block.s
    let mut o := oB
    let mut S := Sb
    let mut pos := toExpr t.block.pos
    let mut at1 := t.block
    let mut at2 := t'.block
    let mut lems := #[]
    for (((st, stmt), x), x') in (((cells.zip t.body).zip t.pieces).zip t'.pieces).take (cells.length - leave) do
      let steps := max x.steps x'.steps + 1
      let stE ← defAt `sts (mkApp (mkConst ``List [0]) (mkConst ``Stmt)) (listE (mkConst ``Stmt) [st])
      let (o1, S1) ← stateOfT o x.s x'.s
      let (S0, pos0, pos1) := (S, pos, toExpr x.pos)
      let whole := mkAppN (mkConst ``piecesOf) #[stE, envE, cE, pos0, base]
      let rows := (x.rows ++ x'.rows).eraseDups
      let lem ← if steps < 600 then do
          liftT (← byPiece rows (fun w os => pure (run ``segRunT steps w (S0.atT w os) whole)) fun w os => ends w os S1 pos1 true) ``segRun_of
        else do
          let th (pos : Pos) := piecesOf [stmt] t.benv t.bcode pos [topFrame t.framePos]
          let b1 := turnEnds p 1 x.steps at1.s (th at1.pos)
          let b2 := turnEnds p 2 x'.steps at2.s (th at2.pos)
          unless b1.size == b2.size && b1.size > stride do throwError "chainTop: the turns"
          -- the picked boundaries: the first turn's end, then every stride turns, then the last
          let picks := (((Array.range (b1.size - 1)).filter (· % stride == 0)).map (· + 1)).toList ++ [b1.size - 1]
          let picks := picks.eraseDups
          let others := rows.filter (· != iterRow)
          let some (_, sl, _) := b1[0]? | throwError "chainTop: no turn"
          let low := sl.heap.objs.size
          -- what the turns leave behind is never looked at again: no twins for it
          let some (_, sz, _) := b1[b1.size - 1]? | throwError "chainTop: no last turn"
          for i in [low:sz.heap.objs.size] do
            if let some (_, _, e) := o1[i]? then Fast.primed.modify (·.insert e.getAppFn.constName! none)
          let mut oj := o
          let mut known : Array (Lean.Expr × Lean.Expr) := #[]
          let mut place? : Option Lean.Expr := none
          let mut states : Array (Nat × Nat × W.State) := #[]
          for i in picks do
            let some (k1, s1, q1) := b1[i]? | throwError "chainTop: a turn"
            let some (k2, s2, q2) := b2[i]? | throwError "chainTop: a turn"
            unless toExpr q1 == toExpr q2 && place?.all (· == toExpr q1) do throwError "chainTop: the places part"
            place? := some (toExpr q1)
            let (kn, o2, S2) ← shapedState known oj low s1 s2
            known := kn
            oj := o2
            states := states.push (k1, k2, S2)
          let some (k1, k2, Sa) := states[0]? | throwError "chainTop: no state"
          -- the thread behind a turn: one constant
          let side (W : Lean.Expr) (b : Bool) : Lean.Expr := mkApp3 (mkConst ``World.withFollow) W (mkStrLit iterRow) (mkConst (if b then ``Bool.true else ``Bool.false))
          let allFalse (w : Lean.Expr) : Lean.Expr := others.foldl (fun w r => mkApp3 (mkConst ``World.withFollow) w (mkStrLit r) (mkConst ``Bool.false)) w
          let thE ← withLocalDeclD `w (mkConst ``World) fun w => withLocalDeclD `os (mkConst ``OsState) fun os => do
            let W := side (allFalse w) true
            let r ← whnfQuick (run ``segGoT k1 W (S0.atT W os) whole)
            unless r.isAppOfArity ``Option.some 2 do throwError "chainTop: no state behind the first turn"
            let r2 ← Dig.kw r.appArg!
            unless r2.isAppOfArity ``Prod.mk 4 do throwError "chainTop: no pair"
            mkLambdaFVars #[w, os] (r2.appArg!.replace fun e => if e == W then some w else none)
          logInfo m!"THREAD {← thE.numObjs}"
          let thC ← defAt `thread (← mkArrow (mkConst ``World) (← mkArrow (mkConst ``OsState) (mkConst ``Thread))) thE
          Fast.primed.modify (·.insert thC.getAppFn.constName! none)
          let T (w os : Lean.Expr) := mkApp2 thC w os
          let goes (n : Nat) (ws : Lean.Expr → Lean.Expr) (rows : List String) (A B : W.State) (ta : Lean.Expr → Lean.Expr → Lean.Expr) : MetaM Lean.Expr := do
            liftT (← byPiece rows (fun w os => pure (run ``segGoT n (ws w) (A.atT (ws w) os) (ta (ws w) os))) fun w os => do mkAppM ``some #[← mkAppM ``Prod.mk #[B.atT (ws w) os, T (ws w) os]]) ``segGo_of
          -- the turns
          let mut turns := #[]
          for i in [1:states.size] do
            let some (a1, a2, A) := states[i - 1]? | throwError "chainTop: a state"
            let some (e1, e2, B) := states[i]? | throwError "chainTop: a state"
            unless e1 - a1 == e2 - a2 do throwError "chainTop: the turns part"
            let l ← goes (e1 - a1) id others A B T
            turns := turns.push (e1 - a1, A, B, l)
          let some (z1, z2, Z) := states[states.size - 1]? | throwError "chainTop: a state"
          let total := steps
          -- from the first turn's end to the statement's end, with the fuel that is left
          let rest (k : Nat) (zk : Nat) : MetaM Lean.Expr := do
            let last ← liftT (← byPiece others (fun w os => pure (run ``segRunT (total - zk) w (Z.atT w os) (T w os))) fun w os => ends w os S1 pos1 true) ``segRun_of
            let _ := k
            let (ty, pf) ← withLocalDeclD `w (mkConst ``World) fun w => withLocalDeclD `os (mkConst ``OsState) fun os => do
              let r ← ends w os S1 pos1 false
              let mut k ← mkAppM ``congrFun #[mkApp last w, os]
              let mut n := natE (total - zk)
              for (d, A, B, l) in turns.toList.reverse do
                k := mkAppN (mkConst ``seg_go) #[tb, pE, w, m0, annE, one, natE d, n, A.at w os, B.at w os, T w os, T w os, r.appArg!, ← mkAppM ``congrFun #[mkApp l w, os], k]
                n := mkApp2 (mkConst ``Nat.add) (natE d) n
              let ty ← mkEq (mkAppN (mkConst ``segRun) #[tb, pE, w, m0, annE, one, n, Sa.at w os, T w os]) r
              pure (← mkForallFVars #[w, os] ty, ← mkLambdaFVars #[w, os] k)
            return mkConst (← withOptions (Elab.async.set · false) (mkAuxLemma [] ty pf (cache := false)))
          -- the whole statement, for both answers of the row about a comprehension's iterator
          let P ← withLocalDeclD `w (mkConst ``World) fun w => withLocalDeclD `os (mkConst ``OsState) fun os => do
            mkLambdaFVars #[w] (← mkEq (← mkLambdaFVars #[os] (run ``segRun total w (S0.at w os) whole)) (← mkLambdaFVars #[os] (← ends w os S1 pos1 false)))
          let way (b : Bool) (k zk : Nat) : MetaM Lean.Expr := do
            let first ← goes k (side · b) others S0 Sa (fun _ _ => whole)
            let rst ← rest k zk
            let (ty, pf) ← withLocalDeclD `w (mkConst ``World) fun w => do
              let W := side w b
              let f ← withLocalDeclD `os (mkConst ``OsState) fun os => do
                let r ← ends W os S1 pos1 false
                let n ← mkAppM ``HSub.hSub #[mkRawNatLit total, mkRawNatLit k]
                let _ := n
                mkLambdaFVars #[os] (mkAppN (mkConst ``seg_go) #[tb, pE, W, m0, annE, one, natE k, natE (total - k), S0.at W os, Sa.at W os, whole, T W os, r.appArg!, ← mkAppM ``congrFun #[mkApp first w, os], mkApp2 rst W os])
              pure (← mkForallFVars #[w] (mkApp P W).headBeta, ← mkLambdaFVars #[w] (← mkAppM ``funext #[f]))
            return mkConst (← withOptions (Elab.async.set · false) (mkAuxLemma [] ty pf (cache := false)))
          pure (mkApp4 (mkConst ``byRow2) (mkStrLit iterRow) P (← way false k2 z2) (← way true k1 z1))
      lems := lems.push (stE, S0, pos0, S1, pos1, steps, lem)
      o := o1
      S := S1
      pos := pos1
      at1 := x
      at2 := x'
    let (oK, Sk, posK) := (o, S, pos)
    -- the chain
    let stL := mkApp (mkConst ``List [0]) (mkConst ``Stmt)
    let (ty, pf) ← withLocalDeclD `p (mkConst ``Program) fun pv => withLocalDeclD `b stL fun bv => withLocalDeclD `w (mkConst ``World) fun w => withLocalDeclD `os (mkConst ``OsState) fun os =>
      withLocalDeclD `rest stL fun rest => withLocalDeclD `N (mkConst ``Nat) fun N => withLocalDeclD `r (mkConst ``Shared) fun r => do
        let th (rest pos : Lean.Expr) : Lean.Expr := mkAppN (mkConst ``restOf) #[rest, envE, cE, pos, base]
        let tops (n s th : Lean.Expr) : Lean.Expr := mkAppN (mkConst ``topRun) #[tb, pE, w, m0, annE, n, s, th]
        let someR ← mkAppM ``some #[r]
        withLocalDeclD `h (← mkEq (tops N (Sk.at w os) (th rest posK)) someR) fun h => do
          let mut k := h
          let mut n := N
          let mut rs := rest
          for (stE, S0, pos0, S1, pos1, steps, lem) in lems.toList.reverse do
            k := mkAppN (mkConst ``piece_app) #[tb, pE, w, m0, annE, envE, qE, natE steps, n, S0.at w os, S1.at w os, r, stE, rs, cE, pos0, pos1, ← mkAppM ``congrFun #[mkApp lem w, os], k]
            n := mkApp2 (mkConst ``Nat.add) (natE steps) n
            rs ← mkAppM ``HAppend.hAppend #[stE, rs]
          let goal ← mkEq (tops n (Sb.at w os) (th rs (toExpr t.block.pos))) someR
          pure (← mkForallFVars #[pv, bv, w, os, rest, N, r, h] goal, ← mkLambdaFVars #[pv, bv, w, os, rest, N, r, h] k)
    let chain ← withOptions (Elab.async.set · false) (mkAuxLemma [] ty pf (cache := false))
    let (nB, nK) := (← noteOf oB Sb, ← noteOf oK Sk)
    let e : TopEntry := { cells := (cells.take (cells.length - leave)).toArray, groups := lems.map (·.1.constName!), steps := lems.map fun (_, _, _, _, _, n, _) => n, chain := chain, env := envE.constName!, m0 := m0, ann := annE, q := qE, posB := toExpr t.block.pos, posK := posK, o0 := o0.map (·.2.2.constName!), sB := nB, sK := nK }
    modifyEnv fun env => topsExt.addEntry env e)
  trivial
end
section
open PySem PySem.W PyProof.Rows
open_top hd for PySem.Challenge.rw_it0024_01
end
end Mine

namespace Mine
section
open PySem PySem.W PySem.Calls PyProof.Rows PyProof.V PySem.Spec

theorem ints_eq {b : Array UInt8} {ks : List Int} (h : KBw.bInts b = ks) : b = byteArr ks := by
  subst h
  unfold byteArr KBw.bInts
  apply Array.ext'
  simp only [List.map_map]
  have : ∀ l : List UInt8, l = List.map ((fun n : Int => n.toNat.toUInt8) ∘ fun c : UInt8 => ((c.toNat : Nat) : Int)) l := by
    intro l
    induction l with
    | nil => rfl
    | cons a r ih =>
      rw [List.map_cons, ← ih]
      congr 1
      show a = (Int.toNat ((a.toNat : Nat) : Int)).toUInt8
      rw [Int.toNat_natCast]
      simp
  exact this b.toList

theorem little_snoc : ∀ (k : Nat) (n : Int), KTBy.little (k + 1) n = KTBy.little k n ++ [n / 256 ^ k % 256] := by
  intro k n
  rw [KTBy.little_eq, KTBy.little_eq, List.range_succ, List.map_append]
  rfl
theorem little_in : ∀ (k : Nat) (n : Int), KBa.In (KTBy.little k n) := by
  intro k n x hx
  rw [KTBy.little_eq] at hx
  obtain ⟨i, _, rfl⟩ := List.mem_map.mp hx
  omega

structure Oct (n₀ : Int) (pre : List Int) (number : Int) (row : List Int) : Prop where
  num : number = n₀ / 256 ^ pre.length
  row : row = KTBy.little pre.length n₀

structure Stop (P : Prop) : Prop where
  out : P

theorem oct_start (n : Int) (h : 0 ≤ n) : Oct n [] n [] ∧ 0 ≤ n ∧ ([] : List Value).length = ([] : List Int).length ∧ ([] : List Int).length = ([] : List Int).length ∧ KBa.In [] :=
  ⟨⟨by simp, rfl⟩, h, rfl, rfl, fun _ hx => (nomatch hx)⟩
theorem oct_step {n num i : Int} {pre ns : List Int} {vs vs' : List Value} (o : Oct n pre num ns) (h0 : 0 ≤ num) (hv : vs.length = pre.length) (hn : ns.length = pre.length) (hi : KBa.In ns) (hv' : vs'.length = vs.length + 1) :
    Oct n (pre ++ [i]) (num.fdiv 256) (ns ++ [num.fmod 256]) ∧ 0 ≤ num.fdiv 256 ∧ vs'.length = (pre ++ [i]).length ∧ (ns ++ [num.fmod 256]).length = (pre ++ [i]).length ∧ KBa.In (ns ++ [num.fmod 256]) := by
  have e1 : num.fdiv 256 = num / 256 := Int.fdiv_eq_ediv_of_nonneg _ (by decide)
  have e2 : num.fmod 256 = num % 256 := Int.fmod_eq_emod_of_nonneg _ (by decide)
  have hl : (pre ++ [i]).length = pre.length + 1 := by simp
  rw [e1, e2]
  refine ⟨⟨?_, ?_⟩, by omega, by rw [hv', hl, hv], by rw [List.length_append, hl, hn]; rfl, ?_⟩
  · rw [hl, o.num, Int.pow_succ]
    exact Int.ediv_ediv_of_nonneg (Int.le_of_lt (Int.pow_pos (by decide)))
  · rw [hl, little_snoc, ← o.row, ← o.num]
  · intro y hy
    rcases List.mem_append.mp hy with hy | hy
    · exact hi y hy
    · rw [List.mem_singleton.mp hy]
      omega

section
variable {w : World} {mean : ExcName → Option Value} {mg mb : Str → Option Value} {loose : List Str}
theorem octets (news : List (Addr × Obj)) (n k : Int) (t u : Tok) :
    CbClaim PySem.Challenge.rw_it0024_01.row.prog w (hd.heap_39 w.params) hd.view_39 loose mean mg mb 1371 news [] (0 ≤ n ∧ 0 ≤ k ∧ k < 1000) [.int n t, .int k u] (fun t => .bytes (byteArr (KTBy.little k.toNat n)) t) := by
  k_with_none
  w_top off
  k_fill
  dsimp only [CbClaim, CbLists, CbRet]
  intro dp un gd cn cs a ccd cl outer A₀ base h₀ L m s Q E B F X N T hk hpre hdp hun hret
  obtain ⟨hn, hk0, hk5⟩ := hpre
  refine wpAny_call ?_
  k_dflt (refine' code_def (binds := [(PySem.Str.ofString "number", .int n t), (PySem.Str.ofString "size", .int k u)]) ?k1 ?k2 ?k3 ?k4 ?k5 ?kA ?kF ?kK ?k6 ?k7 ?k8 ?k9 ?kB ?_ ?c2 ?c3 ?c4 ?c5; (case kA => exact rfl); (case kF => exact rfl); (case kK => assumption); (case k1 => k_asm); (case k2 => k_asm); (case k3 => k_asm); (case k4 => k_asm); (case k5 => k_asm); (case k6 => k_is); (case k7 => k_is); (case k8 => ktr_room); (case k9 => exact BindsTo.of_eq rfl); (case c5 => decide); (case kB => exact locs rfl); (case c2 => exact rfl); (case c3 => exact rfl); (case c4 => exact rfl); k_whole; intro g' L' h' FG' F' N' B' X' T'; (try dsimp only); (try k_lift B'); (try k_fold))
  k_with "pyIter ref" => (refine Mine.Stop.out ?_)
  k_steps
  all_goals (refine Mine.Stop.mk ?_)
  rename Fr _ _ _ _ => lF'
  rename News _ _ _ _ => lN'
  rename IsRange _ _ _ _ _ _ _ _ => rgX
  with_unfolding_all refine' kst_range (σ := Int × Tok × List Value × List Int × Nat) (fun c => (_, W.listOf c.2.2.1.toArray c.2.2.2.2) :: news) (fun c => [(PySem.Str.ofString "number", Value.int c.1 c.2.1)]) (fun c => IntsAre c.2.2.1 c.2.2.2.1) [] (fun pre c => Oct n pre c.1 c.2.2.2.1 ∧ 0 ≤ c.1 ∧ c.2.2.1.length = pre.length ∧ c.2.2.2.1.length = pre.length ∧ KBa.In c.2.2.2.1) (n, t, [], [], 0) (by rfl) rgX (small_one (by omega) (by omega) (by omega) (by omega)) (rangeSize_nat _ _) lF' lN' .nil ?kk ?kp ?turn ?done
  case kk => exact List.forall_mem_cons.mpr ⟨by with_unfolding_all rfl, List.forall_mem_nil _⟩
  case kp => exact oct_start n hn
  case turn =>
    clear lF' lN' rgX
    intro c pre i ti u h tk own hi hlt kOff kFacts kInv kFr kNews
    obtain ⟨num, tnum, vs, ns, cnt⟩ := c
    dsimp only [kstB] at kFr
    dsimp only at kNews kFacts kInv kOff
    simp only [List.map_cons, List.cons_append] at kOff kNews
    obtain ⟨ho, hn0, hvs, hns, hin⟩ := kInv
    have hvz : vs.length < 1000 := by omega
    have hnz : ns.length < 1000 := by omega
    have kMark := kstMark
    k_steps
    rename Fr _ _ _ _ => eF
    rename News _ _ _ _ => eN
    simp only [List.push_toArray] at eN
    refine kst_end (num.fdiv 256, _, _, ns ++ [num.fmod 256], cnt + 1) eF eN (by first | kst_in | kst_inAny) (by intro p hp; kst_mem) (by rfl) ?_ (by kst_all) (by kst_same) ?_
    · exact IntsAre.append kFacts (.cons _ _ .nil)
    · exact oct_step ho hn0 hvs hns hin (by simp)
  case done =>
    clear lF' lN' rgX
    intro c u h tk kFacts kInv kFr kNews
    obtain ⟨num, tnum, vs, ns, cnt⟩ := c
    dsimp only [kstB] at kFr
    dsimp only at kNews kFacts kInv
    obtain ⟨ho, hn0, hvs, hns, hin⟩ := kInv
    rw [rangeKs_length] at hvs hns
    have hvz : vs.length < 1000 := by omega
    have hnz : ns.length < 1000 := by omega
    k_steps
    rename News h₀ _ _ _ => kN
    rename Fr h₀ _ _ _ => kF
    have e : ns = KTBy.little k.toNat n := by
      have := ho.row
      rw [rangeKs_length, Int.sub_zero] at this
      exact this
    rw [e]
    exact hret _ _ _ kF (cb_drop kN fun p hp => .tail _ hp)
end
end
end Mine

namespace Mine
section
open PySem PySem.W PySem.Calls PyProof.Rows PyProof.V PySem.Spec

/-- the count of the digits by 256 -/
def dig (n : Nat) : Nat := if h : n = 0 then 0 else dig (n / 256) + 1
termination_by n
decreasing_by omega

theorem dig_zero : dig 0 = 0 := by unfold dig; rfl
theorem dig_pos {n : Nat} (h : n ≠ 0) : dig n = dig (n / 256) + 1 := by
  rw [dig, dif_neg h]
theorem dig_spec : ∀ (n : Nat), n < 256 ^ dig n ∧ (n ≠ 0 → 256 ^ dig n ≤ 256 * n) := by
  intro n
  induction n using Nat.strongRecOn with
  | ind n ih =>
    by_cases h : n = 0
    · subst h
      rw [dig_zero]
      exact ⟨by decide, fun h => absurd rfl h⟩
    · rw [dig_pos h, Nat.pow_succ]
      obtain ⟨a, b⟩ := ih (n / 256) (by omega)
      refine ⟨by omega, fun _ => ?_⟩
      by_cases h2 : n / 256 = 0
      · rw [h2, dig_zero]
        omega
      · have := b h2
        omega
theorem dig_le {n k : Nat} (h : n < 256 ^ k) : dig n ≤ k := by
  rcases Nat.lt_or_ge k (dig n) with hlt | hge
  · exfalso
    have hn : n ≠ 0 := by
      rintro rfl
      rw [dig_zero] at hlt
      omega
    have h1 := (dig_spec n).2 hn
    have h2 : 256 ^ (k + 1) ≤ 256 ^ dig n := Nat.pow_le_pow_right (by decide) hlt
    rw [Nat.pow_succ] at h2
    omega
  · exact hge
theorem dig_bits {n : Nat} (h : n ≠ 0) : (Builtin.Int.intBits (n : Int) + 7) / 8 = dig n := by
  obtain ⟨h1, h2⟩ := dig_spec n
  have e2 : (2 : Nat) ^ 8 = 256 := by decide
  have hd : dig n ≠ 0 := by rw [dig_pos h]; omega
  have a : Builtin.Int.intBits (n : Int) ≤ 8 * dig n := intBits_le_iff.mpr (by rw [Nat.pow_mul, e2]; exact h1)
  have b : ¬ Builtin.Int.intBits (n : Int) ≤ 8 * (dig n - 1) := by
    intro hb
    have := intBits_le_iff.mp hb
    rw [Nat.pow_mul, e2] at this
    have h3 : 256 ^ dig n = 256 ^ (dig n - 1) * 256 := by rw [← Nat.pow_succ]; congr 1; omega
    rw [h3] at h2
    have := h2 h
    omega
  omega

def headInts (base size : Int) : List Int :=
  if size < 56 then [base + size] else (base + 55 + (dig size.toNat : Int)) :: (KTBy.little (dig size.toNat) size).reverse

def seqList (o : Obj) : List Value := match o.data with
  | .seq a _ => a.toList
  | _ => []
noncomputable def octs (P : Params) : List Value := (((hd.heap_39 P).lookup 1336).map seqList).getD []
def isOctet (v : Option Value) (j : Nat) : Bool := match v with
  | some (.bytes b _) => b == #[j.toUInt8]
  | _ => false
theorem abs_at : ∀ P : Params, (hd.heap_39 P).lookup 1336 = some ⟨.type "tuple", none, .seq (List.toArray (octs P)) 0, #[]⟩ := fun P => by kernel_rfl
theorem abs_all : ∀ P : Params, ((List.range 256).all fun j => isOctet (octs P)[j]? j) = true := fun P => by kernel_rfl
end
end Mine

namespace Mine
section
open PySem PySem.W PySem.Calls PyProof.Rows PyProof.V PySem.Spec

theorem ab_at (P : Params) {j : Nat} (hj : j < 256) : ∃ t, (octs P)[j]? = some (.bytes #[j.toUInt8] t) := by
  have h := List.all_eq_true.mp (abs_all P) j (List.mem_range.mpr hj)
  unfold isOctet at h
  split at h
  · rename_i b t e
    exact ⟨t, by rw [e, beq_iff_eq.mp h]⟩
  · cases h
section
variable {prog : Program} {w : World} {A : Around} {E : Value → Shared → Prop} {s : Shared} {h₀ : Heap} {L : Addr} {m : Str → Option Value}
theorem ab_item {value slice : PySem.Expr} {k : Int} {u : Tok} {Q : Value → Shared → Prop} (F : Fr h₀ L s.heap m) (X₀ : (hd.heap_39 w.params).In h₀) (h0 : 0 ≤ k) (h1 : k < 256)
    (h : ∀ t, Q (.bytes #[k.toNat.toUInt8] t) s)
    (hs : subscripted slice false (.ref 1336) (.int k u) = operate [.ref 1336, .int k u] (getItem (.ref 1336) (.int k u)) := by with_unfolding_all rfl) :
    wpAny (model prog w) A (subscriptTail value slice (.ref 1336) (.int k u)) Q E s := by
  obtain ⟨t, hx⟩ := ab_at w.params (j := k.toNat) (by omega)
  have hlen : k.toNat < (octs w.params).length := (List.getElem?_eq_some_iff.mp hx).1
  refine topTup_K F X₀ (abs_at w.params) (by omega) (by omega) ?_ hx (h t) hs
  have e1 : ¬ k < 0 := by omega
  have e2 : k < ((octs w.params).length : Int) := by omega
  unfold seqIndex?
  simp only [e1, if_false, h0, e2, decide_true, Bool.and_self, if_true]
end
end
end Mine

namespace Mine
section
open PySem PySem.W PySem.Calls PyProof.Rows PyProof.V PySem.Spec

section
variable {prog : Program} {w : World} {A : Around} {E : Value → Shared → Prop} {s : Shared}
theorem to_big {x K : Int} {t u v : Tok} {Q : Value → Shared → Prop} (h0 : 0 < x) (h1 : x < 18446744073709551616) (hK : K = ((dig x.toNat : Nat) : Int))
    (h : ∀ t' k', Q (.bytes (byteArr (KTBy.little (dig x.toNat) x).reverse) t') { s with toks := k' }) :
    wpAny (model prog w) A (call (.builtin "int.to_bytes") [.int x t, .int K u, .str (PySem.Str.ofString "big") v]) Q E s := by
  subst hK
  have a : x.toNat < 256 ^ 8 := by
    have e : (256 : Nat) ^ 8 = 18446744073709551616 := by decide
    rw [e]; omega
  have b : x < (256 : Int) ^ dig x.toNat := by
    have := (dig_spec x.toNat).1
    rw [KTBy.p256]
    omega
  refine KTBy.to_big (k := dig x.toNat) (dig_le a) rfl (by omega) b fun c t' k' hb _ => ?_
  rw [ints_eq hb]
  exact h t' k'
theorem bits_dig {x : Int} (h0 : 0 < x) : Int.fdiv ((Builtin.Int.intBits x : Nat) + 7) 8 = ((dig x.toNat : Nat) : Int) := by
  have e : ((x.toNat : Nat) : Int) = x := by omega
  have := dig_bits (n := x.toNat) (by omega)
  rw [e] at this
  rw [Int.fdiv_eq_ediv_of_nonneg _ (by decide)]
  omega
end

section
variable {w : World} {mean : ExcName → Option Value} {mg mb : Str → Option Value} {loose : List Str}
local macro_rules | `(tactic| walk_at "call builtin:int.to_bytes") => `(tactic| (k_here; refine Mine.to_big (by assumption) (by assumption) (by exact Mine.bits_dig (by assumption)) ?_; intro _ _))
theorem i2b (news : List (Addr × Obj)) (n : Int) (t : Tok) :
    CbClaim PySem.Challenge.rw_it0024_01.row.prog w (hd.heap_39 w.params) hd.view_39 loose mean mg mb 1350 news [] (56 ≤ n ∧ n < 18446744073709551616) [.int n t] (fun t => .bytes (byteArr (KTBy.little (dig n.toNat) n).reverse) t) := by
  k_with_none
  w_top off
  k_fill
  dsimp only [CbClaim, CbLists, CbRet]
  intro dp un gd cn cs a ccd cl outer A₀ base h₀ L m s Q E B F X N T hk hpre hdp hun hret
  obtain ⟨hn, hn2⟩ := hpre
  have hn0 : 0 < n := by omega
  have hbit : 1 ≤ Builtin.Int.intBits n := by
    have := bits_dig hn0
    rw [Int.fdiv_eq_ediv_of_nonneg _ (by decide), dig_pos (show n.toNat ≠ 0 by omega)] at this
    omega
  refine wpAny_call ?_
  k_dflt (refine' code_def (binds := [(PySem.Str.ofString "value", .int n t)]) ?k1 ?k2 ?k3 ?k4 ?k5 ?kA ?kF ?kK ?k6 ?k7 ?k8 ?k9 ?kB ?_ ?c2 ?c3 ?c4 ?c5; (case kA => exact rfl); (case kF => exact rfl); (case kK => assumption); (case k1 => k_asm); (case k2 => k_asm); (case k3 => k_asm); (case k4 => k_asm); (case k5 => k_asm); (case k6 => k_is); (case k7 => k_is); (case k8 => ktr_room); (case k9 => exact BindsTo.of_eq rfl); (case c5 => decide); (case kB => exact locs rfl); (case c2 => exact rfl); (case c3 => exact rfl); (case c4 => exact rfl); k_whole; intro g' L' h' FG' F' N' B' X' T'; (try dsimp only); (try k_lift B'); (try k_fold))
  k_steps
  · rename News h₀ _ _ _ => kN
    rename Fr h₀ _ _ _ => kF
    exact hret _ _ _ kF kN
  · exfalso
    rename (_ : Int) = 0 => e0
    rw [Int.fdiv_eq_ediv_of_nonneg _ (by decide)] at e0
    omega
end
end
end Mine

namespace Mine
section
open PySem PySem.W PySem.Calls PyProof.Rows PyProof.V PySem.Spec

theorem arr_append (ks ls : List Int) : byteArr ks ++ byteArr ls = byteArr (ks ++ ls) := by
  unfold byteArr
  rw [List.append_toArray, List.map_append]
section
variable {prog : Program} {w : World} {A : Around} {E : Value → Shared → Prop} {s : Shared} {h₀ : Heap} {L : Addr} {m : Str → Option Value}
theorem add_arr {ks ls : List Int} {t u : Tok} {Q : Value → Shared → Prop} (hs : ks.length + ls.length ≤ 16777216) (h : ∀ t' k, Q (.bytes (byteArr (ks ++ ls)) t') { s with toks := k }) :
    wpAny (model prog w) A (binaryOp .Add (.bytes (byteArr ks) t) (.bytes (byteArr ls) u)) Q E s := by
  refine KBy.add_bytes (by rw [byteArr_size, byteArr_size]; exact hs) fun t' k => ?_
  rw [arr_append]
  exact h t' k
theorem len_arr {ks : List Int} {t : Tok} {Q : Value → Shared → Prop} (hs : ks.length ≤ 1099511627776) (h : ∀ t' k, Q (.int (ks.length : Nat) t') { s with toks := k }) :
    wpAny (model prog w) A (call (.builtin "len") [.bytes (byteArr ks) t]) Q E s := by
  refine KBw.len_K (ks := KBw.bInts (byteArr ks)) rfl (by rw [KBw.ints_length, byteArr_size]; exact hs) ?_
  rw [KBw.ints_length, byteArr_size]
  exact h _ _
theorem ab_arr {value slice : PySem.Expr} {k : Int} {u : Tok} {Q : Value → Shared → Prop} (F : Fr h₀ L s.heap m) (X₀ : (hd.heap_39 w.params).In h₀) (h0 : 0 ≤ k) (h1 : k < 256)
    (h : ∀ t, Q (.bytes (byteArr [k]) t) s)
    (hs : subscripted slice false (.ref 1336) (.int k u) = operate [.ref 1336, .int k u] (getItem (.ref 1336) (.int k u)) := by with_unfolding_all rfl) :
    wpAny (model prog w) A (subscriptTail value slice (.ref 1336) (.int k u)) Q E s := ab_item F X₀ h0 h1 h hs
end
/-- a def's contract: n frames deep at most -/
def Claim (n : Nat) (w : World) (loose : List Str) (mean : ExcName → Option Value) (mg mb : Str → Option Value) (f : Addr) (pre : Prop) (vs : List Value) (R : Tok → Value) : Prop :=
  ∀ (news : List (Addr × Obj)) (dp un : Nat) (gd : Option (List Code)) (cn : Str) (cs : Scope) (a : Addr) (ccd : Value) (cl : List (Str × Addr)) (outer : List Env) (A₀ : Around) (base h₀ : Heap) (L : Addr) (m : Str → Option Value) (s : Shared) (Q E : Value → Shared → Prop),
    Below A₀ base outer h₀ → Fr h₀ L s.heap m → (hd.heap_39 w.params).In h₀ → News h₀ L s.heap news → Top hd.view_39 loose mean mg mb h₀ → cs.kind = .function → pre → dp + n < recursionLimit → un + 8 * n < cLine → CbRet h₀ L m news s Q R →
      wpAny (model PySem.Challenge.rw_it0024_01.row.prog w) (ktrTop dp un gd cn cs L a ccd cl outer) (call (.ref f) vs) Q E s
section
variable {w : World} {loose : List Str} {mean : ExcName → Option Value} {mg mb : Str → Option Value} {f : Addr} {pre : Prop} {vs : List Value} {R : Tok → Value}
theorem claim_of (C : ∀ news, CbClaim PySem.Challenge.rw_it0024_01.row.prog w (hd.heap_39 w.params) hd.view_39 loose mean mg mb f news [] pre vs R) : Claim 1 w loose mean mg mb f pre vs R :=
  fun news _ _ _ _ _ _ _ _ _ _ _ _ _ _ _ _ _ B F X N T hk hp hd hu hR => C news _ _ _ _ _ _ _ _ _ _ _ _ _ _ _ _ _ B F X N T hk hp hd hu hR
theorem use_claim {n : Nat} (C : Claim n w loose mean mg mb f pre vs R) {news : List (Addr × Obj)} {dp un : Nat} {gd : Option (List Code)} {cn : Str} {cs : Scope} {a : Addr} {ccd : Value} {cl : List (Str × Addr)} {outer : List Env} {A₀ : Around} {base h₀ : Heap} {L : Addr} {m : Str → Option Value} {s : Shared} {Q E : Value → Shared → Prop}
    (B : Below A₀ base outer h₀) (F : Fr h₀ L s.heap m) (X : (hd.heap_39 w.params).In h₀) (N : News h₀ L s.heap news) (T : Top hd.view_39 loose mean mg mb h₀) (hk : cs.kind = .function) (hp : pre) (hd : dp + n < recursionLimit) (hu : un + 8 * n < cLine) (hR : CbRet h₀ L m news s Q R) :
    wpAny (model PySem.Challenge.rw_it0024_01.row.prog w) (ktrTop dp un gd cn cs L a ccd cl outer) (call (.ref f) vs) Q E s := C _ _ _ _ _ _ _ _ _ _ _ _ _ _ _ _ _ _ B F X N T hk hp hd hu hR
end

section
variable {w : World} {mean : ExcName → Option Value} {mg mb : Str → Option Value} {loose : List Str}
theorem i2bC (n : Int) (t : Tok) : Claim 1 w loose mean mg mb 1350 (56 ≤ n ∧ n < 18446744073709551616) [.int n t] (fun t => .bytes (byteArr (KTBy.little (dig n.toNat) n).reverse) t) := claim_of fun news => i2b news n t
theorem octetsC (n k : Int) (t u : Tok) : Claim 1 w loose mean mg mb 1371 (0 ≤ n ∧ 0 ≤ k ∧ k < 1000) [.int n t, .int k u] (fun t => .bytes (byteArr (KTBy.little k.toNat n)) t) := claim_of fun news => octets news n k t u
local macro_rules | `(tactic| walk_at "subscriptTail") => `(tactic| (k_here; (with_reducible show wpAny _ _ (subscriptTail _ _ (Value.ref 1336) (Value.int _ _)) _ _ _); refine Mine.ab_arr (by assumption) (by assumption) (by omega) (by omega) ?_; intro _))
local macro_rules | `(tactic| walk_at "call builtin:len") => `(tactic| (k_here; (with_reducible show wpAny _ _ (call (Value.builtin "len") [Value.bytes (byteArr _) _]) _ _ _); refine Mine.len_arr ?z ?_; (case z => (simp only [List.length_reverse, KTBy.little_length]; omega)); intro _ _; (try simp only [List.length_reverse, KTBy.little_length])))
local macro_rules | `(tactic| walk_at "binaryOp Add bytes bytes") => `(tactic| (k_here; (with_reducible show wpAny _ _ (binaryOp Operator.Add (Value.bytes (byteArr _) _) (Value.bytes (byteArr _) _)) _ _ _); refine Mine.add_arr ?z ?_; (case z => (simp only [List.length_cons, List.length_nil, List.length_reverse, KTBy.little_length]; omega)); intro _ _))
local macro_rules | `(tactic| walk_at "call ref") => `(tactic| (k_here; (with_reducible show wpAny _ _ (call (Value.ref 1350) [Value.int _ _]) _ _ _); k_dflt (refine' Mine.use_claim (Mine.i2bC _ _) ?k1 ?k2 ?k3 ?k4 ?k5 ?kK ?kp ?kd ?ku ?_; (case k1 => k_asm); (case k2 => k_asm); (case k3 => k_asm); (case k4 => k_asm); (case k5 => k_asm); (case kK => first | exact rfl | assumption); (case kp => exact ⟨by omega, by omega⟩); (case kd => ktr_room); (case ku => ktr_units); intro t9 h9 tk9 F9 N9; (try dsimp only); (try k_fold))))
theorem lp (size base : Int) (t u : Tok) :
    Claim 2 w loose mean mg mb 1357 (0 ≤ size ∧ size < 18446744073709551616 ∧ (base = 128 ∨ base = 192)) [.int size t, .int base u] (fun t => .bytes (byteArr (headInts base size)) t) := by
  dsimp only [Claim, CbRet]
  k_with_none
  w_top off
  k_fill
  intro news dp un gd cn cs a ccd cl outer A₀ bse h₀ L m s Q E B F X N T hk hpre hdp hun hret
  obtain ⟨hs0, hs1, hb⟩ := hpre
  have hdig : dig size.toNat ≤ 8 := dig_le (by have e : (256 : Nat) ^ 8 = 18446744073709551616 := by decide
                                               rw [e]; omega)
  refine wpAny_call ?_
  k_dflt (refine' code_def (binds := [(PySem.Str.ofString "length", .int size t), (PySem.Str.ofString "offset", .int base u)]) ?k1 ?k2 ?k3 ?k4 ?k5 ?kA ?kF ?kK ?k6 ?k7 ?k8 ?k9 ?kB ?_ ?c2 ?c3 ?c4 ?c5; (case kA => exact rfl); (case kF => exact rfl); (case kK => assumption); (case k1 => k_asm); (case k2 => k_asm); (case k3 => k_asm); (case k4 => k_asm); (case k5 => k_asm); (case k6 => k_is); (case k7 => k_is); (case k8 => ktr_room); (case k9 => exact BindsTo.of_eq rfl); (case c5 => decide); (case kB => exact locs rfl); (case c2 => exact rfl); (case c3 => exact rfl); (case c4 => exact rfl); k_whole; intro g' L' h' FG' F' N' B' X' T'; (try dsimp only); (try k_lift B'); (try k_fold))
  k_steps
  · rename News h₀ _ _ _ => kN
    rename Fr h₀ _ _ _ => kF
    have e : headInts base size = [base + size] := by unfold headInts; rw [if_pos (by assumption)]
    rw [e] at hret
    exact hret _ _ _ kF kN
  · rename News h₀ _ _ _ => kN
    rename Fr h₀ _ _ _ => kF
    have e : headInts base size = [base + 56 - 1 + (dig size.toNat : Int)] ++ (KTBy.little (dig size.toNat) size).reverse := by
      unfold headInts
      rw [if_neg (by assumption)]
      show _ :: _ = _ :: _
      congr 1
      omega
    rw [e] at hret
    exact hret _ _ _ kF kN
end
end
end Mine

namespace Mine
section
open PySem PySem.W PySem.Calls PyProof.Rows PyProof.V PySem.Spec

section
variable {prog : Program} {w : World} {A : Around} {E : Value → Shared → Prop} {s : Shared} {h₀ : Heap} {L D : Addr} {m : Str → Option Value} {news news' : List (Addr × Obj)}
theorem ins0 {vs : List Value} {n : Nat} {u : Tok} {y : Value} {Q : Value → Shared → Prop} (F : Fr h₀ L s.heap m) (N : News h₀ L s.heap news)
    (U : Upd D (listOf vs.toArray n) (listOf (y :: vs).toArray (n + 1)) news news') (hz : vs.length ≤ sizeLine) (h : ∀ h', Fr h₀ L h' m → News h₀ L h' news' → Q .none { s with heap := h' }) :
    wpAny (model prog w) A (call (.builtin "list.insert") [.ref D, .int 0 u, y]) Q E s := by
  refine kl_insert F N (by rfl) ?_ U hz h
  show kl_ins vs 0 y = y :: vs
  unfold kl_ins
  simp
end

structure Hd (n₀ : Int) (j : Nat) (size : Int) (row : List Int) : Prop where
  num : size = n₀ / 256 ^ j
  row : row = (KTBy.little j n₀).reverse
  len : dig n₀.toNat = j + dig size.toNat
theorem hd_start (n : Int) (h : 0 ≤ n) : Hd n 0 n [] := ⟨by simp, rfl, by rw [Nat.zero_add]⟩
theorem hd_step {n size : Int} {j : Nat} {row : List Int} (h0 : 0 < size) (o : Hd n j size row) : Hd n (j + 1) (size.fdiv 256) (size.fmod 256 :: row) := by
  have e1 : size.fdiv 256 = size / 256 := Int.fdiv_eq_ediv_of_nonneg _ (by decide)
  have e2 : size.fmod 256 = size % 256 := Int.fmod_eq_emod_of_nonneg _ (by decide)
  rw [e1, e2]
  refine ⟨?_, ?_, ?_⟩
  · rw [o.num, Int.pow_succ]
    exact Int.ediv_ediv_of_nonneg (Int.le_of_lt (Int.pow_pos (by decide)))
  · rw [little_snoc, List.reverse_append, o.row, o.num]
    rfl
  · rw [o.len, dig_pos (show size.toNat ≠ 0 by omega)]
    have : (size / 256).toNat = size.toNat / 256 := by omega
    rw [this]
    omega
theorem hd_end {n : Int} {j : Nat} {size : Int} {row : List Int} (o : Hd n j size row) (h0 : 0 ≤ size) (hz : ¬ 0 < size) : j = dig n.toNat ∧ row = (KTBy.little (dig n.toNat) n).reverse := by
  have e : size = 0 := by omega
  have h := o.len
  rw [e] at h
  have : dig (0 : Int).toNat = 0 := dig_zero
  rw [this, Nat.add_zero] at h
  exact ⟨h.symm, by rw [h]; exact o.row⟩

section
variable {w : World} {mean : ExcName → Option Value} {mg mb : Str → Option Value} {loose : List Str}
local macro_rules | `(tactic| walk_at "call builtin:list.insert") => `(tactic| (k_here; (with_reducible show wpAny _ _ (call (Value.builtin _) [Value.ref _, Value.int _ _, _]) _ _ _); k_dflt (refine' Mine.ins0 ?F ?N ?U ?z ?_; (case F => k_asm); (case N => k_asm); (case U => k_upd); (case z => (rw [PySem.sizeLine_eq]; omega))); intro h' F' N'; (try k_sweep)))
theorem lh (size base : Int) (t u : Tok) :
    Claim 2 w loose mean mg mb 1378 (0 ≤ size ∧ size < 18446744073709551616 ∧ (base = 128 ∨ base = 192)) [.int base u, .int size t] (fun t => .bytes (byteArr (headInts base size)) t) := by
  dsimp only [Claim, CbRet]
  k_with_none
  w_top off
  k_fill
  intro news dp un gd cn cs a ccd cl outer A₀ bse h₀ L m s Q E B F X N T hk hpre hdp hun hret
  obtain ⟨hs0, hs1, hb⟩ := hpre
  have hdig : dig size.toNat ≤ 8 := dig_le (by have e : (256 : Nat) ^ 8 = 18446744073709551616 := by decide
                                               rw [e]; omega)
  refine wpAny_call ?_
  k_dflt (refine' code_def (binds := [(PySem.Str.ofString "base", .int base u), (PySem.Str.ofString "size", .int size t)]) ?k1 ?k2 ?k3 ?k4 ?k5 ?kA ?kF ?kK ?k6 ?k7 ?k8 ?k9 ?kB ?_ ?c2 ?c3 ?c4 ?c5; (case kA => exact rfl); (case kF => exact rfl); (case kK => assumption); (case k1 => k_asm); (case k2 => k_asm); (case k3 => k_asm); (case k4 => k_asm); (case k5 => k_asm); (case k6 => k_is); (case k7 => k_is); (case k8 => ktr_room); (case k9 => exact BindsTo.of_eq rfl); (case c5 => decide); (case kB => exact locs rfl); (case c2 => exact rfl); (case c3 => exact rfl); (case c4 => exact rfl); k_whole; intro g' L' h' FG' F' N' B' X' T'; (try dsimp only); (try k_lift B'); (try k_fold))
  k_with "exec While Compare cons nil" => refine Mine.Stop.out ?_
  k_steps
  · rename News h₀ _ _ _ => kN
    rename Fr h₀ _ _ _ => kF
    have e : headInts base size = [base + size] := by unfold headInts; rw [if_pos (by assumption)]
    rw [e] at hret
    exact hret _ _ _ kF (cb_drop kN fun p hp => .tail _ hp)
  · refine Mine.Stop.mk ?_
    rename Fr _ _ _ _ => lF'
    rename News _ _ _ _ => lN'
    with_unfolding_all refine' ksw_while (σ := Int × Tok × List Value × List Int × Nat) (fun c => (_, W.listOf c.2.2.1.toArray c.2.2.2.2) :: news) (fun c => [(PySem.Str.ofString "size", Value.int c.1 c.2.1)]) (fun c => IntsAre c.2.2.1 c.2.2.2.1) [] (fun c => Hd size c.2.2.2.1.length c.1 c.2.2.2.1 ∧ 0 ≤ c.1 ∧ c.2.2.1.length = c.2.2.2.1.length ∧ KBa.In c.2.2.2.1) (fun c => c.1.toNat) (size, t, [], [], 0) lF' lN' .nil ?kk ?kp ?turn
    case kk => exact List.forall_mem_cons.mpr ⟨by with_unfolding_all rfl, List.forall_mem_nil _⟩
    case kp => exact ⟨hd_start size hs0, hs0, rfl, fun _ hx => (nomatch hx)⟩
    case turn =>
      clear lF' lN'
      intro c v h tk kFacts kInv kFr kNews
      obtain ⟨num, tnum, vs, ns, cnt⟩ := c
      dsimp only [kstB] at kFr
      dsimp only at kNews kFacts kInv
      obtain ⟨ho, hn0, hvs, hin⟩ := kInv
      have hz : ns.length ≤ 8 := by have := ho.len; omega
      have hvz : vs.length ≤ 8 := by omega
      have kMark := kstMark
      k_steps
      · rename Fr _ _ _ _ => eF
        rename News _ _ _ _ => eN
        refine ksw_end (num.fdiv 256, _, _, num.fmod 256 :: ns, cnt + 1) eF eN (by intro p hp; exact hp) ?_ (by kst_all) ?_ ?_ ?_
        rotate_left 1
        · intro z h1 _
          have h3 : z ≠ PySem.Str.ofString "size" := h1 _ (.head _)
          simp [h3]
        rotate_left 2
        · exact .cons _ _ kFacts
        · refine ⟨hd_step (by assumption) ho, ?_, by simp [hvs], ?_⟩
          · show 0 ≤ num.fdiv 256
            rw [Int.fdiv_eq_ediv_of_nonneg _ (by decide)]
            omega
          · intro y hy
            rcases List.mem_cons.mp hy with rfl | hy
            · rw [Int.fmod_eq_emod_of_nonneg _ (by decide)]
              omega
            · exact hin y hy
        · show (num.fdiv 256).toNat < num.toNat
          rw [Int.fdiv_eq_ediv_of_nonneg _ (by decide)]
          omega
      · have hE := hd_end ho hn0 (by assumption)
        rename Fr _ _ _ _ => eF
        rename News _ _ _ _ => eN
        rename IntsAre _ (_ ++ _) => eI
        have hin2 : KBa.In ([base + 55 + ((ns.length : Nat) : Int)] ++ ns) := by
          intro y hy
          rcases List.mem_append.mp hy with hy | hy
          · rw [List.mem_singleton.mp hy]
            omega
          · exact hin y hy
        k_dflt (refine' KBa.make_K eF eN (by rfl) (News.isList eN (.head _)) eI hin2 (by simp only [List.length_append, List.length_cons, List.length_nil]; omega) ?_)
        intro _ _ _ F' N' _
        k_steps
        rename News h₀ _ _ _ => kN
        rename Fr h₀ _ _ _ => kF
        have e : headInts base size = [base + 55 + ((ns.length : Nat) : Int)] ++ ns := by
          unfold headInts
          rw [if_neg (by assumption), ← hE.2, ← hE.1]
          rfl
        rw [e] at hret
        exact hret _ _ _ kF (cb_drop kN fun p hp => .tail _ (.tail _ (.tail _ hp)))
end
end
end Mine

namespace Mine
section
open PySem PySem.W PySem.Calls PyProof.Rows PyProof.V PySem.Spec

section
variable {w : World} {mean : ExcName → Option Value} {mg mb : Str → Option Value} {loose : List Str}
theorem b2i (ks : List Int) (t : Tok) :
    Claim 1 w loose mean mg mb 1343 (KBa.In ks ∧ ks.length ≤ 8) [.bytes (byteArr ks) t] (fun t => .int (KFB.value ks) t) := by
  dsimp only [Claim, CbRet]
  k_with_none
  w_top off
  k_fill
  intro news dp un gd cn cs a ccd cl outer A₀ bse h₀ L m s Q E B F X N T hk hpre hdp hun hret
  obtain ⟨hin, hz⟩ := hpre
  refine wpAny_call ?_
  k_dflt (refine' code_def (binds := [(PySem.Str.ofString "value", .bytes (byteArr ks) t)]) ?k1 ?k2 ?k3 ?k4 ?k5 ?kA ?kF ?kK ?k6 ?k7 ?k8 ?k9 ?kB ?_ ?c2 ?c3 ?c4 ?c5; (case kA => exact rfl); (case kF => exact rfl); (case kK => assumption); (case k1 => k_asm); (case k2 => k_asm); (case k3 => k_asm); (case k4 => k_asm); (case k5 => k_asm); (case k6 => k_is); (case k7 => k_is); (case k8 => ktr_room); (case k9 => exact BindsTo.of_eq rfl); (case c5 => decide); (case kB => exact locs rfl); (case c2 => exact rfl); (case c3 => exact rfl); (case c4 => exact rfl); k_whole; intro g' L' h' FG' F' N' B' X' T'; (try dsimp only); (try k_lift B'); (try k_fold))
  k_steps
  rename News h₀ _ _ _ => kN
  rename Fr h₀ _ _ _ => kF
  exact hret _ _ _ kF (cb_drop kN fun p hp => .tail _ hp)
end
end
end Mine

namespace Mine
section
open PySem PySem.W PySem.Calls PyProof.Rows PyProof.V PySem.Spec

theorem value_snoc (l : List Int) (y : Int) : KFB.value (l ++ [y]) = KFB.value l * 256 + y := by
  unfold KFB.value
  rw [List.foldl_append]
  rfl
theorem value_little : ∀ (k : Nat) (n : Int), 0 ≤ n → n < 256 ^ k → KFB.value (KTBy.little k n).reverse = n
  | 0, n, h0, h1 => by
    rw [Int.pow_zero] at h1
    show (0 : Int) = n
    omega
  | k + 1, n, h0, h1 => by
    rw [Int.pow_succ] at h1
    show KFB.value (n % 256 :: KTBy.little k (n / 256)).reverse = n
    rw [List.reverse_cons, value_snoc, value_little k (n / 256) (by omega) (by omega)]
    omega
theorem first_digit {n : Int} (h : 0 < n) : ∃ d ds, (KTBy.little (dig n.toNat) n).reverse = d :: ds ∧ 0 < d ∧ d < 256 := by
  have hp := dig_pos (n := n.toNat) (by omega)
  obtain ⟨a, b⟩ := dig_spec n.toNat
  have b := b (by omega)
  rw [hp] at a b ⊢
  refine ⟨_, _, by rw [little_snoc, List.reverse_append]; rfl, ?_, ?_⟩
  · generalize dig (n.toNat / 256) = k at *
    rw [Nat.pow_succ] at a b
    have e : n = ((n.toNat : Nat) : Int) := by omega
    rw [e, KTBy.p256]
    generalize n.toNat = x at *
    have h1 : x / 256 ^ k < 256 := by
      apply Nat.div_lt_of_lt_mul
      exact a
    have h2 : 1 ≤ x / 256 ^ k := by
      apply (Nat.one_le_div_iff (Nat.pow_pos (by decide))).mpr
      omega
    omega
  · omega

section
variable {prog : Program} {w : World} {A : Around} {E : Value → Shared → Prop} {s : Shared} {h₀ : Heap} {L : Addr} {m : Str → Option Value} {news : List (Addr × Obj)} {value slice : PySem.Expr} {t ui : Tok} {Q : Value → Shared → Prop}
theorem item_arr {ks : List Int} {i v : Int} (hin : KBa.In ks) (hz : ks.length ≤ 100000) (h0 : 0 ≤ i) (hv : ks[i.toNat]? = some v) (h : ∀ t' k, Q (.int v t') { s with toks := k })
    (hs : subscripted slice false (.bytes (byteArr ks) t) (.int i ui) = operate [.bytes (byteArr ks) t, .int i ui] (getItem (.bytes (byteArr ks) t) (.int i ui)) := by with_unfolding_all rfl)
    (ht : ∀ r, letTemporaryGo value (.bytes (byteArr ks) t) r = pure () := by intro _; with_unfolding_all rfl) : wpAny (model prog w) A (subscriptTail value slice (.bytes (byteArr ks) t) (.int i ui)) Q E s := by
  have hlt := (List.getElem?_eq_some_iff.mp hv).1
  refine KBw.item_K (KBa.ints_make hin) (by omega) h0 (by omega) (fun t' k _ _ => ?_) hs ht
  rw [List.getD_eq_getElem?_getD, hv]
  exact h t' k
theorem slice_arr {ks out : List Int} {a b : Int} {ta tb : Tok} (hF : Fr h₀ L s.heap m) (hN : News h₀ L s.heap news) (hin : KBa.In ks) (hz : ks.length ≤ 100000) (h0 : 0 ≤ a) (hab : a ≤ b) (hb : b ≤ (ks.length : Int))
    (hout : (ks.drop a.toNat).take (b.toNat - a.toNat) = out) (h : ∀ h' t' k, Fr h₀ L h' m → News h₀ L h' news → Q (.bytes (byteArr out) t') { s with heap := h', toks := k })
    (hs : subscripted slice false (.bytes (byteArr ks) t) (.ref s.heap.objs.size) = operate [.ref s.heap.objs.size, .bytes (byteArr ks) t] (getItem (.bytes (byteArr ks) t) (.ref s.heap.objs.size)) := by with_unfolding_all rfl)
    (ht : ∀ r, letTemporaryGo value (.bytes (byteArr ks) t) r = pure () := by intro _; with_unfolding_all rfl) :
    wpAny (model prog w) A (subscriptTail value slice (.bytes (byteArr ks) t) (.ref s.heap.objs.size)) Q E { s with heap := s.heap.push { cls := .type "slice", data := .fields #[.int a ta, .int b tb, .none] } } := by
  refine KBc.slice_K hF hN (KBa.ints_make hin) (.int a ta) (.int b tb) (by omega) (fun h' t' k F N e => ?_) hs ht
  have ea : clipAt ks.length a = a.toNat := by
    have := clipAt_cast ks.length a
    rw [if_neg (by omega)] at this
    omega
  have eb : clipAt ks.length b = b.toNat := by
    have := clipAt_cast ks.length b
    rw [if_neg (by omega)] at this
    omega
  simp only [Option.elim, ea, eb] at e
  rw [hout] at e
  rw [ints_eq e]
  exact h h' t' k F N
theorem not_nought {d : Int} {u : Tok} (h0 : 0 < d) (h1 : d < 256) (h : Q (.bool false) s) : wpAny (model prog w) A (compareOp .Eq (.bytes (byteArr [d]) t) (.bytes (List.toArray [0]) u)) Q E s := by
  refine eq_bytes ?_
  have : ((byteArr [d]).toList == ([0] : List UInt8).toArray.toList) = false := by
    rw [beq_eq_false_iff_ne]
    intro e
    have e2 : d.toNat.toUInt8 = (0 : UInt8) := List.head_eq_of_cons_eq e
    have := byte_back (n := d) (by omega) h1
    rw [e2] at this
    have e3 : (0 : UInt8).toNat = 0 := rfl
    rw [e3] at this
    omega
  rw [this]
  exact h
end
/-- the octets that consume_length_prefix reads: bs in front, the head c :: ds, one octet 255 behind -/
def reads (bs ds : List Int) (c : Int) : List Int := bs ++ c :: (ds ++ [255])
theorem reads_len (bs ds : List Int) (c : Int) : (reads bs ds c).length = bs.length + ds.length + 2 := by
  unfold reads
  simp only [List.length_append, List.length_cons, List.length_nil]
  omega
theorem reads_head (bs ds : List Int) (c : Int) {i : Int} (h : i = (bs.length : Int)) : (reads bs ds c)[i.toNat]? = some c := by
  unfold reads
  subst h
  simp
theorem reads_next (bs : List Int) (c : Int) {i : Int} (h : i = (bs.length : Int) + 1) : (reads bs [] c)[i.toNat]? = some 255 := by
  unfold reads
  subst h
  have : ((bs.length : Int) + 1).toNat = bs.length + 1 := by omega
  rw [this]
  simp
theorem cut_head (bs ds : List Int) (c : Int) {a b : Int} (ha : a = (bs.length : Int)) (hb : b = (bs.length : Int) + 1) : ((reads bs ds c).drop a.toNat).take (b.toNat - a.toNat) = [c] := by
  unfold reads
  have e1 : a.toNat = bs.length := by omega
  have e2 : b.toNat - a.toNat = 1 := by omega
  rw [e2, e1]
  simp
theorem cut_next (bs ds : List Int) (c d : Int) {a b : Int} (ha : a = (bs.length : Int) + 1) (hb : b = (bs.length : Int) + 2) : ((reads bs (d :: ds) c).drop a.toNat).take (b.toNat - a.toNat) = [d] := by
  unfold reads
  have e1 : a.toNat = bs.length + 1 := by omega
  have e2 : b.toNat - a.toNat = 1 := by omega
  rw [e2, e1, List.drop_append, List.drop_eq_nil_of_le (by omega)]
  simp
theorem cut_digits (bs ds : List Int) (c : Int) {a b : Int} (ha : a = (bs.length : Int) + 1) (hb : b = (bs.length : Int) + 1 + (ds.length : Int)) : ((reads bs ds c).drop a.toNat).take (b.toNat - a.toNat) = ds := by
  unfold reads
  have e1 : a.toNat = bs.length + 1 := by omega
  have e2 : b.toNat - a.toNat = ds.length := by omega
  rw [e2, e1, List.drop_append, List.drop_eq_nil_of_le (by omega)]
  simp
end
end Mine

namespace Mine
section
open PySem PySem.W PySem.Calls PyProof.Rows PyProof.V PySem.Spec

/-- consume_length_prefix's contract: it makes one tuple -/
def ClaimP (w : World) (loose : List Str) (mean : ExcName → Option Value) (mg mb : Str → Option Value) (bs ds : List Int) (c : Int) (kind : Str) (z e : Int) : Prop :=
  ∀ (t u : Tok) (news : List (Addr × Obj)) (dp un : Nat) (gd : Option (List Code)) (cn : Str) (cs : Scope) (a : Addr) (ccd : Value) (cl : List (Str × Addr)) (outer : List Env) (A₀ : Around) (bse h₀ : Heap) (L : Addr) (m : Str → Option Value) (s : Shared) (Q E : Value → Shared → Prop),
    Below A₀ bse outer h₀ → Fr h₀ L s.heap m → (hd.heap_39 w.params).In h₀ → News h₀ L s.heap news → Top hd.view_39 loose mean mg mb h₀ → cs.kind = .function → dp + 2 < recursionLimit → un + 16 < cLine →
    (∀ (T : Addr) (h' : Heap) (tk' : Nat) (t1 t2 t3 t4 : Tok), Fr h₀ L h' m → News h₀ L h' ((T, { cls := Value.type "tuple", data := Data.seq #[Value.bytes (byteArr (c :: ds)) t1, Value.str kind t2, Value.int z t3, Value.int e t4] }) :: news) → (∀ p ∈ news, p.1 < T) → Q (.ref T) { s with heap := h', toks := tk' }) →
      wpAny (model PySem.Challenge.rw_it0024_01.row.prog w) (ktrTop dp un gd cn cs L a ccd cl outer) (call (.ref 1364) [.bytes (byteArr (reads bs ds c)) t, .int (bs.length : Nat) u]) Q E s

section
variable {w : World} {mean : ExcName → Option Value} {mg mb : Str → Option Value} {loose : List Str}
local macro_rules | `(tactic| walk_at "subscriptTail") => `(tactic| (k_here; (with_reducible show wpAny _ _ (subscriptTail _ _ (Value.bytes (byteArr (Mine.reads _ _ _)) _) (Value.int _ _)) _ _ _); refine Mine.item_arr (by assumption) (by (simp only [Mine.reads_len, List.length_nil, List.length_cons]; omega)) (by omega) (by first | exact Mine.reads_head _ _ _ (by omega) | exact Mine.reads_next _ _ (by omega)) ?_; intro _ _))
local macro_rules | `(tactic| walk_at "subscriptTail") => `(tactic| (k_here; (with_reducible show wpAny _ _ (subscriptTail _ (Expr.Slice _ _ none _) (Value.bytes (byteArr (Mine.reads _ _ _)) _) (Value.ref _)) _ _ _); (with_reducible rename Fr _ _ _ _ => F'); (with_reducible rename News _ _ _ _ => N'); refine Mine.slice_arr (s := ⟨_, _, _, _, _⟩) F' N' (by assumption) (by (simp only [Mine.reads_len, List.length_nil, List.length_cons]; omega)) (by omega) (by omega) (by (simp only [Mine.reads_len, List.length_nil, List.length_cons]; omega)) (by first | exact Mine.cut_head _ _ _ (by omega) (by omega) | exact Mine.cut_next _ _ _ _ (by omega) (by omega) | exact Mine.cut_digits _ _ _ (by omega) (by (simp only [List.length_cons]; omega))) ?_; clear F' N'; intro _ _ _ F' N'))
local macro_rules | `(tactic| walk_at "compareOp Eq bytes bytes") => `(tactic| (k_here; refine Mine.not_nought (by assumption) (by assumption) ?_))
local macro_rules | `(tactic| walk_at "binaryOp Add bytes bytes") => `(tactic| (k_here; (with_reducible show wpAny _ _ (binaryOp Operator.Add (Value.bytes (byteArr _) _) (Value.bytes (byteArr _) _)) _ _ _); refine Mine.add_arr ?z ?_; (case z => (simp only [List.length_cons, List.length_nil]; omega)); intro _ _))
local macro_rules | `(tactic| walk_at "call ref") => `(tactic| (k_here; (with_reducible show wpAny _ _ (call (Value.ref 1343) [Value.bytes _ _]) _ _ _); k_dflt (refine' Mine.use_claim (Mine.b2i _ _) ?k1 ?k2 ?k3 ?k4 ?k5 ?kK ?kp ?kd ?ku ?_; (case k1 => k_asm); (case k2 => k_asm); (case k3 => k_asm); (case k4 => k_asm); (case k5 => k_asm); (case kK => first | exact rfl | assumption); (case kp => exact ⟨by assumption, by assumption⟩); (case kd => ktr_room); (case ku => ktr_units); intro t9 h9 tk9 F9 N9; (try dsimp only); (try k_fold))))
theorem clpA (bs : List Int) (size : Int) (hs0 : 0 ≤ size) (hs1 : size < 56) (hin : KBa.In (reads bs [] (128 + size))) (hbs : bs.length ≤ 1000) :
    ClaimP w loose mean mg mb bs [] (128 + size) (PySem.Str.ofString "bytes") (128 + size - 128) ((bs.length : Nat) + 1) := by
  dsimp only [ClaimP]
  k_with_none
  w_top off
  k_fill
  intro t u news dp un gd cn cs a ccd cl outer A₀ bse h₀ L m s Q E B F X N T hk hdp hun hret
  refine wpAny_call ?_
  k_dflt (refine' code_def (binds := [(PySem.Str.ofString "rlp", .bytes (byteArr (reads bs [] (128 + size))) t), (PySem.Str.ofString "start", .int (bs.length : Nat) u)]) ?k1 ?k2 ?k3 ?k4 ?k5 ?kA ?kF ?kK ?k6 ?k7 ?k8 ?k9 ?kB ?_ ?c2 ?c3 ?c4 ?c5; (case kA => exact rfl); (case kF => exact rfl); (case kK => assumption); (case k1 => k_asm); (case k2 => k_asm); (case k3 => k_asm); (case k4 => k_asm); (case k5 => k_asm); (case k6 => k_is); (case k7 => k_is); (case k8 => ktr_room); (case k9 => exact BindsTo.of_eq rfl); (case c5 => decide); (case kB => exact locs rfl); (case c2 => exact rfl); (case c3 => exact rfl); (case c4 => exact rfl); k_whole; intro g' L' h' FG' F' N' B' X' T'; (try dsimp only); (try k_lift B'); (try k_fold))
  k_steps
  all_goals (
    rename News h₀ _ _ _ => kN
    rename Fr h₀ _ _ _ => kF
    exact hret _ _ _ _ _ _ _ kF kN (by assumption))
theorem clpB (bs : List Int) (size : Int) (hs0 : 0 ≤ size) (hs1 : size < 56) (hin : KBa.In (reads bs [] (192 + size))) (hbs : bs.length ≤ 1000) :
    ClaimP w loose mean mg mb bs [] (192 + size) (PySem.Str.ofString "list") (192 + size - 192) ((bs.length : Nat) + 1) := by
  dsimp only [ClaimP]
  k_with_none
  w_top off
  k_fill
  intro t u news dp un gd cn cs a ccd cl outer A₀ bse h₀ L m s Q E B F X N T hk hdp hun hret
  refine wpAny_call ?_
  k_dflt (refine' code_def (binds := [(PySem.Str.ofString "rlp", .bytes (byteArr (reads bs [] (192 + size))) t), (PySem.Str.ofString "start", .int (bs.length : Nat) u)]) ?k1 ?k2 ?k3 ?k4 ?k5 ?kA ?kF ?kK ?k6 ?k7 ?k8 ?k9 ?kB ?_ ?c2 ?c3 ?c4 ?c5; (case kA => exact rfl); (case kF => exact rfl); (case kK => assumption); (case k1 => k_asm); (case k2 => k_asm); (case k3 => k_asm); (case k4 => k_asm); (case k5 => k_asm); (case k6 => k_is); (case k7 => k_is); (case k8 => ktr_room); (case k9 => exact BindsTo.of_eq rfl); (case c5 => decide); (case kB => exact locs rfl); (case c2 => exact rfl); (case c3 => exact rfl); (case c4 => exact rfl); k_whole; intro g' L' h' FG' F' N' B' X' T'; (try dsimp only); (try k_lift B'); (try k_fold))
  k_steps
  all_goals (
    rename News h₀ _ _ _ => kN
    rename Fr h₀ _ _ _ => kF
    exact hret _ _ _ _ _ _ _ kF kN (by assumption))
theorem clpC (bs ds : List Int) (d k size : Int) (hk8 : (ds.length : Int) + 1 = k) (hk9 : k ≤ 8) (hd0 : 0 < d) (hd1 : d < 256) (hv : KFB.value (d :: ds) = size) (hs : 56 ≤ size) (hin : KBa.In (reads bs (d :: ds) (183 + k))) (hin2 : KBa.In (d :: ds)) (hbs : bs.length ≤ 1000) :
    ClaimP w loose mean mg mb bs (d :: ds) (183 + k) (PySem.Str.ofString "bytes") size ((bs.length : Nat) + 1 + (183 + k - 183)) := by
  dsimp only [ClaimP]
  k_with_none
  w_top off
  k_fill
  intro t u news dp un gd cn cs a ccd cl outer A₀ bse h₀ L m s Q E B F X N T hk hdp hun hret
  have hz2 : (d :: ds).length ≤ 8 := by simp only [List.length_cons]; omega
  refine wpAny_call ?_
  k_dflt (refine' code_def (binds := [(PySem.Str.ofString "rlp", .bytes (byteArr (reads bs (d :: ds) (183 + k))) t), (PySem.Str.ofString "start", .int (bs.length : Nat) u)]) ?k1 ?k2 ?k3 ?k4 ?k5 ?kA ?kF ?kK ?k6 ?k7 ?k8 ?k9 ?kB ?_ ?c2 ?c3 ?c4 ?c5; (case kA => exact rfl); (case kF => exact rfl); (case kK => assumption); (case k1 => k_asm); (case k2 => k_asm); (case k3 => k_asm); (case k4 => k_asm); (case k5 => k_asm); (case k6 => k_is); (case k7 => k_is); (case k8 => ktr_room); (case k9 => exact BindsTo.of_eq rfl); (case c5 => decide); (case kB => exact locs rfl); (case c2 => exact rfl); (case c3 => exact rfl); (case c4 => exact rfl); k_whole; intro g' L' h' FG' F' N' B' X' T'; (try dsimp only); (try k_lift B'); (try k_fold))
  k_steps
  all_goals (
    rename News h₀ _ _ _ => kN
    rename Fr h₀ _ _ _ => kF
    rw [hv] at kN
    exact hret _ _ _ _ _ _ _ kF kN (by assumption))
theorem clpD (bs ds : List Int) (d k size : Int) (hk8 : (ds.length : Int) + 1 = k) (hk9 : k ≤ 8) (hd0 : 0 < d) (hd1 : d < 256) (hv : KFB.value (d :: ds) = size) (hs : 56 ≤ size) (hin : KBa.In (reads bs (d :: ds) (247 + k))) (hin2 : KBa.In (d :: ds)) (hbs : bs.length ≤ 1000) :
    ClaimP w loose mean mg mb bs (d :: ds) (247 + k) (PySem.Str.ofString "list") size ((bs.length : Nat) + 1 + (247 + k - 192 - 56 + 1)) := by
  dsimp only [ClaimP]
  k_with_none
  w_top off
  k_fill
  intro t u news dp un gd cn cs a ccd cl outer A₀ bse h₀ L m s Q E B F X N T hk hdp hun hret
  have hz2 : (d :: ds).length ≤ 8 := by simp only [List.length_cons]; omega
  refine wpAny_call ?_
  k_dflt (refine' code_def (binds := [(PySem.Str.ofString "rlp", .bytes (byteArr (reads bs (d :: ds) (247 + k))) t), (PySem.Str.ofString "start", .int (bs.length : Nat) u)]) ?k1 ?k2 ?k3 ?k4 ?k5 ?kA ?kF ?kK ?k6 ?k7 ?k8 ?k9 ?kB ?_ ?c2 ?c3 ?c4 ?c5; (case kA => exact rfl); (case kF => exact rfl); (case kK => assumption); (case k1 => k_asm); (case k2 => k_asm); (case k3 => k_asm); (case k4 => k_asm); (case k5 => k_asm); (case k6 => k_is); (case k7 => k_is); (case k8 => ktr_room); (case k9 => exact BindsTo.of_eq rfl); (case c5 => decide); (case kB => exact locs rfl); (case c2 => exact rfl); (case c3 => exact rfl); (case c4 => exact rfl); k_whole; intro g' L' h' FG' F' N' B' X' T'; (try dsimp only); (try k_lift B'); (try k_fold))
  k_steps
  all_goals (
    rename News h₀ _ _ _ => kN
    rename Fr h₀ _ _ _ => kF
    rw [hv] at kN
    exact hret _ _ _ _ _ _ _ kF kN (by assumption))
end
end
end Mine

namespace Mine
section
open PySem PySem.W PySem.Calls PyProof.Rows PyProof.V PySem.Spec

/-- what a turn may leave: the ledger as it was, the names that it does not store as they were -/
def Same (x : Str) (stored : List Str) (m₀ : Str → Option Value) (news : List (Addr × Obj)) (m' : Str → Option Value) (nx : List (Addr × Obj)) : Prop :=
  nx = news ∧ ∀ z, z ≠ x → stored.contains z = false → m' z = m₀ z
theorem Same.frame {x : Str} {stored : List Str} {m₀ m' : Str → Option Value} {news nx : List (Addr × Obj)} (S : Same x stored m₀ news m' nx) : m' = fun y => if y = x then m' y else if stored.contains y = true then m' y else m₀ y := by
  funext y
  by_cases h1 : y = x
  · rw [if_pos h1]
  · rw [if_neg h1]
    cases h2 : stored.contains y with
    | true => rw [if_pos rfl]
    | false => rw [if_neg Bool.false_ne_true]; exact S.2 y h1 h2
theorem Same.turn {x : Str} {stored : List Str} {m₀ m' : Str → Option Value} {news nx : List (Addr × Obj)} (S : Same x stored m₀ news m' nx) (v : Value) : (fun y => if y = x then some v else m' y) = fun y => if y = x then some v else if stored.contains y = true then m' y else m₀ y := by
  funext y
  by_cases h1 : y = x
  · rw [if_pos h1, if_pos h1]
  · rw [if_neg h1, if_neg h1]
    cases h2 : stored.contains y with
    | true => rw [if_pos rfl]
    | false => rw [if_neg Bool.false_ne_true]; exact S.2 y h1 h2

section
variable {prog : Program} {w : World} {A : Around} {E : Value → Shared → Prop} {s : Shared} {env : Env} {h₀ : Heap} {x : Str} {body : List Stmt} {Q : Flow → Shared → Prop}
theorem list_loop {l : Addr} {vs : List Value} {ns : List Int} {nn : Nat} {m₀ : Str → Option Value} {news : List (Addr × Obj)} (stored : List Str)
    (hh : A.handled = none) (hl : (l, listOf vs.toArray nn) ∈ news) (hi : IntsAre vs ns) (F : Fr h₀ env.locals s.heap m₀) (N : News h₀ env.locals s.heap news)
    (turn : ∀ n t (u : Str → Option Value) h tk own, n ∈ ns → OwnOff own (news.map (·.1)) → Fr h₀ env.locals h (fun y => if y = x then some (.int n t) else if stored.contains y = true then u y else m₀ y) → News h₀ env.locals h (news ++ own) →
      wpAny (model prog w) A (execs body env) (InvPostN h₀ env.locals (Same x stored m₀ news) own (news.map (·.1)) { s with heap := h, toks := tk } Q) E { s with heap := h, toks := tk })
    (done : ∀ (u : Str → Option Value) h tk, Fr h₀ env.locals h (fun y => if y = x then u y else if stored.contains y = true then u y else m₀ y) → News h₀ env.locals h news → Q .next { s with heap := h, toks := tk }) :
    wpAny (model prog w) A (pyIter (.ref l)) (fun it s₂ => LoopAtV prog w A h₀ env x body Q E it s₂) E s := by
  refine iter_invNL (fun _ m nx => Same x stored m₀ news m nx) hh hl hi F N ⟨rfl, fun _ _ _ => rfl⟩ ?_ ?_
  · rintro i n t m₁ nx h tk own hn _ hoff _ S F₁ N₁
    rw [S.turn] at F₁
    rw [S.1] at N₁
    refine wpAny_mono (turn n t m₁ h tk own (List.mem_of_getElem? hn) hoff F₁ N₁) (fun f s₂ p => ?_) fun _ _ x => x
    have up : InvEndN h₀ env.locals (Same x stored m₀ news) own (news.map (·.1)) { s with heap := h, toks := tk } s₂ →
        InvEndN h₀ env.locals (fun m' nx => (l, listOf vs.toArray nn) ∈ nx ∧ Same x stored m₀ news m' nx) own (news.map (·.1)) { s with heap := h, toks := tk } s₂ := by
      rintro ⟨h', tk', m', news', nx, e, F', N', hn', ho', ha, hS⟩
      exact ⟨h', tk', m', news', nx, e, F', N', hn', ho', ha, by rw [hS.1]; exact hl, hS⟩
    cases f with
    | ret v => exact p
    | brk => exact p
    | next => exact up p
    | cont => exact up p
  · rintro m₁ nx h tk _ S F₁ N₁
    rw [S.frame] at F₁
    rw [S.1] at N₁
    exact done m₁ h tk F₁ N₁

theorem tup_loop {l : Addr} {vs : List Value} {ns : List Int} {nn : Nat} {m₀ : Str → Option Value} {news : List (Addr × Obj)} (stored : List Str)
    (hh : A.handled = none) (hl : (l, ({ cls := .type "tuple", data := .seq vs.toArray nn } : Obj)) ∈ news) (hi : IntsAre vs ns) (F : Fr h₀ env.locals s.heap m₀) (N : News h₀ env.locals s.heap news)
    (turn : ∀ n t (u : Str → Option Value) h tk own, n ∈ ns → OwnOff own (news.map (·.1)) → Fr h₀ env.locals h (fun y => if y = x then some (.int n t) else if stored.contains y = true then u y else m₀ y) → News h₀ env.locals h (news ++ own) →
      wpAny (model prog w) A (execs body env) (InvPostN h₀ env.locals (Same x stored m₀ news) own (news.map (·.1)) { s with heap := h, toks := tk } Q) E { s with heap := h, toks := tk })
    (done : ∀ (u : Str → Option Value) h tk, Fr h₀ env.locals h (fun y => if y = x then u y else if stored.contains y = true then u y else m₀ y) → News h₀ env.locals h news → Q .next { s with heap := h, toks := tk }) :
    wpAny (model prog w) A (pyIter (.ref l)) (fun it s₂ => LoopAtV prog w A h₀ env x body Q E it s₂) E s := by
  have hol := (N _ hl).1
  have hT : s.heap.IsTuple l vs.toArray := ⟨_, hol, rfl, nn, rfl⟩
  have hlt : l < s.heap.objs.size := Heap.lt_size hol
  refine wpAny_pyIter_tuple hT ?_
  have W := Walks.tuple (prog := prog) (w := w) hh s.heap.objs.size l (Nat.ne_of_lt hlt) vs.toArray
  have hlen : vs.toArray.size = ns.length := by simp [hi.length]
  rw [hlen] at W
  refine ⟨_, _, _, ns.length, _, _, m₀, news, (fun _ m nx => Same x stored m₀ news m nx), rfl, W, ?_, ?_, ?_, ⟨⟨_, Heap.get?_push_size _ rfl, rfl, rfl⟩, hT.at fun o e => Heap.get?_push_of_some _ e⟩, F.push _, (fun p hp => ⟨Heap.get?_push_of_some _ (N p hp).1, (N p hp).2⟩), ⟨rfl, fun _ _ _ => rfl⟩, ?_, ?_⟩
  · intro hm
    rcases List.mem_cons.mp hm with e | hm
    · exact absurd F.ns.lt (e ▸ Nat.lt_irrefl _)
    · exact (N _ hl).2.1 (List.mem_singleton.mp hm).symm
  · intro b hb
    rw [List.mem_singleton.mp hb]
    exact next_is_new F
  · intro p hp hI
    exact absurd (Heap.lt_size (N p hp).1) (List.mem_singleton.mp hI ▸ Nat.lt_irrefl _)
  · rintro i v m₁ nx s₁ own ⟨hh', tk', rfl⟩ hin hP S _ hown hget _ _ F₁ N₁
    rw [S.1] at N₁
    rw [S.turn] at F₁
    have hlt' : i < ns.length := hin
    obtain ⟨t, hx⟩ := hi.get i ns[i] (by simp [hlt'])
    have hv : v = .int ns[i] t := by
      have hP' : vs[i]? = some v := by simpa using hP
      rw [hx] at hP'
      exact (Option.some.inj hP').symm
    subst hv
    -- of what the loop itself holds only the iterator is new to the ledger
    let it := own.filter fun p => decide (p.1 = s.heap.objs.size)
    have hit : OwnOff it (news.map (·.1)) := by
      intro p hp b hb e
      obtain ⟨q, hq, rfl⟩ := List.mem_map.mp hb
      have h1 : p.1 = s.heap.objs.size := by simpa using (List.mem_filter.mp hp).2
      exact absurd (Heap.lt_size (N q hq).1) (by rw [← e, h1]; exact Nat.lt_irrefl _)
    have N₂ : News h₀ env.locals hh' (news ++ it) := fun p hp => N₁ p ((List.mem_append.mp hp).elim (fun h => List.mem_append.mpr (.inr h)) fun h => List.mem_append.mpr (.inl (List.mem_filter.mp h).1))
    have hlo := (N₁ _ (List.mem_append.mpr (.inr hl))).1
    refine wpAny_mono (turn ns[i] t m₁ hh' tk' it (by simp) hit F₁ N₂) (fun f s₂ p => ?_) fun _ _ e => e
    have fin : InvEndN h₀ env.locals (Same x stored m₀ news) it (news.map (·.1)) { s with heap := hh', toks := tk' } s₂ →
        LoopStepU h₀ env.locals [s.heap.objs.size] own (fun m nx => Same x stored m₀ news m nx) { s with heap := hh', toks := tk' } .next s₂ := by
      rintro ⟨h', tk, m', news', nx', e, F', N', hn, ho, _, hS⟩
      refine ⟨rfl, h', tk, m', nx', e, F', fun p hp => ?_, fun p hp hI => ?_, hS⟩
      · rcases List.mem_append.mp hp with h | h
        · by_cases hI : p.1 = s.heap.objs.size
          · exact N' p (ho p (List.mem_filter.mpr ⟨h, by simpa using hI⟩))
          · have h1 : p.1 = l := by
              rcases List.mem_cons.mp (hown p h) with h2 | h2
              · exact absurd h2 hI
              · exact List.mem_singleton.mp h2
            have h2 := hget p h
            rw [h1, hlo] at h2
            have h3 : p = (l, _) := Prod.ext h1 (Option.some.inj h2).symm
            rw [h3]
            exact N' _ (hn _ (by rw [hS.1]; exact hl))
        · exact N' p (hn p h)
      · rw [hS.1] at hp
        exact absurd (Heap.lt_size (N p hp).1) (List.mem_singleton.mp hI ▸ Nat.lt_irrefl _)
    cases f with
    | ret v => exact .ret p
    | brk => exact .brk p
    | next => exact .next (fin p)
    | cont => exact .cont (fin p)
  · rintro h' tk m' nx F' N' _ S
    rw [S.frame] at F'
    rw [S.1] at N'
    exact done m' h' tk F' N'
end

/-- behind the law's first «if»: numbers is a list of ints of the call's own -/
def Joined (h₀ : Heap) (L : Addr) (m₀ : Str → Option Value) (s : Shared) (f : Flow) (s' : Shared) : Prop :=
  f = .next ∧ ∃ (D : Addr) (vs : List Value) (ns : List Int) (nn : Nat) (h : Heap) (tk : Nat), s' = { s with heap := h, toks := tk } ∧ Fr h₀ L h (fun y => if y = PySem.Str.ofString "numbers" then some (.ref D) else m₀ y) ∧ News h₀ L h [(D, listOf vs.toArray nn)] ∧ IntsAre vs ns
theorem join_at {prog : Program} {w : World} {A : Around} {E : Value → Shared → Prop} {s : Shared} {h₀ : Heap} {L D₀ : Addr} {m₀ : Str → Option Value} {t : Sem Flow} {Q : Flow → Shared → Prop}
    (_ : Fr h₀ L s.heap (fun y => if y = PySem.Str.ofString "numbers" then some (.ref D₀) else m₀ y)) (first : wpAny (model prog w) A t (Joined h₀ L m₀ s) E s) (second : ∀ f s', Joined h₀ L m₀ s f s' → Q f s') :
    wpAny (model prog w) A t Q E s := wpAny_mono first second fun _ _ x => x
theorem joined_old {s : Shared} {h₀ h : Heap} {L D : Addr} {m₀ : Str → Option Value} {news : List (Addr × Obj)} {vs : List Value} {ns : List Int} {nn tk : Nat}
    (F : Fr h₀ L h (fun y => if y = PySem.Str.ofString "numbers" then some (.ref D) else m₀ y)) (N : News h₀ L h news) (hm : (D, listOf vs.toArray nn) ∈ news) (hi : IntsAre vs ns) : Joined h₀ L m₀ s .next { s with heap := h, toks := tk } :=
  ⟨rfl, D, vs, ns, nn, h, tk, rfl, F, fun p hp => by rw [List.mem_singleton.mp hp]; exact N _ hm, hi⟩
theorem joined_new {s : Shared} {h₀ h : Heap} {L D D₀ : Addr} {m₀ : Str → Option Value} {news : List (Addr × Obj)} {vs : List Value} {ns : List Int} {nn tk : Nat}
    (F : Fr h₀ L h (fun y => if y = PySem.Str.ofString "numbers" then some (.ref D) else if y = PySem.Str.ofString "numbers" then some (.ref D₀) else m₀ y)) (N : News h₀ L h news) (hm : (D, listOf vs.toArray nn) ∈ news) (hi : IntsAre vs ns) : Joined h₀ L m₀ s .next { s with heap := h, toks := tk } := by
  refine joined_old ?_ N hm hi
  have e : (fun y => if y = PySem.Str.ofString "numbers" then some (Value.ref D) else m₀ y) = fun y => if y = PySem.Str.ofString "numbers" then some (Value.ref D) else if y = PySem.Str.ofString "numbers" then some (.ref D₀) else m₀ y := by
    funext y
    by_cases h : y = PySem.Str.ofString "numbers"
    · rw [if_pos h, if_pos h]
    · rw [if_neg h, if_neg h, if_neg h]
  rw [e]
  exact F
section
variable {prog : Program} {w : World} {A : Around} {E : Value → Shared → Prop} {s : Shared} {t u : Tok} {Q : Value → Shared → Prop}
theorem pow_draw {r : Int} (h : ∀ P t' k', 1 ≤ P → P ≤ 18446744073709551616 → Q (.int P t') { s with toks := k' }) : wpAny (model prog w) A (binaryOp .Pow (.int 256 t) (.int (r.fmod 9) u)) Q E s := by
  have e : r.fmod 9 = r % 9 := Int.fmod_eq_emod_of_nonneg _ (by decide)
  have h0 : 0 ≤ r.fmod 9 := by omega
  have h8 : (r.fmod 9).toNat ≤ 8 := by omega
  refine pow_int_small h0 (by omega) (by decide) (h _ _ _ ?_ ?_)
  · have : 0 < (256 : Int) ^ (r.fmod 9).toNat := Int.pow_pos (by decide)
    omega
  · rw [KTBy.p256]
    have h2 : 256 ^ (r.fmod 9).toNat ≤ 256 ^ 8 := Nat.pow_le_pow_right (by decide) h8
    have h3 : (256 : Nat) ^ 8 = 18446744073709551616 := by decide
    omega
theorem pow_8 (h : ∀ t' k', Q (.int 18446744073709551616 t') { s with toks := k' }) : wpAny (model prog w) A (binaryOp .Pow (.int 256 t) (.int 8 u)) Q E s :=
  pow_int_small (by decide) (by decide) (by decide) (h _ _)
theorem pow_66 (h : ∀ t' k', Q (.int 73786976294838206464 t') { s with toks := k' }) : wpAny (model prog w) A (binaryOp .Pow (.int 2 t) (.int 66 u)) Q E s :=
  pow_int_small (by decide) (by decide) (by decide) (h _ _)
theorem fmod_in {r m : Int} (hm : 0 < m) : 0 ≤ r.fmod m ∧ r.fmod m < m := by
  rw [Int.fmod_eq_emod_of_nonneg _ (by omega)]
  exact ⟨Int.emod_nonneg _ (by omega), Int.emod_lt_of_pos _ hm⟩
end
end
end Mine

namespace Mine
section
open PySem PySem.W PySem.Calls PyProof.Rows PyProof.V PySem.Spec

theorem in_append {a b : List Int} (ha : KBa.In a) (hb : KBa.In b) : KBa.In (a ++ b) := fun y hy => (List.mem_append.mp hy).elim (ha y) (hb y)
theorem in_head {base size : Int} (hs0 : 0 ≤ size) (hs1 : size < 18446744073709551616) (hb : base = 128 ∨ base = 192) : KBa.In (headInts base size) := by
  have hdig : dig size.toNat ≤ 8 := dig_le (by have e : (256 : Nat) ^ 8 = 18446744073709551616 := by decide
                                               rw [e]; omega)
  unfold headInts
  split
  · intro y hy
    rw [List.mem_singleton.mp hy]
    omega
  · intro y hy
    rcases List.mem_cons.mp hy with rfl | hy
    · omega
    · exact little_in _ _ y (List.mem_reverse.mp hy)
theorem head_len {base size : Int} (hs0 : 0 ≤ size) (hs1 : size < 18446744073709551616) : (headInts base size).length ≤ 9 := by
  have hdig : dig size.toNat ≤ 8 := dig_le (by have e : (256 : Nat) ^ 8 = 18446744073709551616 := by decide
                                               rw [e]; omega)
  unfold headInts
  split
  · simp
  · simp only [List.length_cons, List.length_reverse, KTBy.little_length]
    omega
theorem reads_eq (bs ds : List Int) (c : Int) : reads bs ds c = bs ++ (c :: ds) ++ [255] := by
  unfold reads
  simp

section
variable {w : World} {mean : ExcName → Option Value} {mg mb : Str → Option Value} {loose : List Str}
theorem clp (bs : List Int) (size base : Int) (kind : Str) (hs0 : 0 ≤ size) (hs1 : size < 18446744073709551616) (hk : (base = 128 ∧ kind = PySem.Str.ofString "bytes") ∨ (base = 192 ∧ kind = PySem.Str.ofString "list")) (hin : KBa.In bs) (hbs : bs.length ≤ 1000) :
    ∃ c ds, headInts base size = c :: ds ∧ ClaimP w loose mean mg mb bs ds c kind size ((bs.length : Nat) + ((headInts base size).length : Nat)) := by
  have hb : base = 128 ∨ base = 192 := by rcases hk with ⟨h, _⟩ | ⟨h, _⟩ <;> omega
  have hH := in_head hs0 hs1 hb
  have hall : ∀ c ds, headInts base size = c :: ds → KBa.In (reads bs ds c) := by
    intro c ds e
    rw [reads_eq, ← e]
    exact in_append (in_append hin hH) (fun y hy => by rw [List.mem_singleton.mp hy]; omega)
  by_cases hs : size < 56
  · have e : headInts base size = [base + size] := by unfold headInts; rw [if_pos hs]
    refine ⟨_, _, e, ?_⟩
    have hi := hall _ _ e
    rw [e]
    have el : ((bs.length : Nat) : Int) + (([base + size].length : Nat) : Int) = (bs.length : Nat) + 1 := rfl
    rw [el]
    rcases hk with ⟨rfl, rfl⟩ | ⟨rfl, rfl⟩
    · have h := clpA (w := w) (mean := mean) (mg := mg) (mb := mb) (loose := loose) bs size hs0 hs hi hbs
      rw [show (128 + size - 128 : Int) = size by omega] at h
      exact h
    · have h := clpB (w := w) (mean := mean) (mg := mg) (mb := mb) (loose := loose) bs size hs0 hs hi hbs
      rw [show (192 + size - 192 : Int) = size by omega] at h
      exact h
  · have hdig : dig size.toNat ≤ 8 := dig_le (by have e : (256 : Nat) ^ 8 = 18446744073709551616 := by decide
                                                 rw [e]; omega)
    obtain ⟨d, ds, ed, hd0, hd1⟩ := first_digit (n := size) (by omega)
    have e : headInts base size = (base + 55 + (dig size.toNat : Int)) :: d :: ds := by unfold headInts; rw [if_neg hs, ed]
    have hl : (ds.length : Int) + 1 = (dig size.toNat : Int) := by
      have := congrArg List.length ed
      rw [List.length_reverse, KTBy.little_length, List.length_cons] at this
      omega
    have hv : KFB.value (d :: ds) = size := by
      rw [← ed]
      refine value_little _ _ hs0 ?_
      have := (dig_spec size.toNat).1
      rw [KTBy.p256]
      omega
    have hin2 : KBa.In (d :: ds) := by
      rw [← ed]
      exact fun y hy => little_in _ _ y (List.mem_reverse.mp hy)
    refine ⟨_, _, e, ?_⟩
    have hi := hall _ _ e
    have el : (((headInts base size).length : Nat) : Int) = 1 + (dig size.toNat : Int) := by
      rw [e]
      simp only [List.length_cons]
      omega
    rw [el]
    rcases hk with ⟨rfl, rfl⟩ | ⟨rfl, rfl⟩
    · rw [show (128 + 55 + (dig size.toNat : Int)) = 183 + (dig size.toNat : Int) by omega] at hi ⊢
      have h := clpC (w := w) (mean := mean) (mg := mg) (mb := mb) (loose := loose) bs ds d (dig size.toNat) size hl (by omega) hd0 hd1 hv (by omega) hi hin2 hbs
      rw [show ((bs.length : Nat) : Int) + 1 + (183 + (dig size.toNat : Int) - 183) = (bs.length : Nat) + (1 + (dig size.toNat : Int)) by omega] at h
      exact h
    · rw [show (192 + 55 + (dig size.toNat : Int)) = 247 + (dig size.toNat : Int) by omega] at hi ⊢
      have h := clpD (w := w) (mean := mean) (mg := mg) (mb := mb) (loose := loose) bs ds d (dig size.toNat) size hl (by omega) hd0 hd1 hv (by omega) hi hin2 hbs
      rw [show ((bs.length : Nat) : Int) + 1 + (247 + (dig size.toNat : Int) - 192 - 56 + 1) = (bs.length : Nat) + (1 + (dig size.toNat : Int)) by omega] at h
      exact h
theorem use_clp {bs : List Int} {size base : Int} {kind : Str} (hs0 : 0 ≤ size) (hs1 : size < 18446744073709551616) (hk : (base = 128 ∧ kind = PySem.Str.ofString "bytes") ∨ (base = 192 ∧ kind = PySem.Str.ofString "list")) (hin : KBa.In bs) (hbs : bs.length ≤ 1000)
    {t u : Tok} {news : List (Addr × Obj)} {dp un : Nat} {gd : Option (List Code)} {cn : Str} {cs : Scope} {a : Addr} {ccd : Value} {cl : List (Str × Addr)} {outer : List Env} {A₀ : Around} {bse h₀ : Heap} {L : Addr} {m : Str → Option Value} {s : Shared} {Q E : Value → Shared → Prop}
    (B : Below A₀ bse outer h₀) (F : Fr h₀ L s.heap m) (X : (hd.heap_39 w.params).In h₀) (N : News h₀ L s.heap news) (T : Top hd.view_39 loose mean mg mb h₀) (hkk : cs.kind = .function) (hd : dp + 2 < recursionLimit) (hu : un + 16 < cLine)
    (hR : ∀ (T : Addr) (h' : Heap) (tk' : Nat) (t1 t2 t3 t4 : Tok), Fr h₀ L h' m → News h₀ L h' ((T, { cls := Value.type "tuple", data := Data.seq #[Value.bytes (byteArr (headInts base size)) t1, Value.str kind t2, Value.int size t3, Value.int ((bs.length : Nat) + ((headInts base size).length : Nat)) t4] }) :: news) → (∀ p ∈ news, p.1 < T) → Q (.ref T) { s with heap := h', toks := tk' }) :
    wpAny (model PySem.Challenge.rw_it0024_01.row.prog w) (ktrTop dp un gd cn cs L a ccd cl outer) (call (.ref 1364) [.bytes (byteArr (bs ++ headInts base size ++ [255])) t, .int (bs.length : Nat) u]) Q E s := by
  obtain ⟨c, ds, e, h⟩ := clp (w := w) (mean := mean) (mg := mg) (mb := mb) (loose := loose) bs size base kind hs0 hs1 hk hin hbs
  have h := h t u news dp un gd cn cs a ccd cl outer A₀ bse h₀ L m s Q E B F X N T hkk hd hu
  rw [reads_eq, ← e] at h
  exact h hR
end

section
variable {prog : Program} {w : World} {A : Around} {E : Value → Shared → Prop} {s : Shared} {t u : Tok} {Q : Value → Shared → Prop}
theorem add_ff {ks : List Int} (hs : ks.length ≤ 100000) (h : ∀ t' k, Q (.bytes (byteArr (ks ++ [255])) t') { s with toks := k }) :
    wpAny (model prog w) A (binaryOp .Add (.bytes (byteArr ks) t) (.bytes (List.toArray [255]) u)) Q E s :=
  add_arr (ls := [255]) (by simp only [List.length_cons, List.length_nil]; omega) h
theorem ne_same {b : Array UInt8} (h : Q (.bool false) s) : wpAny (model prog w) A (compareOp .NotEq (.bytes b t) (.bytes b u)) Q E s := by
  refine ne_bytes ?_
  have : (b.toList != b.toList) = false := by simp
  rw [this]
  exact h
end
theorem sum_le {a b : Nat} (ha : a ≤ 1000) (hb : b ≤ 9) : a + b ≤ 16777216 := by omega
theorem sum_le' {k l : List Int} (ha : k.length ≤ 1000) (hb : l.length ≤ 9) : (k ++ l).length ≤ 100000 := by rw [List.length_append]; omega
theorem octs_le {r : Int} : (KTBy.little (r.fmod 5).toNat r).length ≤ 1000 := by
  have := fmod_in (r := r) (m := 5) (by decide)
  rw [KTBy.little_length]
  omega
section
variable {A : Around} {s : Shared}
open PySem.SeqAt in
theorem eqAt_bytes (b : Array UInt8) (t u : Tok) : EqAt A s (.bytes b t) (.bytes b u) true := fun prog w E Q h => by
  unfold eqBool
  refine wpAny_holding ?_
  refine wpAny_ite_split (fun _ => wpAny_bind (wpAny_rule (wpAny_pure h))) (fun _ => ?_)
  have e : (b.toList == b.toList) = true := by simp
  have g : wpAny (model prog w) A (compareOp .Eq (.bytes b t) (.bytes b u)) (fun v s' => wpAny (model prog w) A (truthOfDropped v) Q E s') E s := eq_bytes (by rw [e]; exact wpAny_truthy_bool h)
  exact wpAny_bind g
open PySem.SeqAt in
theorem ne_tups {prog : Program} {w : World} {E : Value → Shared → Prop} {h₀ : Heap} {L T D : Addr} {news : List (Addr × Obj)} {Q : Value → Shared → Prop} {b : Array UInt8} {k : Str} {z e : Int} {t1 t2 t3 t4 u1 u2 u3 u4 : Tok} (N : News h₀ L s.heap news)
    (h1 : (T, ({ cls := Value.type "tuple", data := Data.seq #[Value.bytes b t1, Value.str k t2, Value.int z t3, Value.int e t4] } : Obj)) ∈ news)
    (h2 : (D, ({ cls := Value.type "tuple", data := Data.seq #[Value.bytes b u1, Value.str k u2, Value.int z u3, Value.int e u4] } : Obj)) ∈ news) (hu : A.units + 64 < cLine) (h : Q (.bool false) s) :
    wpAny (model prog w) A (compareOp .NotEq (.ref T) (.ref D)) Q E s := by
  refine RcNeAt.tuples (e := fun _ => true) ⟨_, (N _ h1).1, rfl, 0, rfl⟩ ⟨_, (N _ h2).1, rfl, 0, rfl⟩ (by omega) ?_ prog w E Q (show Q (.bool false) s from h)
  intro j j1 j2
  match j, j1, j2 with
  | 0, _, _ => exact eqAt_bytes b t1 u1
  | 1, _, _ => have := EqAt.str_str (A := A.in1) (s := s) k t2 k u2; simpa using this
  | 2, _, _ => have := EqAt.int_int (A := A.in1) (s := s) z t3 z u3; simpa using this
  | 3, _, _ => have := EqAt.int_int (A := A.in1) (s := s) e t4 e u4; simpa using this
  | j + 4, j1, _ => exact absurd j1 (by simp)
end
theorem end_turn {h₀ h' : Heap} {L : Addr} {x : Str} {stored : List Str} {m₀ m' : Str → Option Value} {news news' own : List (Addr × Obj)} {s₁ : Shared} {tk : Nat} {Q : Flow → Shared → Prop} (F : Fr h₀ L h' m') (N : News h₀ L h' news') (hn : ∀ p ∈ news, p ∈ news') (ho : ∀ p ∈ own, p ∈ news')
    (hs : ∀ z, z ≠ x → stored.contains z = false → m' z = m₀ z) : InvPostN h₀ L (Same x stored m₀ news) own (news.map (·.1)) s₁ Q .next { s₁ with heap := h', toks := tk } :=
  InvEndN.intro F N ⟨rfl, hs⟩ rfl hn ho
theorem end_cont {h₀ h' : Heap} {L : Addr} {x : Str} {stored : List Str} {m₀ m' : Str → Option Value} {news news' own : List (Addr × Obj)} {s₁ : Shared} {tk : Nat} {Q : Flow → Shared → Prop} (F : Fr h₀ L h' m') (N : News h₀ L h' news') (hn : ∀ p ∈ news, p ∈ news') (ho : ∀ p ∈ own, p ∈ news')
    (hs : ∀ z, z ≠ x → stored.contains z = false → m' z = m₀ z) : InvPostN h₀ L (Same x stored m₀ news) own (news.map (·.1)) s₁ Q .cont { s₁ with heap := h', toks := tk } :=
  InvEndN.intro F N ⟨rfl, hs⟩ rfl hn ho
end
end Mine

namespace Mine
section
open PySem PySem.W PySem.Calls PyProof.Rows PyProof.V PySem.Spec

local macro_rules | `(tactic| walk_at "binaryOp Pow int int") => `(tactic| (k_here; first | (refine Mine.pow_8 ?_; intro _ _) | (refine Mine.pow_66 ?_; intro _ _) | (refine Mine.pow_draw ?_; intro P9 _ _ hP9 hP8)))
local macro_rules | `(tactic| walk_at "exec For Name Tuple cons nil") => `(tactic| (k_here; (rename Fr _ _ _ _ => forF); (with_unfolding_all refine' For_invVF forF ?k1 ?k2 ?_; (case k1 => exact rfl); (case k2 => exact rfl); k_whole)))
local macro_rules | `(tactic| walk_at "call ref") => `(tactic| (k_here; (with_reducible show wpAny _ _ (call (Value.ref 1378) _) _ _ _); refine Mine.Stop.out ?_))
local macro_rules | `(tactic| walk_at "call ref") => `(tactic| (k_here; (with_reducible show wpAny _ _ (call (Value.ref 1371) _) _ _ _); refine Mine.Stop.out ?_))
local macro_rules | `(tactic| walk_at "call ref") => `(tactic| (k_here; (with_reducible show wpAny _ _ (call (Value.ref 1364) _) _ _ _); refine Mine.Stop.out ?_))
local macro_rules | `(tactic| walk_at "call ref") => `(tactic| (k_here; (with_reducible show wpAny _ _ (call (Value.ref 1357) [Value.int _ _, Value.int _ _]) _ _ _); k_dflt (refine' Mine.use_claim (Mine.lp _ _ _ _) ?k1 ?k2 ?k3 ?k4 ?k5 ?kK ?kp ?kd ?ku ?_; (case kp => exact ⟨by assumption, by assumption, by assumption⟩); (case k1 => k_asm); (case k2 => k_asm); (case k3 => k_asm); (case k4 => k_asm); (case k5 => k_asm); (case kK => first | exact rfl | assumption); (case kd => ktr_room); (case ku => ktr_units); intro t9 h9 tk9 F9 N9; (try dsimp only); (try k_fold))))
local macro_rules | `(tactic| walk_at "call ref") => `(tactic| (k_here; (with_reducible show wpAny _ _ (call (Value.ref 1378) [Value.int _ _, Value.int _ _]) _ _ _); k_dflt (refine' Mine.use_claim (Mine.lh _ _ _ _) ?k1 ?k2 ?k3 ?k4 ?k5 ?kK ?kp ?kd ?ku ?_; (case kp => exact ⟨by assumption, by assumption, by assumption⟩); (case k1 => k_asm); (case k2 => k_asm); (case k3 => k_asm); (case k4 => k_asm); (case k5 => k_asm); (case kK => first | exact rfl | assumption); (case kd => ktr_room); (case ku => ktr_units); intro t9 h9 tk9 F9 N9; (try dsimp only); (try k_fold))))
local macro_rules | `(tactic| walk_at "call ref") => `(tactic| (k_here; (with_reducible show wpAny _ _ (call (Value.ref 1371) [Value.int _ _, Value.int _ _]) _ _ _); k_dflt (refine' Mine.use_claim (Mine.octetsC _ _ _ _) ?k1 ?k2 ?k3 ?k4 ?k5 ?kK ?kp ?kd ?ku ?_; (case kp => exact ⟨by assumption, (Mine.fmod_in (by decide)).1, Int.lt_trans (Mine.fmod_in (by decide)).2 (by decide)⟩); (case k1 => k_asm); (case k2 => k_asm); (case k3 => k_asm); (case k4 => k_asm); (case k5 => k_asm); (case kK => first | exact rfl | assumption); (case kd => ktr_room); (case ku => ktr_units); intro t9 h9 tk9 F9 N9; (try dsimp only); (try k_fold))))
local macro_rules | `(tactic| walk_at "call ref") => `(tactic| (k_here; (with_reducible show wpAny _ _ (call (Value.ref 1364) [Value.bytes _ _, Value.int _ _]) _ _ _); k_dflt (refine' Mine.use_clp (base := _) ?ks0 ?ks1 ?kk ?kin ?kbs ?k1 ?k2 ?k3 ?k4 ?k5 ?kK ?kd ?ku ?_; (case ks0 => assumption); (case ks1 => assumption); (case k1 => k_asm); (case k2 => k_asm); (case k3 => k_asm); (case k4 => k_asm); (case k5 => k_asm); (case kK => first | exact rfl | assumption); (case kd => ktr_room); (case ku => ktr_units); (case kin => exact Mine.little_in _ _); (case kbs => exact Mine.octs_le); (case kk => first | exact Or.inl ⟨by assumption, rfl⟩ | exact Or.inr ⟨by omega, rfl⟩); intro T9 h9 tk9 t91 t92 t93 t94 F9 N9 l9; (try k_lt l9); (try k_sweep); (try dsimp only); (try k_fold))))
local macro_rules | `(tactic| walk_at "compareOp NotEq bytes bytes") => `(tactic| (k_here; refine Mine.ne_same ?_))
local macro_rules | `(tactic| walk_at "call builtin:len") => `(tactic| (k_here; (with_reducible show wpAny _ _ (call (Value.builtin "len") [Value.bytes (byteArr _) _]) _ _ _); refine Mine.len_arr ?z ?_; (case z => first | exact Nat.le_trans Mine.octs_le (by decide) | exact Nat.le_trans (Mine.head_len (by assumption) (by assumption)) (by decide)); intro _ _))
local macro_rules | `(tactic| walk_at "binaryOp Add bytes bytes") => `(tactic| (k_here; first | ((with_reducible show wpAny _ _ (binaryOp Operator.Add (Value.bytes (byteArr _) _) (Value.bytes (byteArr _) _)) _ _ _); refine Mine.add_arr ?z ?_; (case z => exact Mine.sum_le Mine.octs_le (Mine.head_len (by assumption) (by assumption))); intro _ _) | (refine Mine.add_ff ?z ?_; (case z => exact Mine.sum_le' Mine.octs_le (Mine.head_len (by assumption) (by assumption))); intro _ _)))
local macro_rules | `(tactic| walk_at "compareOp NotEq ref ref") => `(tactic| (k_here; k_dflt (refine' Mine.ne_tups ?N ?a ?b ?u ?_; (case N => k_asm); (case a => exact .head _); (case b => exact .tail _ (.head _)); (case u => ke_room))))
theorem main : PySem.Challenge.rw_it0024_01.Holds := hd (by
  w_strict (
    k_with_none
    w_top off
    k_go0
    (all_goals try k_fold)
    k_with "exec If" => refine Mine.Stop.out ?_
    k_steps
    refine Mine.Stop.mk ?_
    rename Fr _ _ _ _ => lF'
    k_dflt (refine Mine.join_at lF' ?first ?second)
    case first =>
      k_with_none
      k_steps
      · k_dflt (exact Mine.joined_new (by assumption) (by assumption) (.head _) (.cons _ _ .nil))
      · k_dflt (exact Mine.joined_old (by assumption) (by assumption) (.tail _ (.head _)) (by assumption))
    case second =>
      k_with_none
      clear lF'
      rintro f s' ⟨rfl, D, vs, ns, nn, h, tk, rfl, F', N', hI⟩
      k_with "pyIter ref" => refine Mine.Stop.out ?_
      k_steps
      refine Mine.Stop.mk ?_
      rename Fr _ _ _ _ => lF'
      (with_unfolding_all refine' Mine.list_loop (nn := nn) [PySem.Str.ofString "rest", PySem.Str.ofString "size", PySem.Str.ofString "base", PySem.Str.ofString "told", PySem.Str.ofString "before", PySem.Str.ofString "kind", PySem.Str.ofString "due"] (by rfl) (List.mem_singleton.mpr rfl) hI lF' N' ?turn ?done)
      case done =>
        clear lF' N'
        intro u h2 tk2 F' N'
        k_with_none
        k_steps
      case turn =>
        clear lF' N'
        intro n t u h2 tk2 own hn hoff F' N'
        simp only [List.map_cons, List.map_nil] at hoff
        simp only [List.cons_append, List.nil_append] at N'
        have kMark := kstMark
        k_with "eval Tuple" => refine Mine.Stop.out ?_
        k_steps
        refine Mine.Stop.mk ?_
        rename Fr _ _ _ _ => aF
        have hr0 : 0 ≤ (if n < 0 then -n else n) := by split <;> omega
        generalize (if n < 0 then -n else n) = r at aF hr0
        k_with_none
        k_with "pyIter ref" => refine Mine.Stop.out ?_
        k_steps
        refine Mine.Stop.mk ?_
        rename Fr _ _ _ _ => lF'
        rename News _ _ _ _ => lN'
        rename (1 : Int) ≤ _ => hP1
        rename _ ≤ (18446744073709551616 : Int) => hP2
        (with_unfolding_all refine' Mine.tup_loop [PySem.Str.ofString "base", PySem.Str.ofString "told", PySem.Str.ofString "before", PySem.Str.ofString "kind", PySem.Str.ofString "due"] ?hh ?hm ?hi ?hF ?hN ?turn ?done)
        case hh => exact rfl
        case hF => exact lF'
        case hN => exact lN'
        case hm => exact .head _
        case hi => exact .cons _ _ (.cons _ _ (.cons _ _ .nil))
        case done =>
          clear lF' lN'
          intro u3 h3 tk3 F' N'
          k_with_none
          k_with "InvPostN" => refine Mine.Stop.out ?_
          k_steps
          refine Mine.Stop.mk ?_
          rename Fr _ _ _ _ => eF
          rename News _ _ _ _ => eN
          k_dflt (refine Mine.end_turn eF eN (fun p hp => .tail _ (List.mem_append_left own hp)) (fun p hp => .tail _ (show p ∈ [_] ++ own from List.mem_append_right _ hp)) ?_)
          intro z h1 h2
          have h3 := h2
          simp only [List.contains_cons, List.contains_nil, Bool.or_false, Bool.or_eq_false_iff, beq_eq_false_iff_ne, ne_eq] at h3
          simp [h1, h2, h3]
        case turn =>
          clear lF' lN'
          intro size ts u3 h3 tk3 own3 hsz hoff3 F' N'
          have hs0 : 0 ≤ size := by
            have f2 := Mine.fmod_in (r := r.fdiv 9) (m := 2) (by decide)
            have f1 := Mine.fmod_in (r := r) (m := 60) (by decide)
            have f3 := Mine.fmod_in (r := r) (m := 73786976294838206464) (by decide)
            simp only [List.mem_cons, List.not_mem_nil, or_false] at hsz
            rcases hsz with h | h | h <;> omega
          clear hsz hP1 hP2
          simp only [List.map_cons, List.cons_append] at hoff3 N'
          k_with "pyIter ref" => refine Mine.Stop.out ?_
          k_steps
          refine Mine.Stop.mk ?_
          rename Fr _ _ _ _ => lF'
          rename News _ _ _ _ => lN'
          (with_unfolding_all refine' Mine.tup_loop [PySem.Str.ofString "told", PySem.Str.ofString "before", PySem.Str.ofString "kind", PySem.Str.ofString "due"] ?hh ?hm ?hi ?hF ?hN ?turn ?done)
          case hh => exact rfl
          case hF => exact lF'
          case hN => exact lN'
          case hm => exact .head _
          case hi => exact .cons _ _ (.cons _ _ .nil)
          case done =>
            clear lF' lN'
            intro u4 h4 tk4 F' N'
            k_with_none
            k_with "InvPostN" => refine Mine.Stop.out ?_
            k_steps
            refine Mine.Stop.mk ?_
            rename Fr _ _ _ _ => eF
            rename News _ _ _ _ => eN
            k_dflt (refine Mine.end_turn eF eN (fun p hp => .tail _ (List.mem_append_left own3 hp)) (fun p hp => .tail _ (show p ∈ (_ :: _ :: own) ++ own3 from List.mem_append_right _ hp)) ?_)
            intro z h1 h2
            have h3 := h2
            simp only [List.contains_cons, List.contains_nil, Bool.or_false, Bool.or_eq_false_iff, beq_eq_false_iff_ne, ne_eq] at h3
            simp [h1, h2, h3]
          case turn =>
            clear lF' lN'
            intro base tb u4 h4 tk4 own4 hb hoff4 F' N'
            have hbase : base = 128 ∨ base = 192 := by
              simp only [List.mem_cons, List.not_mem_nil, or_false] at hb
              exact hb
            clear hb
            simp only [List.map_cons, List.cons_append] at hoff4 N'
            k_with_none
            by_cases hbig : size < 18446744073709551616
            · have hr5 := Mine.fmod_in (r := r) (m := 5) (by decide)
              k_with "InvPostN" => refine Mine.Stop.out ?_
              k_steps
              all_goals (
                refine Mine.Stop.mk ?_
                rename Fr _ _ _ _ => eF
                rename News _ _ _ _ => eN
                k_dflt (refine Mine.end_turn eF eN (fun p hp => .tail _ (.tail _ (List.mem_append_left own4 hp))) (fun p hp => .tail _ (.tail _ (show p ∈ (_ :: _ :: _ :: (own ++ own3)) ++ own4 from List.mem_append_right _ hp))) ?_)
                intro z h1 h2
                have h3 := h2
                simp only [List.contains_cons, List.contains_nil, Bool.or_false, Bool.or_eq_false_iff, beq_eq_false_iff_ne, ne_eq] at h3
                simp [h1, h2, h3])
            · k_with "InvPostN" => refine Mine.Stop.out ?_
              k_steps
              refine Mine.Stop.mk ?_
              rename Fr _ _ _ _ => eF
              rename News _ _ _ _ => eN
              k_dflt (refine Mine.end_cont eF eN (fun p hp => List.mem_append_left own4 hp) (fun p hp => (show p ∈ (_ :: _ :: _ :: (own ++ own3)) ++ own4 from List.mem_append_right _ hp)) ?_)
              intro z h1 h2
              have h3 := h2
              simp only [List.contains_cons, List.contains_nil, Bool.or_false, Bool.or_eq_false_iff, beq_eq_false_iff_ne, ne_eq] at h3
              simp [h1, h2, h3]))
end
end Mine

theorem PySem.Challenge.cw_it0024_01_holds : PySem.Challenge.rw_it0024_01.Holds := by
  exact Mine.main
